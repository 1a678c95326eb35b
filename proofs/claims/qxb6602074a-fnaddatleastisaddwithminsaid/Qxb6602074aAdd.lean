/-
  WALKS OF THE SEAT b6602074a: 'Add', 'AddAtLeast', the bound on total length, 'zzSameStr', 'zzSameInt' at two nil pointers.
-/
import Derived.Test.Qxb6602074aScan
import Derived.Deep.QuietTactic
import Derived.BigQuiet
namespace Go.Proofs.Qxb6602074a
open Go.RowKit

theorem add_any (s : ByteArray) (d : Int) (w : World) :
    Calls Try.prog 9 #[.string s, .int .i64 d] w fun e w' =>
      e = .returned (.agg #[.string ⟨#[97, 100, 100]⟩, .pointer (some ⟨w.heap.size, 0, none⟩), .pointer none, .pointer none, .pointer none, .pointer none, .pointer (some ⟨w.heap.size + 1, 0, none⟩), .pointer none]) ∧
      w' = ((w.alloc (.cells #[.string s] 9)).alloc (.cells #[.int .i64 d] 2)).alloc
        (.cells #[.string ⟨#[97, 100, 100]⟩, .pointer (some ⟨w.heap.size, 0, none⟩), .pointer none, .pointer none, .pointer none, .pointer none, .pointer (some ⟨w.heap.size + 1, 0, none⟩), .pointer none] 30) := by
  go_enter Try.func9, Try.ntmps9
  go_wp2
  exact bodyPost_ret (v := .agg #[.string ⟨#[97, 100, 100]⟩, .pointer (some ⟨w.heap.size, 0, none⟩), .pointer none, .pointer none, .pointer none, .pointer none, .pointer (some ⟨w.heap.size + 1, 0, none⟩), .pointer none]) (by simp [results, Try.results9, go_sem]) rfl ⟨rfl, rfl⟩

theorem addatleast_any (s : ByteArray) (d m : Int) (w : World) :
    Calls Try.prog 10 #[.string s, .int .i64 d, .int .i64 m] w fun e w' =>
      e = .returned (.agg #[.string ⟨#[97, 100, 100]⟩, .pointer (some ⟨w.heap.size + 1 + 1, 0, none⟩), .pointer none, .pointer none, .pointer none, .pointer none, .pointer (some ⟨w.heap.size + 1 + 1 + 1, 0, none⟩), .pointer (some ⟨w.heap.size, 0, none⟩)]) ∧
      w' = (((((w.alloc (.cells #[.int .i64 m] 2)).alloc
        (.cells #[.string ⟨#[97, 100, 100]⟩, .pointer (some ⟨w.heap.size + 1 + 1, 0, none⟩), .pointer none, .pointer none, .pointer none, .pointer none, .pointer (some ⟨w.heap.size + 1 + 1 + 1, 0, none⟩), .pointer (some ⟨w.heap.size, 0, none⟩)] 30)).alloc
        (.cells #[.string s] 9)).alloc (.cells #[.int .i64 d] 2)).alloc
        (.cells #[.string ⟨#[97, 100, 100]⟩, .pointer (some ⟨w.heap.size + 1 + 1, 0, none⟩), .pointer none, .pointer none, .pointer none, .pointer none, .pointer (some ⟨w.heap.size + 1 + 1 + 1, 0, none⟩), .pointer none] 30)).alloc
        (.cells #[.string ⟨#[97, 100, 100]⟩, .pointer (some ⟨w.heap.size + 1 + 1, 0, none⟩), .pointer none, .pointer none, .pointer none, .pointer none, .pointer (some ⟨w.heap.size + 1 + 1 + 1, 0, none⟩), .pointer (some ⟨w.heap.size, 0, none⟩)] 30) := by
  go_enter Try.func10, Try.ntmps10
  go_wp2_with (go_at_call 9; refine (add_any _ _ _).mono ?_; rintro e w' ⟨rfl, rfl⟩)
  exact bodyPost_ret (v := .agg #[.string ⟨#[97, 100, 100]⟩, .pointer (some ⟨w.heap.size + 1 + 1, 0, none⟩), .pointer none, .pointer none, .pointer none, .pointer none, .pointer (some ⟨w.heap.size + 1 + 1 + 1, 0, none⟩), .pointer (some ⟨w.heap.size, 0, none⟩)]) (by simp [results, Try.results10, go_sem]) rfl ⟨rfl, rfl⟩

theorem bytes8_any (s : ByteArray) (n m : Int) (w : World) (hs : s.size ≤ maxLen) :
    Calls Try.prog 8 #[.string s, .int .i64 n, .int .i64 m] w fun e w' => e = .returned (.bool (decide (s.size ≤ 1048576))) ∧ w' = w := by
  unfold maxLen at hs
  by_cases h : s.size ≤ 1048576
  · go_enter Try.func8, Try.ntmps8
    go_wp2
    go_ret
    exact ⟨by simp [h], rfl⟩
  · go_enter Try.func8, Try.ntmps8
    go_wp2
    go_ret
    exact ⟨by simp [h], rfl⟩

theorem samestr_nil (w : World) : Calls Try.prog 11 #[.pointer none, .pointer none] w fun e w' => e = .returned (.bool true) ∧ w' = w := by
  go_enter Try.func11, Try.ntmps11
  go_wp2
  go_ret
  exact ⟨rfl, rfl⟩
theorem sameint_nil (w : World) : Calls Try.prog 12 #[.pointer none, .pointer none] w fun e w' => e = .returned (.bool true) ∧ w' = w := by
  go_enter Try.func12, Try.ntmps12
  go_wp2
  go_ret
  exact ⟨rfl, rfl⟩

theorem least_long (s : ByteArray) (d m : Int) (w : World) (hs : s.size ≤ maxLen) (h : ¬ s.size ≤ 1048576) :
    Calls Try.prog 4 #[.string s, .int .i64 d, .int .i64 m] w fun e w' => e = .returned (.bool true) ∧ Grown w w' := by
  have hd : decide (s.size ≤ 1048576) = false := by simpa using h
  go_enter Try.func4, Try.ntmps4
  go_wp2_with (go_at_call 8; refine (bytes8_any _ _ _ _ hs).mono ?_; rintro e w' ⟨rfl, rfl⟩)
  go_ret
  exact ⟨rfl, Grown.refl _⟩

theorem grown_drewN {W w' : World} (n : Nat) (h : Grown W w') : Grown W (w'.drewN n) := h

set_option maxHeartbeats 800000 in
set_option maxRecDepth 100000 in
theorem least_short (s : ByteArray) (d m : Int) (w : World) (h : s.size ≤ 1048576) :
    Calls Try.prog 4 #[.string s, .int .i64 d, .int .i64 m] w fun e w' => e = .returned (.bool true) ∧ Grown w w' := by
  have hd : decide (s.size ≤ 1048576) = true := by simpa using h
  go_enter Try.func4, Try.ntmps4
  go_wp2_with (first | (go_at_call 8; refine (bytes8_any _ _ _ _ (by unfold maxLen; omega)).mono ?_; rintro e w' ⟨rfl, rfl⟩) | (go_at_call 9; refine (add_any _ _ _).mono ?_; rintro e w' ⟨rfl, rfl⟩) | (go_at_call 10; refine (addatleast_any _ _ _ _).mono ?_; rintro e w' ⟨rfl, rfl⟩) | (go_at_call 6; refine (zzreq _ _ _ _ _ _ _ _ _).mono ?_; rintro e w' ⟨rfl, rfl⟩) | (go_at_call 11; refine (samestr_nil _).mono ?_; rintro e w' ⟨rfl, rfl⟩) | (go_at_call 12; refine (sameint_nil _).mono ?_; rintro e w' ⟨rfl, rfl⟩))
  go_quiet (fail)
  go_wp2
  go_quiet (fail)
  go_wp2
  go_ret
  refine ⟨rfl, ?_⟩
  refine Grown.setCell (Grown.setCell (Grown.setCell (grown_drewN _ ?_) (Nat.le_refl _) _) (by dsimp only; omega) _) (by dsimp only; omega) _
  repeat (with_reducible refine Grown.alloc ?_ _ _)
  exact Grown.refl _

theorem least_walk (s : ByteArray) (d m : Int) (w : World) (hs : s.size ≤ maxLen) :
    Calls Try.prog 4 #[.string s, .int .i64 d, .int .i64 m] w fun e w' => e = .returned (.bool true) ∧ Grown w w' := by
  by_cases h : s.size ≤ 1048576
  · exact least_short s d m w h
  · exact least_long s d m w hs h
end Go.Proofs.Qxb6602074a
