/-
  WALKS OF THE SEAT b6602074a: 'FnScanRequestsShareNoMemory'.
-/
import Derived.Test.Qxb6602074aScan
namespace Go.Proofs.Qxb6602074a
open Go.RowKit

set_option maxHeartbeats 800000 in
set_option maxRecDepth 100000 in
theorem share_zero (s t : ByteArray) (w : World) (h : s.size + t.size ≤ 1048576) :
    Calls Try.prog 3 #[.string s, .string t, .int .i64 0] w fun e w' => e = .returned (.bool true) ∧ Grown w w' := by
  have hd : decide (s.size + t.size ≤ 1048576) = true := by simpa using h
  go_enter Try.func3, Try.ntmps3
  go_wp2_with (first | (go_at_call 5; refine (bytes5_any _ _ _ _ (by unfold maxLen; omega) (by unfold maxLen; omega)).mono ?_; rintro e w' ⟨rfl, rfl⟩) | (go_at_call 7; refine (scan_zero _ _ _).mono ?_; rintro e w' ⟨rfl, rfl⟩) | (go_at_call 6; refine (zzreq _ _ _ _ _ _ _ _ _).mono ?_; rintro e w' ⟨rfl, rfl⟩))
  go_ret
  exact ⟨rfl, by (repeat (with_reducible refine Grown.alloc ?_ _ _)); exact Grown.refl _⟩

set_option maxHeartbeats 800000 in
set_option maxRecDepth 100000 in
theorem share_lim (s t : ByteArray) (n : Int) (w : World) (hn : (n != 0) = true) (h : s.size + t.size ≤ 1048576) :
    Calls Try.prog 3 #[.string s, .string t, .int .i64 n] w fun e w' => e = .returned (.bool true) ∧ Grown w w' := by
  have hd : decide (s.size + t.size ≤ 1048576) = true := by simpa using h
  go_enter Try.func3, Try.ntmps3
  go_wp2_with (first | (go_at_call 5; refine (bytes5_any _ _ _ _ (by unfold maxLen; omega) (by unfold maxLen; omega)).mono ?_; rintro e w' ⟨rfl, rfl⟩) | (go_at_call 7; refine (scan_lim _ _ _ hn _).mono ?_; rintro e w' ⟨rfl, rfl⟩) | (go_at_call 6; refine (zzreq _ _ _ _ _ _ _ _ _).mono ?_; rintro e w' ⟨rfl, rfl⟩))
  go_ret
  exact ⟨rfl, by (repeat (with_reducible refine Grown.alloc ?_ _ _)); exact Grown.refl _⟩

theorem share_long (s t : ByteArray) (n : Int) (w : World) (hs : s.size ≤ maxLen) (ht : t.size ≤ maxLen) (h : ¬ s.size + t.size ≤ 1048576) :
    Calls Try.prog 3 #[.string s, .string t, .int .i64 n] w fun e w' => e = .returned (.bool true) ∧ Grown w w' := by
  have hd : decide (s.size + t.size ≤ 1048576) = false := by simpa using h
  go_enter Try.func3, Try.ntmps3
  go_wp2_with (go_at_call 5; refine (bytes5_any _ _ _ _ hs ht).mono ?_; rintro e w' ⟨rfl, rfl⟩)
  go_ret
  exact ⟨rfl, Grown.refl _⟩

theorem share_walk (s t : ByteArray) (n : Int) (w : World) (hs : s.size ≤ maxLen) (ht : t.size ≤ maxLen) :
    Calls Try.prog 3 #[.string s, .string t, .int .i64 n] w fun e w' => e = .returned (.bool true) ∧ Grown w w' := by
  by_cases h : s.size + t.size ≤ 1048576
  · by_cases hn : n = 0
    · subst hn; exact share_zero s t w h
    · exact share_lim s t n w (by simpa using hn) h
  · exact share_long s t n w hs ht h
end Go.Proofs.Qxb6602074a
