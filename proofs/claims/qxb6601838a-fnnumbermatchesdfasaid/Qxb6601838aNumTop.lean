/-
  WALKS OF THE SEAT b6601838a: 'ZZNumber', the law that the reader and the automaton agree.
-/
import Derived.Test.Qxb6601838aNumber
import Derived.Test.Qxb6601838aTops
namespace Go.Proofs.Qxb6601838a
open Go.RowKit Plain

theorem zznumber_past (a : Option Addr) (len cap : Nat) (i : Int) (w : World) (hi : (len : Int) ≤ i) :
    Calls Try.prog 10 #[.slice a len cap, .int .i64 i] w fun e w' => e = .returned (.tuple #[.int .i64 i, .bool false]) ∧ Below w.heap.size w w' := by
  have H : Hid (Calls Try.prog 19 #[.pointer (some ⟨w.heap.size, 0, none⟩)] (w.alloc (.cells #[.slice none 0 0, .slice a len cap, .int .i64 i, .int .i64 0, .slice none 0 0] 33))
      fun e w' => e = .returned (.bool false) ∧ w' = w.alloc (.cells #[.slice none 0 0, .slice a len cap, .int .i64 i, .int .i64 0, .slice none 0 0] 33)) :=
    number_past w.heap.size a len cap i _ hi (by simp) (by simp)
  go_enter Try.func10, Try.ntmps10
  go_wp2_with (go_at_call 19; refine H.out.mono ?_; rintro e w' ⟨rfl, rfl⟩)
  go_ret2
  exact ⟨rfl, (Below.refl _ _).alloc (Nat.le_refl _) _⟩

theorem zznumber_row (b off cap : Nat) (zs : List Int) (i : Nat) (w : World) (hl : zs.length ≤ 1048576) (hi : i < zs.length)
    (hc : ∀ k, k < zs.length → w.cell? ⟨b, off + k, none⟩ = some (.int .u8 (zs.getD k 0))) :
    Calls Try.prog 10 #[.slice (some ⟨b, off, none⟩) zs.length cap, .int .i64 i] w fun e w' =>
      e = .returned (.tuple #[.int .i64 (ansI i (num zs i)), .bool (num zs i).isSome]) ∧ Below w.heap.size w w' := by
  have hc' : ∀ k, k < zs.length → (w.alloc (.cells #[.slice none 0 0, .slice (some ⟨b, off, none⟩) zs.length cap, .int .i64 i, .int .i64 0, .slice none 0 0] 33)).cell? ⟨b, off + k, none⟩ = some (.int .u8 (zs.getD k 0)) := by
    intro k hk
    rw [World.cell?_alloc_lt _ _ _ (World.block_lt_of_cell? w _ (hc k hk))]
    exact hc k hk
  have H := number_row w.heap.size b off cap zs i (w.alloc (.cells #[.slice none 0 0, .slice (some ⟨b, off, none⟩) zs.length cap, .int .i64 i, .int .i64 0, .slice none 0 0] 33)) hl hi (by simp) (by simp) (by simp) hc'
  cases hN : num zs i with
  | none =>
    have H2 : Hid (Calls Try.prog 19 #[.pointer (some ⟨w.heap.size, 0, none⟩)] (w.alloc (.cells #[.slice none 0 0, .slice (some ⟨b, off, none⟩) zs.length cap, .int .i64 i, .int .i64 0, .slice none 0 0] 33))
        fun e w' => e = .returned (.bool false) ∧ w' = w.alloc (.cells #[.slice none 0 0, .slice (some ⟨b, off, none⟩) zs.length cap, .int .i64 i, .int .i64 0, .slice none 0 0] 33)) := by
      refine Calls.mono H ?_
      rintro e w' ⟨rfl, h⟩
      rw [hN] at h
      rcases h with ⟨rfl, _⟩ | ⟨j, hj, _⟩
      · exact ⟨by rw [hN]; rfl, rfl⟩
      · cases hj
    clear H hN hc' hc
    go_enter Try.func10, Try.ntmps10
    go_wp2_with (go_at_call 19; refine H2.out.mono ?_; rintro e w' ⟨rfl, rfl⟩)
    go_ret2
    exact ⟨rfl, (Below.refl _ _).alloc (Nat.le_refl _) _⟩
  | some j =>
    have H2 : Hid (Calls Try.prog 19 #[.pointer (some ⟨w.heap.size, 0, none⟩)] (w.alloc (.cells #[.slice none 0 0, .slice (some ⟨b, off, none⟩) zs.length cap, .int .i64 i, .int .i64 0, .slice none 0 0] 33))
        fun e w' => e = .returned (.bool true) ∧ w' = w.alloc (.cells #[.slice none 0 0, .slice (some ⟨b, off, none⟩) zs.length cap, .int .i64 j, .int .i64 0, .slice none 0 0] 33)) := by
      refine Calls.mono H ?_
      rintro e w' ⟨rfl, h⟩
      rw [hN] at h
      rcases h with ⟨_, h⟩ | ⟨j', hj, rfl⟩
      · cases h
      · cases hj
        refine ⟨by rw [hN]; rfl, ?_⟩
        exact World.setCell_alloc_at _ _ _ _ _ rfl
    clear H hN hc' hc
    go_enter Try.func10, Try.ntmps10
    go_wp2_with (go_at_call 19; refine H2.out.mono ?_; rintro e w' ⟨rfl, rfl⟩)
    go_ret2
    exact ⟨rfl, (Below.refl _ _).alloc (Nat.le_refl _) _⟩

/-- the two readers, from any start that is not below 0: one answer -/
theorem both_any (a : Option Addr) (cap : Nat) (zs : List Int) (i : Int) (hl : zs.length ≤ 1048576) (hi : 0 ≤ i) :
    ∃ (J : Int) (B : Bool), (∀ w, Row8 w a zs → Calls Try.prog 10 #[.slice a zs.length cap, .int .i64 i] w fun e w' => e = .returned (.tuple #[.int .i64 J, .bool B]) ∧ Below w.heap.size w w') ∧
      (∀ w, Row8 w a zs → Calls Try.prog 11 #[.slice a zs.length cap, .int .i64 i] w fun e w' => e = .returned (.tuple #[.int .i64 J, .bool B]) ∧ w' = w) := by
  by_cases h : i < (zs.length : Int)
  · obtain ⟨n, rfl⟩ : ∃ n : Nat, i = n := ⟨i.toNat, by omega⟩
    refine ⟨ansI n (num zs n), (num zs n).isSome, fun w hr => ?_, fun w hr => ?_⟩
    · rcases hr with ⟨_, rfl⟩ | ⟨b, off, rfl, hc⟩
      · simp at h; omega
      · exact zznumber_row b off cap zs n w hl (by omega) hc
    · rcases hr with ⟨_, rfl⟩ | ⟨b, off, rfl, hc⟩
      · simp at h; omega
      · rw [← at0]
        exact nmodel_row b off cap zs n w hl (by omega) hc
  · exact ⟨i, false, fun w _ => zznumber_past a _ cap i w (by omega), fun w _ => nmodel_past a _ cap i w (by omega)⟩

theorem row8_below {w w' : World} {a : Option Addr} {zs : List Int} (h : Row8 w a zs) (hb : Below w.heap.size w w') : Row8 w' a zs := by
  rcases h with h | ⟨b, off, rfl, hc⟩
  · exact .inl h
  · refine .inr ⟨b, off, rfl, fun k hk => ?_⟩
    have := hc k hk
    rw [hb.cell (p := ⟨b, off + k, none⟩) (World.block_lt_of_cell? w _ this)]
    exact this

/-- 'FnNumberMatchesDFA' -/
theorem dfa_walk (a : Option Addr) (cap : Nat) (zs : List Int) (i : Int) (w : World) (hm : zs.length ≤ maxLen) (hr : Came w a cap zs) :
    Calls Try.prog 3 #[.slice a zs.length cap, .int .i64 i] w fun e w' => e = .returned (.bool true) ∧ Below w.heap.size w w' := by
  by_cases hl : zs.length ≤ 1048576
  · have hd : decide (zs.length ≤ 1048576) = true := by simpa using hl
    by_cases hi : i < 0
    · go_enter Try.func3, Try.ntmps3
      go_wp2_with (go_at_call 8; refine (bytes3_any _ _ _ _ _ hm).mono ?_; rintro e w' ⟨rfl, rfl⟩)
      go_ret
      exact ⟨rfl, Below.refl _ _⟩
    · have hi0 : 0 ≤ i := by omega
      go_enter Try.func3, Try.ntmps3
      go_wp2_with (first | (go_at_call 8; refine (bytes3_any _ _ _ _ _ hm).mono ?_; rintro e w' ⟨rfl, rfl⟩) | (go_at_call 9; refine (clone_any _ _ _ _ hl hr).mono ?_; rintro e w1 ⟨a', cap', rfl, hr1, hb1⟩; obtain ⟨J, B, H10, H11⟩ := both_any a' cap' zs i hl hi0) | (go_at_call 10; refine (H10 _ hr1).mono ?_; rintro e w2 ⟨rfl, hb2⟩; have hr2 := row8_below hr1 hb2) | (go_at_call 11; refine (H11 _ hr2).mono ?_; rintro e w' ⟨rfl, rfl⟩))
      go_ret
      exact ⟨by simp, hb1.trans (hb2.mono hb1.size)⟩
  · have hd : decide (zs.length ≤ 1048576) = false := by simpa using hl
    go_enter Try.func3, Try.ntmps3
    go_wp2_with (go_at_call 8; refine (bytes3_any _ _ _ _ _ hm).mono ?_; rintro e w' ⟨rfl, rfl⟩)
    go_ret
    exact ⟨rfl, Below.refl _ _⟩
end Go.Proofs.Qxb6601838a
