/-
  WALKS OF THE SEAT b6601838a: the laws on 'digits'; the model that scans from the back.
-/
import Derived.Test.Qxb6601838aClone
import Derived.OpenShut
namespace Go.Proofs.Qxb6601838a
open Go.RowKit Plain

/-- a slice of bytes that came in, as the copy wants it -/
def Came (w : World) (a : Option Addr) (cap : Nat) (zs : List Int) : Prop :=
  (a = none ∧ cap = 0 ∧ zs = []) ∨ ∃ x, a = some x ∧ ∀ k, k < zs.length → w.cell? (x.add k) = some (.int .u8 (zs.getD k 0))

theorem came_take {w : World} {a : Option Addr} {len cap : Nat} {zs : List Int}
    (h : (a = none ∧ len = 0 ∧ cap = 0 ∧ zs = []) ∨
      ∃ x, a = some x ∧ len ≤ cap ∧ cap ≤ maxLen ∧ zs.length = cap ∧ (∀ i, i < zs.length → w.cell? (x.add i) = some (.int .u8 (zs.getD i 0))) ∧ ∀ n ∈ zs, (Lit.int .u8 n).wf = true) :
    ∃ ys : List Int, len = ys.length ∧ ys.length ≤ maxLen ∧ Came w a cap ys ∧ ∀ n ∈ ys, 0 ≤ n ∧ n ≤ 255 := by
  rcases h with ⟨rfl, rfl, rfl, rfl⟩ | ⟨x, rfl, hl, hm, hz, hc, hw⟩
  · exact ⟨[], rfl, by simp [maxLen], .inl ⟨rfl, rfl, rfl⟩, by simp⟩
  · refine ⟨zs.take len, by simp; omega, by simp; omega, .inr ⟨x, rfl, fun k hk => ?_⟩, fun n hn => ?_⟩
    · simp at hk
      rw [hc k (by omega)]
      simp [show k < len by omega]
    · exact bounds_u8 (hw n (List.mem_of_mem_take hn))

theorem toNat_le {a b : Int} (h : a ≤ b) : a.toNat ≤ b.toNat := by omega

/-- 'FnDigitsMonotoneIdempotent' -/
theorem mono_walk (a : Option Addr) (cap : Nat) (zs : List Int) (i j : Int) (w : World) (hm : zs.length ≤ maxLen) (hr : Came w a cap zs) :
    Calls Try.prog 7 #[.slice a zs.length cap, .int .i64 i, .int .i64 j] w fun e w' => e = .returned (.bool true) ∧ Below w.heap.size w w' := by
  by_cases hl : zs.length ≤ 1048576
  · have hd : decide (zs.length ≤ 1048576) = true := by simpa using hl
    by_cases hi : i < 0
    · go_enter Try.func7, Try.ntmps7
      go_wp2_with (go_at_call 18; refine (bytes7_any _ _ _ _ _ _ hm).mono ?_; rintro e w' ⟨rfl, rfl⟩)
      go_ret
      exact ⟨rfl, Below.refl _ _⟩
    · by_cases hj : j < 0
      · go_enter Try.func7, Try.ntmps7
        go_wp2_with (go_at_call 18; refine (bytes7_any _ _ _ _ _ _ hm).mono ?_; rintro e w' ⟨rfl, rfl⟩)
        go_ret
        exact ⟨rfl, Below.refl _ _⟩
      · by_cases hij : j < i
        · go_enter Try.func7, Try.ntmps7
          go_wp2_with (go_at_call 18; refine (bytes7_any _ _ _ _ _ _ hm).mono ?_; rintro e w' ⟨rfl, rfl⟩)
          go_ret
          exact ⟨rfl, Below.refl _ _⟩
        · have hi0 : 0 ≤ i := by omega
          have hj0 : 0 ≤ j := by omega
          obtain ⟨D, hD⟩ : ∃ D : Int → Int, D = fun x => ((digs zs x.toNat : Nat) : Int) := ⟨_, rfl⟩
          have g1 : ¬ D i < i := by have := digs_ge zs i.toNat; simp only [hD]; omega
          have g2 : ¬ D j < D i := by have := digs_mono zs (toNat_le (show i ≤ j by omega)); simp only [hD]; omega
          have g3 : (D (D i) == D i) = true := by simp only [hD, Int.toNat_natCast, digs_idem, beq_self_eq_true]
          have g4 : 0 ≤ D i := by simp only [hD]; omega
          have H1 : Hid (∀ (w : World) a cap x, 0 ≤ x → Row8 w a zs → Calls Try.prog 16 #[.slice a zs.length cap, .int .i64 x] w fun e w' => e = .returned (.int .i64 (D x)) ∧ w' = w) := by
            intro w a cap x hx hr; rw [hD]; exact zzdigits_any a cap zs x w hl hx hr
          clear hD
          go_enter Try.func7, Try.ntmps7
          go_wp2_with (first | (go_at_call 18; refine (bytes7_any _ _ _ _ _ _ hm).mono ?_; rintro e w' ⟨rfl, rfl⟩) | (go_at_call 9; refine (clone_any _ _ _ _ hl hr).mono ?_; rintro e w1 ⟨a', cap', rfl, hr1, hb1⟩) | (go_at_call 16; refine (H1.out _ _ _ _ (by assumption) (by assumption)).mono ?_; rintro e w' ⟨rfl, rfl⟩))
          go_ret
          exact ⟨rfl, hb1⟩
  · have hd : decide (zs.length ≤ 1048576) = false := by simpa using hl
    go_enter Try.func7, Try.ntmps7
    go_wp2_with (go_at_call 18; refine (bytes7_any _ _ _ _ _ _ hm).mono ?_; rintro e w' ⟨rfl, rfl⟩)
    go_ret
    exact ⟨rfl, Below.refl _ _⟩

end Go.Proofs.Qxb6601838a
