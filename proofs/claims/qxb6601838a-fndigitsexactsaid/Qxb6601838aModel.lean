/-
  WALKS OF THE SEAT b6601838a: the model that scans from the back; the law on it.
-/
import Derived.Test.Qxb6601838aTops
namespace Go.Proofs.Qxb6601838a
open Go.RowKit Plain

theorem model_past (a : Option Addr) (len cap : Nat) (i : Int) (w : World) (hi : (len : Int) ≤ i) :
    Calls Try.prog 17 #[.slice a len cap, .int .i64 i] w fun e w' => e = .returned (.int .i64 i) ∧ w' = w := by
  go_enter Try.func17, Try.ntmps17
  go_wp2
  go_ret
  exact ⟨rfl, rfl⟩

set_option maxHeartbeats 400000 in
theorem model_row (b off cap : Nat) (zs : List Int) (i : Nat) (w : World) (hl : zs.length ≤ 1048576) (hi : i < zs.length)
    (hby : ∀ n ∈ zs, 0 ≤ n ∧ n ≤ 255)
    (hc : ∀ k, k < zs.length → w.cell? ⟨b, off + k, none⟩ = some (.int .u8 (zs.getD k 0))) :
    Calls Try.prog 17 #[.slice (some ⟨b, off, none⟩) zs.length cap, .int .i64 i] w fun e w' => e = .returned (.int .i64 (digs zs i)) ∧ w' = w := by
  have hlt0 : ¬ (zs.length : Int) ≤ (i : Int) := by omega
  have hend : zs.length = digs zs zs.length := (digs_end (Nat.le_refl _)).symm
  have HE : Hid (zs.length = digs zs zs.length) := hend
  clear hend
  go_enter Try.func17, Try.ntmps17
  go_wp2
  go_loop [5, 6] (fun j k => ∃ m : Nat, i ≤ m ∧ m ≤ zs.length ∧ k = .int .i64 ((m : Int) - 1) ∧ ∃ d : Nat, d = digs zs m ∧ j = .int .i64 d) (fun _ k => (intOf k + 1).toNat)
  case atStart => exact ⟨zs.length, by omega, by omega, by go_num, zs.length, HE.out, rfl⟩
  case round =>
    obtain ⟨m, hm1, hm2, rfl, d, hd, rfl⟩ := hrel
    have HD : Hid (d = digs zs m) := hd
    clear hd
    by_cases hlt : i < m
    · obtain ⟨n, rfl⟩ : ∃ n, m = n + 1 := ⟨m - 1, by omega⟩
      have en : ((n + 1 : Nat) : Int) - 1 = (n : Int) := by omega
      rw [en]
      obtain ⟨c, hcd⟩ : ∃ c, c = byt zs n := ⟨_, rfl⟩
      have hcb : 0 ≤ c ∧ c ≤ 255 := by
        rw [hcd, byt_lt (by omega)]
        have : n < zs.length := by omega
        simp only [List.getD, this, List.getElem?_eq_getElem, Option.getD_some]
        exact hby _ (List.getElem_mem _)
      have hcell : w.cell? ⟨b, off + n, none⟩ = some (.int .u8 c) := by rw [hcd, byt_lt (by omega)]; exact hc n (by omega)
      have hn : n < zs.length := by omega
      have hin : ¬ (n : Int) < (i : Int) := by omega
      obtain ⟨hc0, hc1⟩ := hcb
      have HC : Hid (c = byt zs n) := hcd
      clear hc hby en hcd
      go_wp2
      · have h10 : 10 ≤ (c - 48) % 256 := by assumption
        have e : digs zs n = n := digs_stop (by rw [← HC.out, isd_iff]; omega)
        have HX : Hid (n = digs zs n) := e.symm
        clear e
        go_round
        case rel => exact ⟨n, by omega, by omega, rfl, n, HX.out, rfl⟩
        case measure => simp [intOf]
      · have h10 : (c - 48) % 256 < 10 := by assumption
        have HX : Hid (d = digs zs n) := by
          show d = digs zs n
          rw [HD.out, ← digs_step (by rw [← HC.out, isd_iff]; omega)]
        go_round
        case rel => exact ⟨n, by omega, by omega, rfl, d, HX.out, rfl⟩
        case measure => simp [intOf]
    · have hmi : m = i := by omega
      subst hmi
      go_wp2
      go_ret
      exact ⟨ret_int (by rw [HD.out]), rfl⟩

theorem model_any (a : Option Addr) (cap : Nat) (zs : List Int) (i : Int) (w : World) (hl : zs.length ≤ 1048576) (hi : 0 ≤ i) (hby : ∀ n ∈ zs, 0 ≤ n ∧ n ≤ 255) (hr : Row8 w a zs) :
    Calls Try.prog 17 #[.slice a zs.length cap, .int .i64 i] w fun e w' => e = .returned (.int .i64 (digs zs i.toNat)) ∧ w' = w := by
  by_cases h : i < (zs.length : Int)
  · rcases hr with ⟨_, rfl⟩ | ⟨b, off, rfl, hc⟩
    · simp at h; omega
    · obtain ⟨n, rfl⟩ : ∃ n : Nat, i = n := ⟨i.toNat, by omega⟩
      exact model_row b off cap zs n w hl (by omega) hby hc
  · have e : ((digs zs i.toNat : Nat) : Int) = i := by rw [digs_end (by omega)]; omega
    rw [e]
    exact model_past a zs.length cap i w (by omega)

/-- 'FnDigitsExact' -/
theorem exact_walk (a : Option Addr) (cap : Nat) (zs : List Int) (i : Int) (w : World) (hm : zs.length ≤ maxLen) (hr : Came w a cap zs) (hby : ∀ n ∈ zs, 0 ≤ n ∧ n ≤ 255) :
    Calls Try.prog 6 #[.slice a zs.length cap, .int .i64 i] w fun e w' => e = .returned (.bool true) ∧ Below w.heap.size w w' := by
  by_cases hl : zs.length ≤ 1048576
  · have hd : decide (zs.length ≤ 1048576) = true := by simpa using hl
    by_cases hi : i < 0
    · go_enter Try.func6, Try.ntmps6
      go_wp2_with (go_at_call 15; refine (bytes6_any _ _ _ _ _ hm).mono ?_; rintro e w' ⟨rfl, rfl⟩)
      go_ret
      exact ⟨rfl, Below.refl _ _⟩
    · have hi0 : 0 ≤ i := by omega
      go_enter Try.func6, Try.ntmps6
      go_wp2_with (first | (go_at_call 15; refine (bytes6_any _ _ _ _ _ hm).mono ?_; rintro e w' ⟨rfl, rfl⟩) | (go_at_call 9; refine (clone_any _ _ _ _ hl hr).mono ?_; rintro e w1 ⟨a', cap', rfl, hr1, hb1⟩) | (go_at_call 16; refine (zzdigits_any _ _ _ _ _ hl hi0 hr1).mono ?_; rintro e w' ⟨rfl, rfl⟩) | (go_at_call 17; refine (model_any _ _ _ _ _ hl hi0 hby hr1).mono ?_; rintro e w' ⟨rfl, rfl⟩))
      go_ret
      exact ⟨by simp, hb1⟩
  · have hd : decide (zs.length ≤ 1048576) = false := by simpa using hl
    go_enter Try.func6, Try.ntmps6
    go_wp2_with (go_at_call 15; refine (bytes6_any _ _ _ _ _ hm).mono ?_; rintro e w' ⟨rfl, rfl⟩)
    go_ret
    exact ⟨rfl, Below.refl _ _⟩
end Go.Proofs.Qxb6601838a
