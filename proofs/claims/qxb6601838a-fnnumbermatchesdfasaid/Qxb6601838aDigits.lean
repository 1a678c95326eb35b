/-
  WALKS OF THE SEAT b6601838a: 'digits' and its kin.
-/
import Derived.Test.Qxb6601838aRows
import Derived.Test.Qxb6601838aPlain
import Derived.WalkKit
import Derived.Below
namespace Go.Proofs.Qxb6601838a
open Go.RowKit Plain

/-- WHAT A WALK IS TOLD OF A SLICE OF BYTES: nil, or a row of cells -/
def Row8 (w : World) (a : Option Addr) (zs : List Int) : Prop :=
  (a = none ∧ zs = []) ∨ ∃ b off, a = some ⟨b, off, none⟩ ∧ ∀ k, k < zs.length → w.cell? ⟨b, off + k, none⟩ = some (.int .u8 (zs.getD k 0))

theorem ret_int {k : IntKind} {a b : Int} (h : a = b) : Ending.returned (.int k a) = .returned (.int k b) := by rw [h]

/-- 'digits' at a start behind the end: nothing is read -/
theorem digits_past (a : Option Addr) (len cap : Nat) (i : Int) (w : World) (_hl : len ≤ 1048576) (hi : (len : Int) ≤ i) :
    Calls Try.prog 23 #[.slice a len cap, .int .i64 i] w fun e w' => e = .returned (.int .i64 i) ∧ w' = w := by
  have hd : ¬ i < (len : Int) := by omega
  go_enter Try.func23, Try.ntmps23
  go_wp2
  refine wp_loop_rounds 1 ?_
  rw [rounds_succ]
  go_wp2
  go_ret
  exact ⟨rfl, rfl⟩

set_option maxHeartbeats 400000 in
theorem digits_row (b off cap : Nat) (zs : List Int) (i : Nat) (w : World) (hl : zs.length ≤ 1048576) (hi : i < zs.length)
    (hc : ∀ k, k < zs.length → w.cell? ⟨b, off + k, none⟩ = some (.int .u8 (zs.getD k 0))) :
    Calls Try.prog 23 #[.slice (some ⟨b, off, none⟩) zs.length cap, .int .i64 i] w fun e w' => e = .returned (.int .i64 (digs zs i)) ∧ w' = w := by
  go_enter Try.func23, Try.ntmps23
  go_wp2
  go_loop [1] (fun t => ∃ k : Nat, k ≤ zs.length ∧ t = .int .i64 k ∧ digs zs k = digs zs i) (fun t => zs.length - (intOf t).toNat)
  case atStart => exact ⟨i, by omega, rfl, rfl⟩
  case round =>
    obtain ⟨k, hk, rfl, hr⟩ := hrel
    have HR : Hid (digs zs k = digs zs i) := hr
    clear hr
    by_cases hlt : k < zs.length
    · obtain ⟨c, hcd⟩ : ∃ c, c = byt zs k := ⟨_, rfl⟩
      have hcell : w.cell? ⟨b, off + k, none⟩ = some (.int .u8 c) := by rw [hcd, byt_lt hlt]; exact hc k hlt
      clear hc
      by_cases hs : isd (byt zs k) = true
      · have HN : Hid (digs zs k = digs zs (k + 1)) := digs_step hs
        rw [← hcd, isd_iff] at hs
        obtain ⟨h1, h2⟩ := hs
        clear hcd
        go_wp2
        go_round
        case rel => exact ⟨k + 1, by omega, by go_num, HN.out.symm.trans HR.out⟩
        case measure => simp [intOf]; omega
      · have HN : Hid (digs zs k = k) := digs_stop hs
        rw [← hcd, isd_iff] at hs
        clear hcd
        by_cases h1 : 48 ≤ c
        · have h2 : ¬ c ≤ 57 := by omega
          clear hs
          go_wp2
          go_ret
          exact ⟨ret_int (by rw [← HR.out, HN.out]), rfl⟩
        · clear hs
          go_wp2
          go_ret
          exact ⟨ret_int (by rw [← HR.out, HN.out]), rfl⟩
    · have HN : Hid (digs zs k = k) := digs_end (by omega)
      go_wp2
      go_ret
      exact ⟨ret_int (by rw [← HR.out, HN.out]), rfl⟩

/-- 'digits', whatever the slice, from any start that is not below 0 -/
theorem digits_any (a : Option Addr) (cap : Nat) (zs : List Int) (i : Int) (w : World) (hl : zs.length ≤ 1048576) (hi : 0 ≤ i) (hr : Row8 w a zs) :
    Calls Try.prog 23 #[.slice a zs.length cap, .int .i64 i] w fun e w' => e = .returned (.int .i64 (digs zs i.toNat)) ∧ w' = w := by
  by_cases h : i < (zs.length : Int)
  · rcases hr with ⟨_, rfl⟩ | ⟨b, off, rfl, hc⟩
    · simp at h; omega
    · obtain ⟨n, rfl⟩ : ∃ n : Nat, i = n := ⟨i.toNat, by omega⟩
      exact digits_row b off cap zs n w hl (by omega) hc
  · have e : ((digs zs i.toNat : Nat) : Int) = i := by rw [digs_end (by omega)]; omega
    rw [e]
    exact digits_past a zs.length cap i w hl (by omega)

/-- 'ZZDigits' is 'digits' -/
theorem zzdigits_any (a : Option Addr) (cap : Nat) (zs : List Int) (i : Int) (w : World) (hl : zs.length ≤ 1048576) (hi : 0 ≤ i) (hr : Row8 w a zs) :
    Calls Try.prog 16 #[.slice a zs.length cap, .int .i64 i] w fun e w' => e = .returned (.int .i64 (digs zs i.toNat)) ∧ w' = w := by
  go_enter Try.func16, Try.ntmps16
  go_wp2_with (go_at_call 23; refine (digits_any a cap zs i w hl hi hr).mono ?_; rintro e w' ⟨rfl, rfl⟩)
  go_ret
  exact ⟨rfl, rfl⟩
end Go.Proofs.Qxb6601838a
