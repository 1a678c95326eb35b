/-
  WALKS OF THE SEAT b6601838a: the automaton's step, its accepting states, the model that runs it.
-/
import Derived.Test.Qxb6601838aClone
import Derived.OpenShut
namespace Go.Proofs.Qxb6601838a
open Go.RowKit Plain

theorem ret_bool {a b : Bool} (h : a = b) : Ending.returned (.bool a) = .returned (.bool b) := by rw [h]

set_option maxHeartbeats 1600000 in
theorem step_any (s b : Int) (w : World) (h0 : 0 ≤ s) (h8 : s ≤ 8) :
    Calls Try.prog 20 #[.int .i64 s, .int .u8 b] w fun e w' => e = .returned (.int .i64 (Plain.step s b)) ∧ w' = w := by
  have hs : s = 0 ∨ s = 1 ∨ s = 2 ∨ s = 3 ∨ s = 4 ∨ s = 5 ∨ s = 6 ∨ s = 7 ∨ s = 8 := by omega
  clear h0 h8
  rcases hs with rfl | rfl | rfl | rfl | rfl | rfl | rfl | rfl | rfl
  all_goals
    go_enter Try.func20, Try.ntmps20
    go_wp2
  all_goals (go_ret; refine ⟨ret_int ?_, rfl⟩)
  all_goals
    (try simp only [beq_iff_eq, beq_eq_false_iff_ne, ne_eq] at *)
    simp only [Plain.step, isd_iff, Int.reduceEq, if_true, if_false]
    repeat' split
  all_goals first | omega | simp_all

theorem acc_any (s : Int) (w : World) :
    Calls Try.prog 21 #[.int .i64 s] w fun e w' => e = .returned (.bool (acc s)) ∧ w' = w := by
  go_enter Try.func21, Try.ntmps21
  go_wp2
  all_goals (go_ret; refine ⟨ret_bool ?_, rfl⟩)
  all_goals simp_all [acc]
  all_goals (rw [Bool.eq_iff_iff]; simp; omega)

/-- the index and the answer that a reader's end makes -/
def ansI (i : Int) : Option Nat → Int
  | some j => j
  | .none => i
theorem step_range (s b : Int) (h : ¬ Plain.step s b < 0) : 0 ≤ Plain.step s b ∧ Plain.step s b ≤ 8 := by
  refine ⟨by omega, ?_⟩
  unfold Plain.step
  repeat' split
  all_goals first | omega | simp_all

theorem nmodel_past (a : Option Addr) (len cap : Nat) (i : Int) (w : World) (hi : (len : Int) ≤ i) :
    Calls Try.prog 11 #[.slice a len cap, .int .i64 i] w fun e w' => e = .returned (.tuple #[.int .i64 i, .bool false]) ∧ w' = w := by
  have hd : ¬ i < (len : Int) := by omega
  have ha : acc 0 = false := by decide
  go_enter Try.func11, Try.ntmps11
  go_wp2_with fail
  refine wp_loop_rounds 1 ?_
  rw [rounds_succ]
  go_wp2_with (go_at_call 21; refine (acc_any _ _).mono ?_; rintro e w' ⟨rfl, rfl⟩)
  go_ret2
  exact ⟨rfl, rfl⟩

set_option maxHeartbeats 800000 in
theorem nmodel_row (b off cap : Nat) (zs : List Int) (i : Nat) (w : World) (hl : zs.length ≤ 1048576) (hi : i < zs.length)
    (hc : ∀ k, k < zs.length → w.cell? ⟨b, off + k, none⟩ = some (.int .u8 (zs.getD k 0))) :
    Calls Try.prog 11 #[.slice (some ⟨b, off, none⟩) zs.length cap, .int .i64 i] w fun e w' =>
      e = .returned (.tuple #[.int .i64 (ansI i (said (dpos zs 0 i))), .bool (said (dpos zs 0 i)).isSome]) ∧ w' = w := by
  obtain ⟨R, hR⟩ : ∃ R, R = dpos zs 0 i := ⟨_, rfl⟩
  rw [← hR]
  have HR0 : Hid (dpos zs 0 i = R) := hR.symm
  clear hR
  go_enter Try.func11, Try.ntmps11
  go_wp2_with fail
  go_loop [6, 7] (fun s p => ∃ (q : Nat) (s0 : Int), q ≤ zs.length ∧ 0 ≤ s0 ∧ s0 ≤ 8 ∧ s = .int .i64 s0 ∧ p = .int .i64 q ∧ dpos zs s0 q = R) (fun _ p => zs.length - (intOf p).toNat)
  case atStart => exact ⟨i, 0, by omega, by omega, by omega, rfl, rfl, HR0.out⟩
  case round =>
    obtain ⟨q, s0, hq, hs0, hs8, rfl, rfl, hr⟩ := hrel
    have HR : Hid (dpos zs s0 q = R) := hr
    clear hr HR0
    by_cases hlt : q < zs.length
    · obtain ⟨c, hcd⟩ : ∃ c, c = byt zs q := ⟨_, rfl⟩
      have hcell : w.cell? ⟨b, off + q, none⟩ = some (.int .u8 c) := by rw [hcd, byt_lt hlt]; exact hc q hlt
      have HS : Hid (dpos zs s0 q = if Plain.step s0 c < 0 then (s0, q) else dpos zs (Plain.step s0 c) (q + 1)) := by rw [hcd]; exact dpos_step zs s0 q
      clear hc hcd
      by_cases hneg : Plain.step s0 c < 0
      · have HX : Hid (R = (s0, q)) := by show R = _; rw [← HR.out, HS.out, if_pos hneg]
        by_cases ha : acc s0 = true
        · go_wp2_with (first | (go_at_call 20; refine (step_any _ _ _ hs0 hs8).mono ?_; rintro e w' ⟨rfl, rfl⟩) | (go_at_call 21; refine (acc_any _ _).mono ?_; rintro e w' ⟨rfl, rfl⟩))
          go_ret2
          exact ⟨by rw [HX.out]; simp [said, ha, ansI], rfl⟩
        · have ha' : acc s0 = false := by simpa using ha
          go_wp2_with (first | (go_at_call 20; refine (step_any _ _ _ hs0 hs8).mono ?_; rintro e w' ⟨rfl, rfl⟩) | (go_at_call 21; refine (acc_any _ _).mono ?_; rintro e w' ⟨rfl, rfl⟩))
          go_ret2
          exact ⟨by rw [HX.out]; simp [said, ha, ansI], rfl⟩
      · have hst := step_range s0 c hneg
        have HX : Hid (dpos zs (Plain.step s0 c) (q + 1) = R) := by show _ = R; rw [← HR.out, HS.out, if_neg hneg]
        go_wp2_with (go_at_call 20; refine (step_any _ _ _ hs0 hs8).mono ?_; rintro e w' ⟨rfl, rfl⟩)
        go_round
        case rel => exact ⟨q + 1, Plain.step s0 c, by omega, hst.1, hst.2, rfl, by go_num, HX.out⟩
        case measure => simp [intOf]; omega
    · have HX : Hid (R = (s0, q)) := by
        show R = _
        rw [← HR.out, dpos_step, byt_ge (by omega), step_out, if_pos (by omega)]
      by_cases ha : acc s0 = true
      · go_wp2_with (go_at_call 21; refine (acc_any _ _).mono ?_; rintro e w' ⟨rfl, rfl⟩)
        go_ret2
        exact ⟨by rw [HX.out]; simp [said, ha, ansI], rfl⟩
      · have ha' : acc s0 = false := by simpa using ha
        go_wp2_with (go_at_call 21; refine (acc_any _ _).mono ?_; rintro e w' ⟨rfl, rfl⟩)
        go_ret2
        exact ⟨by rw [HX.out]; simp [said, ha, ansI], rfl⟩
end Go.Proofs.Qxb6601838a
