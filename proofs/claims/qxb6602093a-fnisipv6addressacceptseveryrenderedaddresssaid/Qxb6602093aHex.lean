/-
  WALKS OF THE SEAT b6602093a: 'zzB1Hex', 'zzB1Quad'.
-/
import Derived.Test.Qxb6602093aIsSix
import Derived.Test.Qxb6602093aRend
import Derived.Test.Qxb6602093aQuad
import Derived.Laws.BitsAllLaws
namespace Go.Proofs.Qxb6602093a
open Go.RowKit Plain
set_option linter.unusedVariables false

theorem and15 {y : Int} (h0 : 0 ≤ y) (h1 : y < 65536) : 0 ≤ bits .and .u16 y 15 ∧ bits .and .u16 y 15 < 16 := by
  have e := u16_and y 15 h0 h1 (by omega) (by omega)
  have hl : y.toNat &&& (15 : Int).toNat ≤ 15 := Nat.and_le_right
  omega
theorem and255 {y : Int} (h0 : 0 ≤ y) (h1 : y < 65536) : 0 ≤ bits .and .u16 y 255 ∧ bits .and .u16 y 255 < 256 := by
  have e := u16_and y 255 h0 h1 (by omega) (by omega)
  have hl : y.toNat &&& (255 : Int).toNat ≤ 255 := Nat.and_le_right
  omega
theorem idx_low {x : Int} (h0 : 0 ≤ x) (h1 : x < 16) : ∃ c : Int, ish c = true ∧ 0 ≤ c ∧ c < 256 ∧ ∀ w, (Instr.index 9 (.string ⟨#[48, 49, 50, 51, 52, 53, 54, 55, 56, 57, 97, 98, 99, 100, 101, 102]⟩) (.int .u16 x)).run Try.prog w = .ok (.int .u8 c) w := by
  rcases (show x = 0 ∨ x = 1 ∨ x = 2 ∨ x = 3 ∨ x = 4 ∨ x = 5 ∨ x = 6 ∨ x = 7 ∨ x = 8 ∨ x = 9 ∨ x = 10 ∨ x = 11 ∨ x = 12 ∨ x = 13 ∨ x = 14 ∨ x = 15 by omega) with rfl | rfl | rfl | rfl | rfl | rfl | rfl | rfl | rfl | rfl | rfl | rfl | rfl | rfl | rfl | rfl
  · exact ⟨48, by decide, by omega, by omega, fun w => by kernel_rfl⟩
  · exact ⟨49, by decide, by omega, by omega, fun w => by kernel_rfl⟩
  · exact ⟨50, by decide, by omega, by omega, fun w => by kernel_rfl⟩
  · exact ⟨51, by decide, by omega, by omega, fun w => by kernel_rfl⟩
  · exact ⟨52, by decide, by omega, by omega, fun w => by kernel_rfl⟩
  · exact ⟨53, by decide, by omega, by omega, fun w => by kernel_rfl⟩
  · exact ⟨54, by decide, by omega, by omega, fun w => by kernel_rfl⟩
  · exact ⟨55, by decide, by omega, by omega, fun w => by kernel_rfl⟩
  · exact ⟨56, by decide, by omega, by omega, fun w => by kernel_rfl⟩
  · exact ⟨57, by decide, by omega, by omega, fun w => by kernel_rfl⟩
  · exact ⟨97, by decide, by omega, by omega, fun w => by kernel_rfl⟩
  · exact ⟨98, by decide, by omega, by omega, fun w => by kernel_rfl⟩
  · exact ⟨99, by decide, by omega, by omega, fun w => by kernel_rfl⟩
  · exact ⟨100, by decide, by omega, by omega, fun w => by kernel_rfl⟩
  · exact ⟨101, by decide, by omega, by omega, fun w => by kernel_rfl⟩
  · exact ⟨102, by decide, by omega, by omega, fun w => by kernel_rfl⟩
theorem idx_up {x : Int} (h0 : 0 ≤ x) (h1 : x < 16) : ∃ c : Int, ish c = true ∧ 0 ≤ c ∧ c < 256 ∧ ∀ w, (Instr.index 9 (.string ⟨#[48, 49, 50, 51, 52, 53, 54, 55, 56, 57, 65, 66, 67, 68, 69, 70]⟩) (.int .u16 x)).run Try.prog w = .ok (.int .u8 c) w := by
  rcases (show x = 0 ∨ x = 1 ∨ x = 2 ∨ x = 3 ∨ x = 4 ∨ x = 5 ∨ x = 6 ∨ x = 7 ∨ x = 8 ∨ x = 9 ∨ x = 10 ∨ x = 11 ∨ x = 12 ∨ x = 13 ∨ x = 14 ∨ x = 15 by omega) with rfl | rfl | rfl | rfl | rfl | rfl | rfl | rfl | rfl | rfl | rfl | rfl | rfl | rfl | rfl | rfl
  · exact ⟨48, by decide, by omega, by omega, fun w => by kernel_rfl⟩
  · exact ⟨49, by decide, by omega, by omega, fun w => by kernel_rfl⟩
  · exact ⟨50, by decide, by omega, by omega, fun w => by kernel_rfl⟩
  · exact ⟨51, by decide, by omega, by omega, fun w => by kernel_rfl⟩
  · exact ⟨52, by decide, by omega, by omega, fun w => by kernel_rfl⟩
  · exact ⟨53, by decide, by omega, by omega, fun w => by kernel_rfl⟩
  · exact ⟨54, by decide, by omega, by omega, fun w => by kernel_rfl⟩
  · exact ⟨55, by decide, by omega, by omega, fun w => by kernel_rfl⟩
  · exact ⟨56, by decide, by omega, by omega, fun w => by kernel_rfl⟩
  · exact ⟨57, by decide, by omega, by omega, fun w => by kernel_rfl⟩
  · exact ⟨65, by decide, by omega, by omega, fun w => by kernel_rfl⟩
  · exact ⟨66, by decide, by omega, by omega, fun w => by kernel_rfl⟩
  · exact ⟨67, by decide, by omega, by omega, fun w => by kernel_rfl⟩
  · exact ⟨68, by decide, by omega, by omega, fun w => by kernel_rfl⟩
  · exact ⟨69, by decide, by omega, by omega, fun w => by kernel_rfl⟩
  · exact ⟨70, by decide, by omega, by omega, fun w => by kernel_rfl⟩

/-- a group's text, out of its digits -/
theorem hx_nums {l : List Int} (h1 : 1 ≤ l.length) (h4 : l.length ≤ 4) (hh : ∀ c ∈ l, ish c = true ∧ 0 ≤ c ∧ c < 256) : Hx (bl (strOfNums l)) := by
  rw [bl_nums (fun z hz => (hh z hz).2)]
  exact ⟨h1, h4, fun c hc => (hh c hc).1⟩

set_option maxRecDepth 100000 in
set_option maxHeartbeats 800000 in
theorem hex_low_pad (v : Int) (h0 : 0 ≤ v) (h1 : v < 65536) (w : World) :
    Calls Try.prog 13 #[.int .u16 v, .bool false, .bool true] w fun e w' => ∃ t, e = .returned (.string t) ∧ Hx (bl t) ∧ Below w.heap.size w w' := by
  obtain ⟨c0, d0, e0, f0, g0⟩ := idx_low (and15 (y := v / 4096) (by omega) (by omega)).1 (and15 (y := v / 4096) (by omega) (by omega)).2
  obtain ⟨c1, d1, e1, f1, g1⟩ := idx_low (and15 (y := v / 256) (by omega) (by omega)).1 (and15 (y := v / 256) (by omega) (by omega)).2
  obtain ⟨c2, d2, e2, f2, g2⟩ := idx_low (and15 (y := v / 16) (by omega) (by omega)).1 (and15 (y := v / 16) (by omega) (by omega)).2
  obtain ⟨c3, d3, e3, f3, g3⟩ := idx_low (and15 (y := v) h0 h1).1 (and15 (y := v) h0 h1).2
  have D0 : Hid (ish c0 = true) := d0
  have D1 : Hid (ish c1 = true) := d1
  have D2 : Hid (ish c2 = true) := d2
  have D3 : Hid (ish c3 = true) := d3
  clear d0 d1 d2 d3
  have hcv : (convert 38 9 (.slice (some ⟨w.heap.size, 0, none⟩) 4 4)).run Try.prog (w.alloc (.cells #[.int .u8 c0, .int .u8 c1, .int .u8 c2, .int .u8 c3] 29)) = .ok (.string (strOfNums [c0, c1, c2, c3])) (w.alloc (.cells #[.int .u8 c0, .int .u8 c1, .int .u8 c2, .int .u8 c3] 29)) :=
    run_convert_bytes_arg (P := Try.prog) _ 38 5 Try.underlying38 Try.underlying5 w.heap.size 0 4 4 [c0, c1, c2, c3] rfl (by
      intro i hi
      match i, hi with
      | 0, _ => simp
      | 1, _ => simp
      | 2, _ => simp
      | 3, _ => simp) 9 Try.underlying9
  go_enter Try.func13, Try.ntmps13
  go_wp2
  refine wp_loop_rounds 5 ?_
  rw [rounds_succ]
  go_wp2
  rw [rounds_succ]
  go_wp2
  rw [rounds_succ]
  go_wp2
  rw [rounds_succ]
  go_wp2
  rw [rounds_succ]
  go_wp2
  go_ret
  refine ⟨_, rfl, hx_nums (by simp) (by simp) ?_, (Below.refl _ _).alloc (Nat.le_refl _) _⟩
  intro c hc
  simp only [List.mem_cons, List.not_mem_nil, or_false] at hc
  rcases hc with rfl | rfl | rfl | rfl
  · exact ⟨D0.out, e0, f0⟩
  · exact ⟨D1.out, e1, f1⟩
  · exact ⟨D2.out, e2, f2⟩
  · exact ⟨D3.out, e3, f3⟩

set_option maxRecDepth 100000 in
set_option maxHeartbeats 800000 in
theorem hex_up_pad (v : Int) (h0 : 0 ≤ v) (h1 : v < 65536) (w : World) :
    Calls Try.prog 13 #[.int .u16 v, .bool true, .bool true] w fun e w' => ∃ t, e = .returned (.string t) ∧ Hx (bl t) ∧ Below w.heap.size w w' := by
  obtain ⟨c0, d0, e0, f0, g0⟩ := idx_up (and15 (y := v / 4096) (by omega) (by omega)).1 (and15 (y := v / 4096) (by omega) (by omega)).2
  obtain ⟨c1, d1, e1, f1, g1⟩ := idx_up (and15 (y := v / 256) (by omega) (by omega)).1 (and15 (y := v / 256) (by omega) (by omega)).2
  obtain ⟨c2, d2, e2, f2, g2⟩ := idx_up (and15 (y := v / 16) (by omega) (by omega)).1 (and15 (y := v / 16) (by omega) (by omega)).2
  obtain ⟨c3, d3, e3, f3, g3⟩ := idx_up (and15 (y := v) h0 h1).1 (and15 (y := v) h0 h1).2
  have D0 : Hid (ish c0 = true) := d0
  have D1 : Hid (ish c1 = true) := d1
  have D2 : Hid (ish c2 = true) := d2
  have D3 : Hid (ish c3 = true) := d3
  clear d0 d1 d2 d3
  have hcv : (convert 38 9 (.slice (some ⟨w.heap.size, 0, none⟩) 4 4)).run Try.prog (w.alloc (.cells #[.int .u8 c0, .int .u8 c1, .int .u8 c2, .int .u8 c3] 29)) = .ok (.string (strOfNums [c0, c1, c2, c3])) (w.alloc (.cells #[.int .u8 c0, .int .u8 c1, .int .u8 c2, .int .u8 c3] 29)) :=
    run_convert_bytes_arg (P := Try.prog) _ 38 5 Try.underlying38 Try.underlying5 w.heap.size 0 4 4 [c0, c1, c2, c3] rfl (by
      intro i hi
      match i, hi with
      | 0, _ => simp
      | 1, _ => simp
      | 2, _ => simp
      | 3, _ => simp) 9 Try.underlying9
  go_enter Try.func13, Try.ntmps13
  go_wp2
  refine wp_loop_rounds 5 ?_
  rw [rounds_succ]
  go_wp2
  rw [rounds_succ]
  go_wp2
  rw [rounds_succ]
  go_wp2
  rw [rounds_succ]
  go_wp2
  rw [rounds_succ]
  go_wp2
  go_ret
  refine ⟨_, rfl, hx_nums (by simp) (by simp) ?_, (Below.refl _ _).alloc (Nat.le_refl _) _⟩
  intro c hc
  simp only [List.mem_cons, List.not_mem_nil, or_false] at hc
  rcases hc with rfl | rfl | rfl | rfl
  · exact ⟨D0.out, e0, f0⟩
  · exact ⟨D1.out, e1, f1⟩
  · exact ⟨D2.out, e2, f2⟩
  · exact ⟨D3.out, e3, f3⟩

set_option maxRecDepth 100000 in
set_option maxHeartbeats 800000 in
theorem hex_low_0 (v c0 c1 c2 c3 : Int) (w : World) (_h0 : 0 ≤ v) (_h1 : v < 65536)
    (D0 : Hid (ish c0 = true)) (e0 : 0 ≤ c0) (f0 : c0 < 256) (g0 : ∀ w, (Instr.index 9 (.string ⟨#[48, 49, 50, 51, 52, 53, 54, 55, 56, 57, 97, 98, 99, 100, 101, 102]⟩) (.int .u16 (bits .and .u16 (v / 4096) 15))).run Try.prog w = .ok (.int .u8 c0) w)
    (D1 : Hid (ish c1 = true)) (e1 : 0 ≤ c1) (f1 : c1 < 256) (g1 : ∀ w, (Instr.index 9 (.string ⟨#[48, 49, 50, 51, 52, 53, 54, 55, 56, 57, 97, 98, 99, 100, 101, 102]⟩) (.int .u16 (bits .and .u16 (v / 256) 15))).run Try.prog w = .ok (.int .u8 c1) w)
    (D2 : Hid (ish c2 = true)) (e2 : 0 ≤ c2) (f2 : c2 < 256) (g2 : ∀ w, (Instr.index 9 (.string ⟨#[48, 49, 50, 51, 52, 53, 54, 55, 56, 57, 97, 98, 99, 100, 101, 102]⟩) (.int .u16 (bits .and .u16 (v / 16) 15))).run Try.prog w = .ok (.int .u8 c2) w)
    (D3 : Hid (ish c3 = true)) (e3 : 0 ≤ c3) (f3 : c3 < 256) (g3 : ∀ w, (Instr.index 9 (.string ⟨#[48, 49, 50, 51, 52, 53, 54, 55, 56, 57, 97, 98, 99, 100, 101, 102]⟩) (.int .u16 (bits .and .u16 v 15))).run Try.prog w = .ok (.int .u8 c3) w)
    (b0 : (c0 == 48) = false) :
    Calls Try.prog 13 #[.int .u16 v, .bool false, .bool false] w fun e w' => ∃ t, e = .returned (.string t) ∧ Hx (bl t) ∧ Below w.heap.size w w' := by
  have hcv : (convert 38 9 (.slice (some ⟨w.heap.size, 0, none⟩) 4 4)).run Try.prog (w.alloc (.cells #[.int .u8 c0, .int .u8 c1, .int .u8 c2, .int .u8 c3] 29)) = .ok (.string (strOfNums [c0, c1, c2, c3])) (w.alloc (.cells #[.int .u8 c0, .int .u8 c1, .int .u8 c2, .int .u8 c3] 29)) :=
    run_convert_bytes_arg (P := Try.prog) _ 38 5 Try.underlying38 Try.underlying5 w.heap.size 0 4 4 [c0, c1, c2, c3] rfl (by
      intro i hi
      match i, hi with
      | 0, _ => simp
      | 1, _ => simp
      | 2, _ => simp
      | 3, _ => simp) 9 Try.underlying9
  go_enter Try.func13, Try.ntmps13
  go_wp2
  refine wp_loop_rounds 5 ?_
  rw [rounds_succ]
  go_wp2
  rw [rounds_succ]
  go_wp2
  rw [rounds_succ]
  go_wp2
  rw [rounds_succ]
  go_wp2
  rw [rounds_succ]
  go_wp2
  refine wp_loop_rounds 1 ?_
  rw [rounds_succ]
  go_wp2
  go_ret
  refine ⟨_, rfl, hx_nums (by simp) (by simp) ?_, (Below.refl _ _).alloc (Nat.le_refl _) _⟩
  intro c hc
  simp only [List.mem_cons, List.not_mem_nil, or_false] at hc
  rcases hc with rfl | rfl | rfl | rfl
  · exact ⟨D0.out, e0, f0⟩
  · exact ⟨D1.out, e1, f1⟩
  · exact ⟨D2.out, e2, f2⟩
  · exact ⟨D3.out, e3, f3⟩

set_option maxRecDepth 100000 in
set_option maxHeartbeats 800000 in
theorem hex_low_1 (v c0 c1 c2 c3 : Int) (w : World) (_h0 : 0 ≤ v) (_h1 : v < 65536)
    (D0 : Hid (ish c0 = true)) (e0 : 0 ≤ c0) (f0 : c0 < 256) (g0 : ∀ w, (Instr.index 9 (.string ⟨#[48, 49, 50, 51, 52, 53, 54, 55, 56, 57, 97, 98, 99, 100, 101, 102]⟩) (.int .u16 (bits .and .u16 (v / 4096) 15))).run Try.prog w = .ok (.int .u8 c0) w)
    (D1 : Hid (ish c1 = true)) (e1 : 0 ≤ c1) (f1 : c1 < 256) (g1 : ∀ w, (Instr.index 9 (.string ⟨#[48, 49, 50, 51, 52, 53, 54, 55, 56, 57, 97, 98, 99, 100, 101, 102]⟩) (.int .u16 (bits .and .u16 (v / 256) 15))).run Try.prog w = .ok (.int .u8 c1) w)
    (D2 : Hid (ish c2 = true)) (e2 : 0 ≤ c2) (f2 : c2 < 256) (g2 : ∀ w, (Instr.index 9 (.string ⟨#[48, 49, 50, 51, 52, 53, 54, 55, 56, 57, 97, 98, 99, 100, 101, 102]⟩) (.int .u16 (bits .and .u16 (v / 16) 15))).run Try.prog w = .ok (.int .u8 c2) w)
    (D3 : Hid (ish c3 = true)) (e3 : 0 ≤ c3) (f3 : c3 < 256) (g3 : ∀ w, (Instr.index 9 (.string ⟨#[48, 49, 50, 51, 52, 53, 54, 55, 56, 57, 97, 98, 99, 100, 101, 102]⟩) (.int .u16 (bits .and .u16 v 15))).run Try.prog w = .ok (.int .u8 c3) w)
    (b0 : (c0 == 48) = true) (b1 : (c1 == 48) = false) :
    Calls Try.prog 13 #[.int .u16 v, .bool false, .bool false] w fun e w' => ∃ t, e = .returned (.string t) ∧ Hx (bl t) ∧ Below w.heap.size w w' := by
  have hcv : (convert 38 9 (.slice (some ⟨w.heap.size, 1, none⟩) 3 3)).run Try.prog (w.alloc (.cells #[.int .u8 c0, .int .u8 c1, .int .u8 c2, .int .u8 c3] 29)) = .ok (.string (strOfNums [c1, c2, c3])) (w.alloc (.cells #[.int .u8 c0, .int .u8 c1, .int .u8 c2, .int .u8 c3] 29)) :=
    run_convert_bytes_arg (P := Try.prog) _ 38 5 Try.underlying38 Try.underlying5 w.heap.size 1 3 3 [c1, c2, c3] rfl (by
      intro i hi
      match i, hi with
      | 0, _ => simp
      | 1, _ => simp
      | 2, _ => simp) 9 Try.underlying9
  go_enter Try.func13, Try.ntmps13
  go_wp2
  refine wp_loop_rounds 5 ?_
  rw [rounds_succ]
  go_wp2
  rw [rounds_succ]
  go_wp2
  rw [rounds_succ]
  go_wp2
  rw [rounds_succ]
  go_wp2
  rw [rounds_succ]
  go_wp2
  refine wp_loop_rounds 2 ?_
  rw [rounds_succ]
  go_wp2
  rw [rounds_succ]
  go_wp2
  go_ret
  refine ⟨_, rfl, hx_nums (by simp) (by simp) ?_, (Below.refl _ _).alloc (Nat.le_refl _) _⟩
  intro c hc
  simp only [List.mem_cons, List.not_mem_nil, or_false] at hc
  rcases hc with rfl | rfl | rfl
  · exact ⟨D1.out, e1, f1⟩
  · exact ⟨D2.out, e2, f2⟩
  · exact ⟨D3.out, e3, f3⟩

set_option maxRecDepth 100000 in
set_option maxHeartbeats 800000 in
theorem hex_low_2 (v c0 c1 c2 c3 : Int) (w : World) (_h0 : 0 ≤ v) (_h1 : v < 65536)
    (D0 : Hid (ish c0 = true)) (e0 : 0 ≤ c0) (f0 : c0 < 256) (g0 : ∀ w, (Instr.index 9 (.string ⟨#[48, 49, 50, 51, 52, 53, 54, 55, 56, 57, 97, 98, 99, 100, 101, 102]⟩) (.int .u16 (bits .and .u16 (v / 4096) 15))).run Try.prog w = .ok (.int .u8 c0) w)
    (D1 : Hid (ish c1 = true)) (e1 : 0 ≤ c1) (f1 : c1 < 256) (g1 : ∀ w, (Instr.index 9 (.string ⟨#[48, 49, 50, 51, 52, 53, 54, 55, 56, 57, 97, 98, 99, 100, 101, 102]⟩) (.int .u16 (bits .and .u16 (v / 256) 15))).run Try.prog w = .ok (.int .u8 c1) w)
    (D2 : Hid (ish c2 = true)) (e2 : 0 ≤ c2) (f2 : c2 < 256) (g2 : ∀ w, (Instr.index 9 (.string ⟨#[48, 49, 50, 51, 52, 53, 54, 55, 56, 57, 97, 98, 99, 100, 101, 102]⟩) (.int .u16 (bits .and .u16 (v / 16) 15))).run Try.prog w = .ok (.int .u8 c2) w)
    (D3 : Hid (ish c3 = true)) (e3 : 0 ≤ c3) (f3 : c3 < 256) (g3 : ∀ w, (Instr.index 9 (.string ⟨#[48, 49, 50, 51, 52, 53, 54, 55, 56, 57, 97, 98, 99, 100, 101, 102]⟩) (.int .u16 (bits .and .u16 v 15))).run Try.prog w = .ok (.int .u8 c3) w)
    (b0 : (c0 == 48) = true) (b1 : (c1 == 48) = true) (b2 : (c2 == 48) = false) :
    Calls Try.prog 13 #[.int .u16 v, .bool false, .bool false] w fun e w' => ∃ t, e = .returned (.string t) ∧ Hx (bl t) ∧ Below w.heap.size w w' := by
  have hcv : (convert 38 9 (.slice (some ⟨w.heap.size, 2, none⟩) 2 2)).run Try.prog (w.alloc (.cells #[.int .u8 c0, .int .u8 c1, .int .u8 c2, .int .u8 c3] 29)) = .ok (.string (strOfNums [c2, c3])) (w.alloc (.cells #[.int .u8 c0, .int .u8 c1, .int .u8 c2, .int .u8 c3] 29)) :=
    run_convert_bytes_arg (P := Try.prog) _ 38 5 Try.underlying38 Try.underlying5 w.heap.size 2 2 2 [c2, c3] rfl (by
      intro i hi
      match i, hi with
      | 0, _ => simp
      | 1, _ => simp) 9 Try.underlying9
  go_enter Try.func13, Try.ntmps13
  go_wp2
  refine wp_loop_rounds 5 ?_
  rw [rounds_succ]
  go_wp2
  rw [rounds_succ]
  go_wp2
  rw [rounds_succ]
  go_wp2
  rw [rounds_succ]
  go_wp2
  rw [rounds_succ]
  go_wp2
  refine wp_loop_rounds 3 ?_
  rw [rounds_succ]
  go_wp2
  rw [rounds_succ]
  go_wp2
  rw [rounds_succ]
  go_wp2
  go_ret
  refine ⟨_, rfl, hx_nums (by simp) (by simp) ?_, (Below.refl _ _).alloc (Nat.le_refl _) _⟩
  intro c hc
  simp only [List.mem_cons, List.not_mem_nil, or_false] at hc
  rcases hc with rfl | rfl
  · exact ⟨D2.out, e2, f2⟩
  · exact ⟨D3.out, e3, f3⟩

set_option maxRecDepth 100000 in
set_option maxHeartbeats 800000 in
theorem hex_low_3 (v c0 c1 c2 c3 : Int) (w : World) (_h0 : 0 ≤ v) (_h1 : v < 65536)
    (D0 : Hid (ish c0 = true)) (e0 : 0 ≤ c0) (f0 : c0 < 256) (g0 : ∀ w, (Instr.index 9 (.string ⟨#[48, 49, 50, 51, 52, 53, 54, 55, 56, 57, 97, 98, 99, 100, 101, 102]⟩) (.int .u16 (bits .and .u16 (v / 4096) 15))).run Try.prog w = .ok (.int .u8 c0) w)
    (D1 : Hid (ish c1 = true)) (e1 : 0 ≤ c1) (f1 : c1 < 256) (g1 : ∀ w, (Instr.index 9 (.string ⟨#[48, 49, 50, 51, 52, 53, 54, 55, 56, 57, 97, 98, 99, 100, 101, 102]⟩) (.int .u16 (bits .and .u16 (v / 256) 15))).run Try.prog w = .ok (.int .u8 c1) w)
    (D2 : Hid (ish c2 = true)) (e2 : 0 ≤ c2) (f2 : c2 < 256) (g2 : ∀ w, (Instr.index 9 (.string ⟨#[48, 49, 50, 51, 52, 53, 54, 55, 56, 57, 97, 98, 99, 100, 101, 102]⟩) (.int .u16 (bits .and .u16 (v / 16) 15))).run Try.prog w = .ok (.int .u8 c2) w)
    (D3 : Hid (ish c3 = true)) (e3 : 0 ≤ c3) (f3 : c3 < 256) (g3 : ∀ w, (Instr.index 9 (.string ⟨#[48, 49, 50, 51, 52, 53, 54, 55, 56, 57, 97, 98, 99, 100, 101, 102]⟩) (.int .u16 (bits .and .u16 v 15))).run Try.prog w = .ok (.int .u8 c3) w)
    (b0 : (c0 == 48) = true) (b1 : (c1 == 48) = true) (b2 : (c2 == 48) = true) :
    Calls Try.prog 13 #[.int .u16 v, .bool false, .bool false] w fun e w' => ∃ t, e = .returned (.string t) ∧ Hx (bl t) ∧ Below w.heap.size w w' := by
  have hcv : (convert 38 9 (.slice (some ⟨w.heap.size, 3, none⟩) 1 1)).run Try.prog (w.alloc (.cells #[.int .u8 c0, .int .u8 c1, .int .u8 c2, .int .u8 c3] 29)) = .ok (.string (strOfNums [c3])) (w.alloc (.cells #[.int .u8 c0, .int .u8 c1, .int .u8 c2, .int .u8 c3] 29)) :=
    run_convert_bytes_arg (P := Try.prog) _ 38 5 Try.underlying38 Try.underlying5 w.heap.size 3 1 1 [c3] rfl (by
      intro i hi
      match i, hi with
      | 0, _ => simp) 9 Try.underlying9
  go_enter Try.func13, Try.ntmps13
  go_wp2
  refine wp_loop_rounds 5 ?_
  rw [rounds_succ]
  go_wp2
  rw [rounds_succ]
  go_wp2
  rw [rounds_succ]
  go_wp2
  rw [rounds_succ]
  go_wp2
  rw [rounds_succ]
  go_wp2
  refine wp_loop_rounds 4 ?_
  rw [rounds_succ]
  go_wp2
  rw [rounds_succ]
  go_wp2
  rw [rounds_succ]
  go_wp2
  rw [rounds_succ]
  go_wp2
  go_ret
  refine ⟨_, rfl, hx_nums (by simp) (by simp) ?_, (Below.refl _ _).alloc (Nat.le_refl _) _⟩
  intro c hc
  simp only [List.mem_cons, List.not_mem_nil, or_false] at hc
  subst hc
  exact ⟨D3.out, e3, f3⟩

theorem hex_low (v : Int) (h0 : 0 ≤ v) (h1 : v < 65536) (w : World) :
    Calls Try.prog 13 #[.int .u16 v, .bool false, .bool false] w fun e w' => ∃ t, e = .returned (.string t) ∧ Hx (bl t) ∧ Below w.heap.size w w' := by
  obtain ⟨c0, d0, e0, f0, g0⟩ := idx_low (and15 (y := v / 4096) (by omega) (by omega)).1 (and15 (y := v / 4096) (by omega) (by omega)).2
  obtain ⟨c1, d1, e1, f1, g1⟩ := idx_low (and15 (y := v / 256) (by omega) (by omega)).1 (and15 (y := v / 256) (by omega) (by omega)).2
  obtain ⟨c2, d2, e2, f2, g2⟩ := idx_low (and15 (y := v / 16) (by omega) (by omega)).1 (and15 (y := v / 16) (by omega) (by omega)).2
  obtain ⟨c3, d3, e3, f3, g3⟩ := idx_low (and15 (y := v) h0 h1).1 (and15 (y := v) h0 h1).2
  cases b0 : (c0 == 48)
  · exact hex_low_0 v c0 c1 c2 c3 w h0 h1 d0 e0 f0 g0 d1 e1 f1 g1 d2 e2 f2 g2 d3 e3 f3 g3 b0
  · cases b1 : (c1 == 48)
    · exact hex_low_1 v c0 c1 c2 c3 w h0 h1 d0 e0 f0 g0 d1 e1 f1 g1 d2 e2 f2 g2 d3 e3 f3 g3 b0 b1
    · cases b2 : (c2 == 48)
      · exact hex_low_2 v c0 c1 c2 c3 w h0 h1 d0 e0 f0 g0 d1 e1 f1 g1 d2 e2 f2 g2 d3 e3 f3 g3 b0 b1 b2
      · exact hex_low_3 v c0 c1 c2 c3 w h0 h1 d0 e0 f0 g0 d1 e1 f1 g1 d2 e2 f2 g2 d3 e3 f3 g3 b0 b1 b2

set_option maxRecDepth 100000 in
set_option maxHeartbeats 800000 in
theorem hex_up_0 (v c0 c1 c2 c3 : Int) (w : World) (_h0 : 0 ≤ v) (_h1 : v < 65536)
    (D0 : Hid (ish c0 = true)) (e0 : 0 ≤ c0) (f0 : c0 < 256) (g0 : ∀ w, (Instr.index 9 (.string ⟨#[48, 49, 50, 51, 52, 53, 54, 55, 56, 57, 65, 66, 67, 68, 69, 70]⟩) (.int .u16 (bits .and .u16 (v / 4096) 15))).run Try.prog w = .ok (.int .u8 c0) w)
    (D1 : Hid (ish c1 = true)) (e1 : 0 ≤ c1) (f1 : c1 < 256) (g1 : ∀ w, (Instr.index 9 (.string ⟨#[48, 49, 50, 51, 52, 53, 54, 55, 56, 57, 65, 66, 67, 68, 69, 70]⟩) (.int .u16 (bits .and .u16 (v / 256) 15))).run Try.prog w = .ok (.int .u8 c1) w)
    (D2 : Hid (ish c2 = true)) (e2 : 0 ≤ c2) (f2 : c2 < 256) (g2 : ∀ w, (Instr.index 9 (.string ⟨#[48, 49, 50, 51, 52, 53, 54, 55, 56, 57, 65, 66, 67, 68, 69, 70]⟩) (.int .u16 (bits .and .u16 (v / 16) 15))).run Try.prog w = .ok (.int .u8 c2) w)
    (D3 : Hid (ish c3 = true)) (e3 : 0 ≤ c3) (f3 : c3 < 256) (g3 : ∀ w, (Instr.index 9 (.string ⟨#[48, 49, 50, 51, 52, 53, 54, 55, 56, 57, 65, 66, 67, 68, 69, 70]⟩) (.int .u16 (bits .and .u16 v 15))).run Try.prog w = .ok (.int .u8 c3) w)
    (b0 : (c0 == 48) = false) :
    Calls Try.prog 13 #[.int .u16 v, .bool true, .bool false] w fun e w' => ∃ t, e = .returned (.string t) ∧ Hx (bl t) ∧ Below w.heap.size w w' := by
  have hcv : (convert 38 9 (.slice (some ⟨w.heap.size, 0, none⟩) 4 4)).run Try.prog (w.alloc (.cells #[.int .u8 c0, .int .u8 c1, .int .u8 c2, .int .u8 c3] 29)) = .ok (.string (strOfNums [c0, c1, c2, c3])) (w.alloc (.cells #[.int .u8 c0, .int .u8 c1, .int .u8 c2, .int .u8 c3] 29)) :=
    run_convert_bytes_arg (P := Try.prog) _ 38 5 Try.underlying38 Try.underlying5 w.heap.size 0 4 4 [c0, c1, c2, c3] rfl (by
      intro i hi
      match i, hi with
      | 0, _ => simp
      | 1, _ => simp
      | 2, _ => simp
      | 3, _ => simp) 9 Try.underlying9
  go_enter Try.func13, Try.ntmps13
  go_wp2
  refine wp_loop_rounds 5 ?_
  rw [rounds_succ]
  go_wp2
  rw [rounds_succ]
  go_wp2
  rw [rounds_succ]
  go_wp2
  rw [rounds_succ]
  go_wp2
  rw [rounds_succ]
  go_wp2
  refine wp_loop_rounds 1 ?_
  rw [rounds_succ]
  go_wp2
  go_ret
  refine ⟨_, rfl, hx_nums (by simp) (by simp) ?_, (Below.refl _ _).alloc (Nat.le_refl _) _⟩
  intro c hc
  simp only [List.mem_cons, List.not_mem_nil, or_false] at hc
  rcases hc with rfl | rfl | rfl | rfl
  · exact ⟨D0.out, e0, f0⟩
  · exact ⟨D1.out, e1, f1⟩
  · exact ⟨D2.out, e2, f2⟩
  · exact ⟨D3.out, e3, f3⟩

set_option maxRecDepth 100000 in
set_option maxHeartbeats 800000 in
theorem hex_up_1 (v c0 c1 c2 c3 : Int) (w : World) (_h0 : 0 ≤ v) (_h1 : v < 65536)
    (D0 : Hid (ish c0 = true)) (e0 : 0 ≤ c0) (f0 : c0 < 256) (g0 : ∀ w, (Instr.index 9 (.string ⟨#[48, 49, 50, 51, 52, 53, 54, 55, 56, 57, 65, 66, 67, 68, 69, 70]⟩) (.int .u16 (bits .and .u16 (v / 4096) 15))).run Try.prog w = .ok (.int .u8 c0) w)
    (D1 : Hid (ish c1 = true)) (e1 : 0 ≤ c1) (f1 : c1 < 256) (g1 : ∀ w, (Instr.index 9 (.string ⟨#[48, 49, 50, 51, 52, 53, 54, 55, 56, 57, 65, 66, 67, 68, 69, 70]⟩) (.int .u16 (bits .and .u16 (v / 256) 15))).run Try.prog w = .ok (.int .u8 c1) w)
    (D2 : Hid (ish c2 = true)) (e2 : 0 ≤ c2) (f2 : c2 < 256) (g2 : ∀ w, (Instr.index 9 (.string ⟨#[48, 49, 50, 51, 52, 53, 54, 55, 56, 57, 65, 66, 67, 68, 69, 70]⟩) (.int .u16 (bits .and .u16 (v / 16) 15))).run Try.prog w = .ok (.int .u8 c2) w)
    (D3 : Hid (ish c3 = true)) (e3 : 0 ≤ c3) (f3 : c3 < 256) (g3 : ∀ w, (Instr.index 9 (.string ⟨#[48, 49, 50, 51, 52, 53, 54, 55, 56, 57, 65, 66, 67, 68, 69, 70]⟩) (.int .u16 (bits .and .u16 v 15))).run Try.prog w = .ok (.int .u8 c3) w)
    (b0 : (c0 == 48) = true) (b1 : (c1 == 48) = false) :
    Calls Try.prog 13 #[.int .u16 v, .bool true, .bool false] w fun e w' => ∃ t, e = .returned (.string t) ∧ Hx (bl t) ∧ Below w.heap.size w w' := by
  have hcv : (convert 38 9 (.slice (some ⟨w.heap.size, 1, none⟩) 3 3)).run Try.prog (w.alloc (.cells #[.int .u8 c0, .int .u8 c1, .int .u8 c2, .int .u8 c3] 29)) = .ok (.string (strOfNums [c1, c2, c3])) (w.alloc (.cells #[.int .u8 c0, .int .u8 c1, .int .u8 c2, .int .u8 c3] 29)) :=
    run_convert_bytes_arg (P := Try.prog) _ 38 5 Try.underlying38 Try.underlying5 w.heap.size 1 3 3 [c1, c2, c3] rfl (by
      intro i hi
      match i, hi with
      | 0, _ => simp
      | 1, _ => simp
      | 2, _ => simp) 9 Try.underlying9
  go_enter Try.func13, Try.ntmps13
  go_wp2
  refine wp_loop_rounds 5 ?_
  rw [rounds_succ]
  go_wp2
  rw [rounds_succ]
  go_wp2
  rw [rounds_succ]
  go_wp2
  rw [rounds_succ]
  go_wp2
  rw [rounds_succ]
  go_wp2
  refine wp_loop_rounds 2 ?_
  rw [rounds_succ]
  go_wp2
  rw [rounds_succ]
  go_wp2
  go_ret
  refine ⟨_, rfl, hx_nums (by simp) (by simp) ?_, (Below.refl _ _).alloc (Nat.le_refl _) _⟩
  intro c hc
  simp only [List.mem_cons, List.not_mem_nil, or_false] at hc
  rcases hc with rfl | rfl | rfl
  · exact ⟨D1.out, e1, f1⟩
  · exact ⟨D2.out, e2, f2⟩
  · exact ⟨D3.out, e3, f3⟩

set_option maxRecDepth 100000 in
set_option maxHeartbeats 800000 in
theorem hex_up_2 (v c0 c1 c2 c3 : Int) (w : World) (_h0 : 0 ≤ v) (_h1 : v < 65536)
    (D0 : Hid (ish c0 = true)) (e0 : 0 ≤ c0) (f0 : c0 < 256) (g0 : ∀ w, (Instr.index 9 (.string ⟨#[48, 49, 50, 51, 52, 53, 54, 55, 56, 57, 65, 66, 67, 68, 69, 70]⟩) (.int .u16 (bits .and .u16 (v / 4096) 15))).run Try.prog w = .ok (.int .u8 c0) w)
    (D1 : Hid (ish c1 = true)) (e1 : 0 ≤ c1) (f1 : c1 < 256) (g1 : ∀ w, (Instr.index 9 (.string ⟨#[48, 49, 50, 51, 52, 53, 54, 55, 56, 57, 65, 66, 67, 68, 69, 70]⟩) (.int .u16 (bits .and .u16 (v / 256) 15))).run Try.prog w = .ok (.int .u8 c1) w)
    (D2 : Hid (ish c2 = true)) (e2 : 0 ≤ c2) (f2 : c2 < 256) (g2 : ∀ w, (Instr.index 9 (.string ⟨#[48, 49, 50, 51, 52, 53, 54, 55, 56, 57, 65, 66, 67, 68, 69, 70]⟩) (.int .u16 (bits .and .u16 (v / 16) 15))).run Try.prog w = .ok (.int .u8 c2) w)
    (D3 : Hid (ish c3 = true)) (e3 : 0 ≤ c3) (f3 : c3 < 256) (g3 : ∀ w, (Instr.index 9 (.string ⟨#[48, 49, 50, 51, 52, 53, 54, 55, 56, 57, 65, 66, 67, 68, 69, 70]⟩) (.int .u16 (bits .and .u16 v 15))).run Try.prog w = .ok (.int .u8 c3) w)
    (b0 : (c0 == 48) = true) (b1 : (c1 == 48) = true) (b2 : (c2 == 48) = false) :
    Calls Try.prog 13 #[.int .u16 v, .bool true, .bool false] w fun e w' => ∃ t, e = .returned (.string t) ∧ Hx (bl t) ∧ Below w.heap.size w w' := by
  have hcv : (convert 38 9 (.slice (some ⟨w.heap.size, 2, none⟩) 2 2)).run Try.prog (w.alloc (.cells #[.int .u8 c0, .int .u8 c1, .int .u8 c2, .int .u8 c3] 29)) = .ok (.string (strOfNums [c2, c3])) (w.alloc (.cells #[.int .u8 c0, .int .u8 c1, .int .u8 c2, .int .u8 c3] 29)) :=
    run_convert_bytes_arg (P := Try.prog) _ 38 5 Try.underlying38 Try.underlying5 w.heap.size 2 2 2 [c2, c3] rfl (by
      intro i hi
      match i, hi with
      | 0, _ => simp
      | 1, _ => simp) 9 Try.underlying9
  go_enter Try.func13, Try.ntmps13
  go_wp2
  refine wp_loop_rounds 5 ?_
  rw [rounds_succ]
  go_wp2
  rw [rounds_succ]
  go_wp2
  rw [rounds_succ]
  go_wp2
  rw [rounds_succ]
  go_wp2
  rw [rounds_succ]
  go_wp2
  refine wp_loop_rounds 3 ?_
  rw [rounds_succ]
  go_wp2
  rw [rounds_succ]
  go_wp2
  rw [rounds_succ]
  go_wp2
  go_ret
  refine ⟨_, rfl, hx_nums (by simp) (by simp) ?_, (Below.refl _ _).alloc (Nat.le_refl _) _⟩
  intro c hc
  simp only [List.mem_cons, List.not_mem_nil, or_false] at hc
  rcases hc with rfl | rfl
  · exact ⟨D2.out, e2, f2⟩
  · exact ⟨D3.out, e3, f3⟩

set_option maxRecDepth 100000 in
set_option maxHeartbeats 800000 in
theorem hex_up_3 (v c0 c1 c2 c3 : Int) (w : World) (_h0 : 0 ≤ v) (_h1 : v < 65536)
    (D0 : Hid (ish c0 = true)) (e0 : 0 ≤ c0) (f0 : c0 < 256) (g0 : ∀ w, (Instr.index 9 (.string ⟨#[48, 49, 50, 51, 52, 53, 54, 55, 56, 57, 65, 66, 67, 68, 69, 70]⟩) (.int .u16 (bits .and .u16 (v / 4096) 15))).run Try.prog w = .ok (.int .u8 c0) w)
    (D1 : Hid (ish c1 = true)) (e1 : 0 ≤ c1) (f1 : c1 < 256) (g1 : ∀ w, (Instr.index 9 (.string ⟨#[48, 49, 50, 51, 52, 53, 54, 55, 56, 57, 65, 66, 67, 68, 69, 70]⟩) (.int .u16 (bits .and .u16 (v / 256) 15))).run Try.prog w = .ok (.int .u8 c1) w)
    (D2 : Hid (ish c2 = true)) (e2 : 0 ≤ c2) (f2 : c2 < 256) (g2 : ∀ w, (Instr.index 9 (.string ⟨#[48, 49, 50, 51, 52, 53, 54, 55, 56, 57, 65, 66, 67, 68, 69, 70]⟩) (.int .u16 (bits .and .u16 (v / 16) 15))).run Try.prog w = .ok (.int .u8 c2) w)
    (D3 : Hid (ish c3 = true)) (e3 : 0 ≤ c3) (f3 : c3 < 256) (g3 : ∀ w, (Instr.index 9 (.string ⟨#[48, 49, 50, 51, 52, 53, 54, 55, 56, 57, 65, 66, 67, 68, 69, 70]⟩) (.int .u16 (bits .and .u16 v 15))).run Try.prog w = .ok (.int .u8 c3) w)
    (b0 : (c0 == 48) = true) (b1 : (c1 == 48) = true) (b2 : (c2 == 48) = true) :
    Calls Try.prog 13 #[.int .u16 v, .bool true, .bool false] w fun e w' => ∃ t, e = .returned (.string t) ∧ Hx (bl t) ∧ Below w.heap.size w w' := by
  have hcv : (convert 38 9 (.slice (some ⟨w.heap.size, 3, none⟩) 1 1)).run Try.prog (w.alloc (.cells #[.int .u8 c0, .int .u8 c1, .int .u8 c2, .int .u8 c3] 29)) = .ok (.string (strOfNums [c3])) (w.alloc (.cells #[.int .u8 c0, .int .u8 c1, .int .u8 c2, .int .u8 c3] 29)) :=
    run_convert_bytes_arg (P := Try.prog) _ 38 5 Try.underlying38 Try.underlying5 w.heap.size 3 1 1 [c3] rfl (by
      intro i hi
      match i, hi with
      | 0, _ => simp) 9 Try.underlying9
  go_enter Try.func13, Try.ntmps13
  go_wp2
  refine wp_loop_rounds 5 ?_
  rw [rounds_succ]
  go_wp2
  rw [rounds_succ]
  go_wp2
  rw [rounds_succ]
  go_wp2
  rw [rounds_succ]
  go_wp2
  rw [rounds_succ]
  go_wp2
  refine wp_loop_rounds 4 ?_
  rw [rounds_succ]
  go_wp2
  rw [rounds_succ]
  go_wp2
  rw [rounds_succ]
  go_wp2
  rw [rounds_succ]
  go_wp2
  go_ret
  refine ⟨_, rfl, hx_nums (by simp) (by simp) ?_, (Below.refl _ _).alloc (Nat.le_refl _) _⟩
  intro c hc
  simp only [List.mem_cons, List.not_mem_nil, or_false] at hc
  subst hc
  exact ⟨D3.out, e3, f3⟩

theorem hex_up (v : Int) (h0 : 0 ≤ v) (h1 : v < 65536) (w : World) :
    Calls Try.prog 13 #[.int .u16 v, .bool true, .bool false] w fun e w' => ∃ t, e = .returned (.string t) ∧ Hx (bl t) ∧ Below w.heap.size w w' := by
  obtain ⟨c0, d0, e0, f0, g0⟩ := idx_up (and15 (y := v / 4096) (by omega) (by omega)).1 (and15 (y := v / 4096) (by omega) (by omega)).2
  obtain ⟨c1, d1, e1, f1, g1⟩ := idx_up (and15 (y := v / 256) (by omega) (by omega)).1 (and15 (y := v / 256) (by omega) (by omega)).2
  obtain ⟨c2, d2, e2, f2, g2⟩ := idx_up (and15 (y := v / 16) (by omega) (by omega)).1 (and15 (y := v / 16) (by omega) (by omega)).2
  obtain ⟨c3, d3, e3, f3, g3⟩ := idx_up (and15 (y := v) h0 h1).1 (and15 (y := v) h0 h1).2
  cases b0 : (c0 == 48)
  · exact hex_up_0 v c0 c1 c2 c3 w h0 h1 d0 e0 f0 g0 d1 e1 f1 g1 d2 e2 f2 g2 d3 e3 f3 g3 b0
  · cases b1 : (c1 == 48)
    · exact hex_up_1 v c0 c1 c2 c3 w h0 h1 d0 e0 f0 g0 d1 e1 f1 g1 d2 e2 f2 g2 d3 e3 f3 g3 b0 b1
    · cases b2 : (c2 == 48)
      · exact hex_up_2 v c0 c1 c2 c3 w h0 h1 d0 e0 f0 g0 d1 e1 f1 g1 d2 e2 f2 g2 d3 e3 f3 g3 b0 b1 b2
      · exact hex_up_3 v c0 c1 c2 c3 w h0 h1 d0 e0 f0 g0 d1 e1 f1 g1 d2 e2 f2 g2 d3 e3 f3 g3 b0 b1 b2

/-- 'zzB1Hex' -/
theorem hex_any (v : Int) (up pad : Bool) (h0 : 0 ≤ v) (h1 : v < 65536) (w : World) :
    Calls Try.prog 13 #[.int .u16 v, .bool up, .bool pad] w fun e w' => ∃ t, e = .returned (.string t) ∧ Hx (bl t) ∧ Below w.heap.size w w' := by
  cases up <;> cases pad
  · exact hex_low v h0 h1 w
  · exact hex_low_pad v h0 h1 w
  · exact hex_up v h0 h1 w
  · exact hex_up_pad v h0 h1 w

/-- 'zzB1Quad' -/
theorem quadtext_any (x y : Int) (hx0 : 0 ≤ x) (hx1 : x < 65536) (hy0 : 0 ≤ y) (hy1 : y < 65536) (w : World) :
    Calls Try.prog 12 #[.int .u16 x, .int .u16 y] w fun e w' => ∃ (t : ByteArray) (a b c d : Nat), e = .returned (.string t) ∧ bl t = join4 (utoa a) (utoa b) (utoa c) (utoa d) ∧ a < 256 ∧ b < 256 ∧ c < 256 ∧ d < 256 ∧ t.size ≤ 15 ∧ Below w.heap.size w w' := by
  have hb := and255 hx0 hx1
  have hd := and255 hy0 hy1
  obtain ⟨a, ha⟩ : ∃ a : Nat, x / 256 = a := ⟨(x / 256).toNat, by omega⟩
  obtain ⟨b, hb'⟩ : ∃ b : Nat, bits .and .u16 x 255 = b := ⟨(bits .and .u16 x 255).toNat, by omega⟩
  obtain ⟨c, hc⟩ : ∃ c : Nat, y / 256 = c := ⟨(y / 256).toNat, by omega⟩
  obtain ⟨d, hd'⟩ : ∃ d : Nat, bits .and .u16 y 255 = d := ⟨(bits .and .u16 y 255).toNat, by omega⟩
  have la : a < 256 := by omega
  have lb : b < 256 := by omega
  have lc : c < 256 := by omega
  have ld : d < 256 := by omega
  clear hb hd
  go_enter Try.func12, Try.ntmps12
  go_wp2_with (first | (go_at_call 21; have hprev := hs3; refine (utoa_any _ _ rfl (by omega) _).mono ?_; clear hprev; rintro e w4 ⟨t4, rfl, ht4, hb4⟩; have hs4 := utoa_size ht4) | (go_at_call 21; have hprev := hs2; refine (utoa_any _ _ rfl (by omega) _).mono ?_; clear hprev; rintro e w3 ⟨t3, rfl, ht3, hb3⟩; have hs3 := utoa_size ht3) | (go_at_call 21; have hprev := hs1; refine (utoa_any _ _ rfl (by omega) _).mono ?_; clear hprev; rintro e w2 ⟨t2, rfl, ht2, hb2⟩; have hs2 := utoa_size ht2) | (go_at_call 21; refine (utoa_any _ _ rfl (by omega) _).mono ?_; rintro e w1 ⟨t1, rfl, ht1, hb1⟩; have hs1 := utoa_size ht1))
  go_ret
  have b2 := hb1.trans (hb2.mono hb1.size)
  have b3 := b2.trans (hb3.mono b2.size)
  have b4 := b3.trans (hb4.mono b3.size)
  refine ⟨j4 t1 t2 t3 t4, a, b, c, d, rfl, ?_, la, lb, lc, ld, ?_, b4⟩
  · rw [bl_j4, ht1, ht2, ht3, ht4]
  · rw [size_j4]; omega
end Go.Proofs.Qxb6602093a
