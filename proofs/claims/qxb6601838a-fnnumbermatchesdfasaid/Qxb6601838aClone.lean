/-
  WALKS OF THE SEAT b6601838a: 'zzCloneEnvB1' (a fresh copy of a slice of bytes), the bounds 'zzBytes_..'.
-/
import Derived.Test.Qxb6601838aDigits
import Derived.Laws.CopyOwn
import Derived.Deep.OwnRows
import Derived.WalkSpells
namespace Go.Proofs.Qxb6601838a
open Go.RowKit Plain

theorem Try.info5 : (Try.prog.info? 5).map (fun i => (i.zero, i.size, i.bytes)) = some (some (.int .u8 0), 1, 1) := by kernel_rfl
theorem Try.size5 : (Try.prog.info? 5).map (·.size) = some 1 := by kernel_rfl

/-- the cells of a row of bytes -/
def cells8 (zs : List Int) : List Value := zs.map (Value.int .u8)

theorem clone_nil (w : World) :
    Calls Try.prog 9 #[.slice none 0 0] w fun e w' => e = .returned (.slice none 0 0) ∧ w' = w := by
  have q22 : ∀ (w : World) (a : Option Addr) (n c n' c' : Nat), (binOp .eql 22 (.slice a n c) (.slice none n' c')).run Try.prog w = .ok (.bool a.isNone) w := fun w a n c n' c' => Lib.run_eql_slice_nil w _ _ a n c n' c' Try.underlying22
  go_enter Try.func9, Try.ntmps9
  go_wp2
  go_ret
  exact ⟨rfl, rfl⟩

theorem clone_row (x : Addr) (cap : Nat) (zs : List Int) (w : World) (hl : zs.length ≤ 1048576)
    (hc : ∀ k, k < zs.length → w.cell? (x.add k) = some (.int .u8 (zs.getD k 0))) :
    Calls Try.prog 9 #[.slice (some x) zs.length cap] w fun e w' => e = .returned (.slice (some ⟨w.heap.size, 0, none⟩) zs.length zs.length) ∧
      (∀ k, k < zs.length → w'.cell? ⟨w.heap.size, 0 + k, none⟩ = some (.int .u8 (zs.getD k 0))) ∧ Below w.heap.size w w' ∧ w.heap.size < w'.heap.size := by
  have q22 : ∀ (w : World) (a : Option Addr) (n c n' c' : Nat), (binOp .eql 22 (.slice a n c) (.slice none n' c')).run Try.prog w = .ok (.bool a.isNone) w := fun w a n c n' c' => Lib.run_eql_slice_nil w _ _ a n c n' c' Try.underlying22
  have hmk := fun wx => run_make_row' (P := Try.prog) 22 5 (.int .u8 0) 1 Try.underlying22 Try.info5 rfl .i64 .i64 zs.length (by omega) (by omega) wx
  obtain ⟨cur, hcur⟩ : ∃ cur : List Value, cur = (madeCells #[.int .u8 0] zs.length).toList := ⟨_, rfl⟩
  have hcl : cur.length = zs.length := by rw [hcur]; simp [size_madeCells]
  have hca : madeCells #[.int .u8 0] zs.length = cur.toArray := by rw [hcur]
  rw [hca] at hmk
  have HCL : Hid (cur.length = zs.length) := hcl
  clear hcl hca hcur
  have HN : Hid ((w.alloc (.cells cur.toArray 5)).heap[w.heap.size]? = some (.cells cur.toArray 5 (0, 0))) := heap_alloc_new w _
  have HS : Hid (∀ j v, (cells8 zs)[j]? = some v → (w.alloc (.cells cur.toArray 5)).cell? (x.add j) = some v) := by
    intro j v hj
    have hlt : j < zs.length := by have := List.getElem?_eq_some_iff.1 hj; simpa [cells8] using this.1
    have e := hc j hlt
    have hv : v = .int .u8 (zs.getD j 0) := by
      simp [cells8, hlt] at hj
      rw [← hj]; simp [hlt]
    rw [World.cell?_alloc_lt _ _ _ (World.block_lt_of_cell? w _ e), e, hv]
  have H1 : Hid (∀ v ∈ cells8 zs, v.oneCell' = true) := by
    intro v hv
    simp only [cells8, List.mem_map] at hv
    obtain ⟨z, _, rfl⟩ := hv
    rfl
  have HL : Hid ((cells8 zs).length = zs.length) := by show _ = _; simp [cells8]
  have HB : Hid (Below w.heap.size w (w.alloc (.cells cur.toArray 5))) := (Below.refl _ _).alloc (Nat.le_refl _) _
  clear hc
  go_enter Try.func9, Try.ntmps9
  go_wp2_with (refine wpList_copy_splice rfl (.tmp 9) (.tmp 10) 22 22 rfl 5 Try.underlying22 Try.size5 _ _ _ _ _ _ rfl rfl w.heap.size 0 cur 5 HN.out (cells8 zs) (by rw [HL.out]; simp) (fun _ => ⟨rfl, _, rfl, HS.out⟩) (by rw [HL.out, HCL.out]; omega) H1.out w.heap.size w HB.out (Nat.le_refl _) ?_; intro w2 HG2 hB2)
  go_ret
  refine ⟨rfl, fun k hk => ?_, hB2, ?_⟩
  · have e := HG2.out
    have hsp : splice cur 0 (cells8 zs) = cells8 zs := by simp [splice, HL.out, HCL.out]
    rw [hsp] at e
    simp only [World.cell?, e]
    simp [cells8, hk]
  · have e := HG2.out
    exact (List.getElem?_eq_some_iff.1 (by simpa using e)).1

/-- the copy, whatever slice came in -/
theorem clone_any (a : Option Addr) (cap : Nat) (zs : List Int) (w : World) (hl : zs.length ≤ 1048576)
    (hr : (a = none ∧ cap = 0 ∧ zs = []) ∨ ∃ x, a = some x ∧ ∀ k, k < zs.length → w.cell? (x.add k) = some (.int .u8 (zs.getD k 0))) :
    Calls Try.prog 9 #[.slice a zs.length cap] w fun e w' => ∃ a' cap', e = .returned (.slice a' zs.length cap') ∧ Row8 w' a' zs ∧ Below w.heap.size w w' := by
  rcases hr with ⟨rfl, rfl, rfl⟩ | ⟨x, rfl, hc⟩
  · refine (clone_nil w).mono ?_
    rintro e w' ⟨rfl, rfl⟩
    exact ⟨none, 0, rfl, .inl ⟨rfl, rfl⟩, Below.refl _ _⟩
  · refine (clone_row x cap zs w hl hc).mono ?_
    rintro e w' ⟨rfl, hk, hb, _⟩
    exact ⟨_, _, rfl, .inr ⟨_, _, rfl, hk⟩, hb⟩

/-! ### the bounds on total length -/
theorem bytes3_any (a : Option Addr) (len cap : Nat) (i : Int) (w : World) (hm : len ≤ maxLen) :
    Calls Try.prog 8 #[.slice a len cap, .int .i64 i] w fun e w' => e = .returned (.bool (decide (len ≤ 1048576))) ∧ w' = w := by
  unfold maxLen at hm
  by_cases h : len ≤ 1048576
  · go_enter Try.func8, Try.ntmps8
    go_wp2
    go_ret
    exact ⟨by simp [h], rfl⟩
  · go_enter Try.func8, Try.ntmps8
    go_wp2
    go_ret
    exact ⟨by simp [h], rfl⟩
theorem bytes6_any (a : Option Addr) (len cap : Nat) (i : Int) (w : World) (hm : len ≤ maxLen) :
    Calls Try.prog 15 #[.slice a len cap, .int .i64 i] w fun e w' => e = .returned (.bool (decide (len ≤ 1048576))) ∧ w' = w := by
  unfold maxLen at hm
  by_cases h : len ≤ 1048576
  · go_enter Try.func15, Try.ntmps15
    go_wp2
    go_ret
    exact ⟨by simp [h], rfl⟩
  · go_enter Try.func15, Try.ntmps15
    go_wp2
    go_ret
    exact ⟨by simp [h], rfl⟩
theorem bytes7_any (a : Option Addr) (len cap : Nat) (i j : Int) (w : World) (hm : len ≤ maxLen) :
    Calls Try.prog 18 #[.slice a len cap, .int .i64 i, .int .i64 j] w fun e w' => e = .returned (.bool (decide (len ≤ 1048576))) ∧ w' = w := by
  unfold maxLen at hm
  by_cases h : len ≤ 1048576
  · go_enter Try.func18, Try.ntmps18
    go_wp2
    go_ret
    exact ⟨by simp [h], rfl⟩
  · go_enter Try.func18, Try.ntmps18
    go_wp2
    go_ret
    exact ⟨by simp [h], rfl⟩
end Go.Proofs.Qxb6601838a
