/-
  WALKS OF THE SEAT b6602093a: 'zzB1Join4', 'FnIsDottedIPv4AcceptsEveryQuadAndRefusesItsNeighbours'.
-/
import Derived.Test.Qxb6602093aDotted
import Derived.OneCell
import Derived.Deep.Heap
namespace Go.Proofs.Qxb6602093a
open Go.RowKit Plain

/-- four texts joined by dots, as the Go text joins them -/
def j4 (a b c d : ByteArray) : ByteArray := a ++ ⟨#[46]⟩ ++ b ++ ⟨#[46]⟩ ++ c ++ ⟨#[46]⟩ ++ d
theorem bl_dot : bl ⟨#[46]⟩ = [46] := rfl
theorem bl_j4 (a b c d : ByteArray) : bl (j4 a b c d) = join4 (bl a) (bl b) (bl c) (bl d) := by
  simp [j4, bl_append, bl_dot, join4]
theorem size_dot : (⟨#[46]⟩ : ByteArray).size = 1 := rfl
theorem size_j4 (a b c d : ByteArray) : (j4 a b c d).size = a.size + b.size + c.size + d.size + 3 := by
  simp only [j4, ByteArray.size_append, size_dot]; omega

theorem join_any (a b c d : ByteArray) (w : World) (h : a.size + b.size + c.size + d.size ≤ 1000) :
    Calls Try.prog 22 #[.agg #[.string a, .string b, .string c, .string d]] w fun e w' => e = .returned (.string (j4 a b c d)) ∧ w' = w.alloc (.cells #[.string a, .string b, .string c, .string d] 30) := by
  go_enter Try.func22, Try.ntmps22
  go_wp2
  go_ret
  exact ⟨rfl, rfl⟩

theorem block_setCell {w : World} {b i : Nat} {c : Array Value} {u : Value} {t : TypeId} (h : w.heap[b]? = some (.cells c t (0, 0))) : (w.setCell ⟨b, i, none⟩ u).heap[b]? = some (.cells (c.setIfInBounds i u) t (0, 0)) := by
  have hlt := lt_of_block h
  have h' : w.heap[b] = .cells c t (0, 0) := by simpa [Array.getElem?_eq_getElem hlt] using h
  show (w.heap.modify b _)[b]? = _
  rw [Array.getElem?_eq_getElem (by simpa using hlt), Array.getElem_modify_self, h']
  rfl
theorem cell_block {w : World} {b i : Nat} {c : Array Value} {v : Value} {t : TypeId} (h : w.heap[b]? = some (.cells c t (0, 0))) (hi : c[i]? = some v) : w.cell? ⟨b, i, none⟩ = some v := by
  simp [World.cell?, h, hi]
theorem free_block {w : World} {b i : Nat} {c : Array Value} {t : TypeId} (h : w.heap[b]? = some (.cells c t (0, 0))) : w.frozen? ⟨b, i, none⟩ = false := by
  simp [World.frozen?, h]

theorem utoa_size {t : ByteArray} {n : Nat} (h : bl t = utoa n) : t.size ≤ 3 := by
  rw [← bl_length, h]
  unfold utoa
  split
  · simp
  · split <;> simp

theorem size48 : (⟨#[48]⟩ : ByteArray).size = 1 := rfl
theorem size4648 : (⟨#[46, 48]⟩ : ByteArray).size = 2 := rfl
theorem bl_48 (t : ByteArray) : bl (⟨#[48]⟩ ++ t) = 48 :: bl t := by rw [bl_append]; rfl
theorem bl_five (t : ByteArray) : bl (t ++ ⟨#[46, 48]⟩) = bl t ++ 46 :: [48] := by rw [bl_append]; rfl
theorem bl_three (a b c : ByteArray) : bl (a ++ ⟨#[46]⟩ ++ b ++ ⟨#[46]⟩ ++ c) = bl a ++ 46 :: (bl b ++ 46 :: bl c) := by
  simp [bl_append, bl_dot]
theorem bcell {W w1 : World} (hb : Below W.heap.size W w1) : (∀ b o, b < W.heap.size → w1.cell? ⟨b, o, none⟩ = W.cell? ⟨b, o, none⟩) ∧ (∀ b o, b < W.heap.size → w1.frozen? ⟨b, o, none⟩ = W.frozen? ⟨b, o, none⟩) :=
  ⟨fun b o h => hb.cell (p := ⟨b, o, none⟩) h, fun b o h => hb.frozen (p := ⟨b, o, none⟩) h⟩

theorem cell_arr {w : World} {b : Nat} {c : Array Value} {t : TypeId} (h : w.heap[b]? = some (.cells c t (0, 0))) (j : Nat) : w.cell? ⟨b, j, none⟩ = c[j]? := by
  simp [World.cell?, h]
theorem block_alloc {w : World} {b : Nat} {o x : Obj} (h : w.heap[b]? = some x) : (w.alloc o).heap[b]? = some x := by
  rw [Below.heap_alloc _ _ _ (lt_of_block h)]; exact h
theorem block_new (w : World) (c : Array Value) (t : TypeId) : (w.alloc (.cells c t)).heap[w.heap.size]? = some (.cells c t (0, 0)) := heap_alloc_new w _

/-- what the walk reads behind the last number's call: three blocks -/
theorem three_blocks {wr w5 : World} {c : Nat} {J : Obj} {cp cz cb : Array Value} (K : Nat) (v : Value) (hP : wr.heap[c]? = some (.cells cp 30 (0, 0)))
    (hb : Below (((wr.alloc J).alloc (.cells cz 30)).alloc (.cells cb 30)).heap.size (((wr.alloc J).alloc (.cells cz 30)).alloc (.cells cb 30)) w5) :
    (∀ j, w5.cell? ⟨c, j, none⟩ = cp[j]?) ∧ (∀ j, w5.cell? ⟨wr.heap.size + 1, j, none⟩ = cz[j]?) ∧ (∀ j, w5.cell? ⟨wr.heap.size + 1 + 1, j, none⟩ = cb[j]?) ∧ (∀ j, w5.frozen? ⟨wr.heap.size + 1 + 1, j, none⟩ = false) ∧
    (∀ j, (w5.setCell ⟨wr.heap.size + 1 + 1, K, none⟩ v).cell? ⟨wr.heap.size + 1, j, none⟩ = cz[j]?) ∧
    (∀ o1 j, ((w5.setCell ⟨wr.heap.size + 1 + 1, K, none⟩ v).alloc o1).cell? ⟨wr.heap.size + 1 + 1, j, none⟩ = (cb.setIfInBounds K v)[j]?) ∧
    (∀ o1 o2 j, (((w5.setCell ⟨wr.heap.size + 1 + 1, K, none⟩ v).alloc o1).alloc o2).cell? ⟨c, j, none⟩ = cp[j]?) ∧ wr.heap.size + 1 + 1 < w5.heap.size := by
  have hc : c < wr.heap.size := lt_of_block hP
  have P0 : (((wr.alloc J).alloc (.cells cz 30)).alloc (.cells cb 30)).heap[c]? = some (.cells cp 30 (0, 0)) := block_alloc (block_alloc (block_alloc hP))
  have Z0 : (((wr.alloc J).alloc (.cells cz 30)).alloc (.cells cb 30)).heap[wr.heap.size + 1]? = some (.cells cz 30 (0, 0)) := by
    have := block_new (wr.alloc J) cz 30
    rw [World.size_alloc] at this
    exact block_alloc this
  have B0 : (((wr.alloc J).alloc (.cells cz 30)).alloc (.cells cb 30)).heap[wr.heap.size + 1 + 1]? = some (.cells cb 30 (0, 0)) := by
    have := block_new ((wr.alloc J).alloc (.cells cz 30)) cb 30
    rw [World.size_alloc, World.size_alloc] at this
    exact this
  have P5 := (hb.block _ (lt_of_block P0)).trans P0
  have Z5 := (hb.block _ (lt_of_block Z0)).trans Z0
  have B5 := (hb.block _ (lt_of_block B0)).trans B0
  have B6 := block_setCell (i := K) (u := v) B5
  have Z6 : (w5.setCell ⟨wr.heap.size + 1 + 1, K, none⟩ v).heap[wr.heap.size + 1]? = some (.cells cz 30 (0, 0)) := (Below.heap_setCell _ _ _ _ (by simp)).trans Z5
  have P6 : (w5.setCell ⟨wr.heap.size + 1 + 1, K, none⟩ v).heap[c]? = some (.cells cp 30 (0, 0)) := (Below.heap_setCell _ _ _ _ (by simp; omega)).trans P5
  exact ⟨cell_arr P5, cell_arr Z5, cell_arr B5, fun j => free_block B5, cell_arr Z6, fun o1 => cell_arr (block_alloc B6), fun o1 o2 => cell_arr (block_alloc (block_alloc P6)), lt_of_block B5⟩

theorem quad_fin {w wr w5 : World} {J Z Bg : Obj} (hbw : Below w.heap.size w wr) (hb5 : Below (((wr.alloc J).alloc Z).alloc Bg).heap.size (((wr.alloc J).alloc Z).alloc Bg) w5) (K : Nat) (v : Value) (o1 o2 : Obj) :
    Below w.heap.size w (((w5.setCell ⟨wr.heap.size + 1 + 1, K, none⟩ v).alloc o1).alloc o2) := by
  have hs := hbw.size
  have hX : Below w.heap.size w (((wr.alloc J).alloc Z).alloc Bg) := ((hbw.alloc hs _).alloc (by simp; omega) _).alloc (by simp; omega) _
  have h5 := hX.trans (hb5.mono hX.size)
  have h6 := h5.setCell (p := ⟨wr.heap.size + 1 + 1, K, none⟩) (by dsimp only; omega) v
  have h7 := h6.alloc h6.size o1
  exact h7.alloc h7.size o2

/-- the law's two boxes: the bytes, the texts -/
def Boxes (B : Nat) (q0 q1 q2 q3 : Int) (t0 t1 t2 t3 : ByteArray) (W : World) : Prop :=
  W.heap[B]? = some (.cells #[.int .u8 q0, .int .u8 q1, .int .u8 q2, .int .u8 q3] 29 (0, 0)) ∧ W.heap[B + 1]? = some (.cells #[.string t0, .string t1, .string t2, .string t3] 30 (0, 0))

theorem boxes_below {B : Nat} {q0 q1 q2 q3 : Int} {t0 t1 t2 t3 : ByteArray} {W W' : World} (h : Boxes B q0 q1 q2 q3 t0 t1 t2 t3 W) (hb : Below W.heap.size W W') : Boxes B q0 q1 q2 q3 t0 t1 t2 t3 W' :=
  ⟨(hb.block _ (lt_of_block h.1)).trans h.1, (hb.block _ (lt_of_block h.2)).trans h.2⟩

set_option maxRecDepth 100000 in
set_option maxHeartbeats 3200000 in
theorem quad_walk (n0 n1 n2 n3 : Nat) (k : Int) (h0 : n0 < 256) (h1 : n1 < 256) (h2 : n2 < 256) (h3 : n3 < 256) (hk0 : 0 ≤ k) (hk3 : k ≤ 3) (w : World) :
    Calls Try.prog 8 #[.agg #[.int .u8 n0, .int .u8 n1, .int .u8 n2, .int .u8 n3], .int .i64 k] w fun e w' => e = .returned (.bool true) ∧ Below w.heap.size w w' := by
  go_enter Try.func8, Try.ntmps8
  go_wp2_with fail
  go_loopg [6] 4 (fun g s6 wx => ∃ (m : Nat) (t0 t1 t2 t3 : ByteArray), m ≤ 4 ∧ g = 4 - m ∧ s6 = .int .i64 m ∧ Boxes w.heap.size n0 n1 n2 n3 t0 t1 t2 t3 wx ∧ Below w.heap.size w wx ∧ (0 < m → bl t0 = utoa n0) ∧ (1 < m → bl t1 = utoa n1) ∧ (2 < m → bl t2 = utoa n2) ∧ (3 < m → bl t3 = utoa n3))
  case atStart =>
    refine ⟨0, ⟨#[]⟩, ⟨#[]⟩, ⟨#[]⟩, ⟨#[]⟩, by omega, rfl, rfl, ⟨?_, ?_⟩, ((Below.refl _ _).alloc (Nat.le_refl _) _).alloc (by simp) _, by omega, by omega, by omega, by omega⟩
    · rw [Below.heap_alloc _ _ _ (by simp)]; exact heap_alloc_new w _
    · have e : w.heap.size + 1 = (w.alloc (.cells #[.int .u8 n0, .int .u8 n1, .int .u8 n2, .int .u8 n3] 29)).heap.size := by simp
      rw [e]; exact heap_alloc_new _ _
  case round =>
    obtain ⟨m, t0, t1, t2, t3, hm, rfl, rfl, hbx, hbw, g0, g1, g2, g3⟩ := hrel
    by_cases hm4 : m < 4
    · have hw1 : w.heap.size < wr.heap.size := by have := lt_of_block hbx.1; exact this
      rcases (show m = 0 ∨ m = 1 ∨ m = 2 ∨ m = 3 by omega) with rfl | rfl | rfl | rfl
      · have c0 : wr.cell? ⟨w.heap.size, 0, none⟩ = some (.int .u8 n0) := cell_block hbx.1 rfl
        go_wp2_with (go_at_call 21; refine (utoa_any _ n0 rfl (by omega) _).mono ?_; rintro e w1 ⟨t, rfl, ht, hb1⟩; have hbx1 := boxes_below hbx hb1; have d0 : w1.cell? ⟨w.heap.size + 1, 0, none⟩ = some (.string t0) := cell_block hbx1.2 rfl; have f0 : w1.frozen? ⟨w.heap.size + 1, 0, none⟩ = false := free_block hbx1.2)
        go_roundg 3
        case measure => omega
        case rel => exact ⟨1, t, t1, t2, t3, by omega, rfl, rfl, ⟨(Below.heap_setCell _ _ _ _ (by simp)).trans hbx1.1, block_setCell hbx1.2⟩, (hbw.trans (hb1.mono hbw.size)).setCell (by simp) _, fun _ => ht, by omega, by omega, by omega⟩
      · have c0 : wr.cell? ⟨w.heap.size, 1, none⟩ = some (.int .u8 n1) := cell_block hbx.1 rfl
        go_wp2_with (go_at_call 21; refine (utoa_any _ n1 rfl (by omega) _).mono ?_; rintro e w1 ⟨t, rfl, ht, hb1⟩; have hbx1 := boxes_below hbx hb1; have d0 : w1.cell? ⟨w.heap.size + 1, 1, none⟩ = some (.string t1) := cell_block hbx1.2 rfl; have f0 : w1.frozen? ⟨w.heap.size + 1, 1, none⟩ = false := free_block hbx1.2)
        go_roundg 2
        case measure => omega
        case rel => exact ⟨2, t0, t, t2, t3, by omega, rfl, rfl, ⟨(Below.heap_setCell _ _ _ _ (by simp)).trans hbx1.1, block_setCell hbx1.2⟩, (hbw.trans (hb1.mono hbw.size)).setCell (by simp) _, fun _ => g0 (by omega), fun _ => ht, by omega, by omega⟩
      · have c0 : wr.cell? ⟨w.heap.size, 2, none⟩ = some (.int .u8 n2) := cell_block hbx.1 rfl
        go_wp2_with (go_at_call 21; refine (utoa_any _ n2 rfl (by omega) _).mono ?_; rintro e w1 ⟨t, rfl, ht, hb1⟩; have hbx1 := boxes_below hbx hb1; have d0 : w1.cell? ⟨w.heap.size + 1, 2, none⟩ = some (.string t2) := cell_block hbx1.2 rfl; have f0 : w1.frozen? ⟨w.heap.size + 1, 2, none⟩ = false := free_block hbx1.2)
        go_roundg 1
        case measure => omega
        case rel => exact ⟨3, t0, t1, t, t3, by omega, rfl, rfl, ⟨(Below.heap_setCell _ _ _ _ (by simp)).trans hbx1.1, block_setCell hbx1.2⟩, (hbw.trans (hb1.mono hbw.size)).setCell (by simp) _, fun _ => g0 (by omega), fun _ => g1 (by omega), fun _ => ht, by omega⟩
      · have c0 : wr.cell? ⟨w.heap.size, 3, none⟩ = some (.int .u8 n3) := cell_block hbx.1 rfl
        go_wp2_with (go_at_call 21; refine (utoa_any _ n3 rfl (by omega) _).mono ?_; rintro e w1 ⟨t, rfl, ht, hb1⟩; have hbx1 := boxes_below hbx hb1; have d0 : w1.cell? ⟨w.heap.size + 1, 3, none⟩ = some (.string t3) := cell_block hbx1.2 rfl; have f0 : w1.frozen? ⟨w.heap.size + 1, 3, none⟩ = false := free_block hbx1.2)
        go_roundg 0
        case measure => omega
        case rel => exact ⟨4, t0, t1, t2, t, by omega, rfl, rfl, ⟨(Below.heap_setCell _ _ _ _ (by simp)).trans hbx1.1, block_setCell hbx1.2⟩, (hbw.trans (hb1.mono hbw.size)).setCell (by simp) _, fun _ => g0 (by omega), fun _ => g1 (by omega), fun _ => g2 (by omega), fun _ => ht⟩
    · have hw1 : w.heap.size + 1 < wr.heap.size := lt_of_block hbx.2
      have hw0 : w.heap.size < wr.heap.size := by omega
      have e0 := g0 (by omega)
      have e1 := g1 (by omega)
      have e2 := g2 (by omega)
      have e3 := g3 (by omega)
      have s0 := utoa_size e0
      have s1 := utoa_size e1
      have s2 := utoa_size e2
      have s3 := utoa_size e3
      have c0 : wr.cell? ⟨w.heap.size, 0, none⟩ = some (.int .u8 n0) := cell_block hbx.1 rfl
      have c1 : wr.cell? ⟨w.heap.size, 1, none⟩ = some (.int .u8 n1) := cell_block hbx.1 rfl
      have c2 : wr.cell? ⟨w.heap.size, 2, none⟩ = some (.int .u8 n2) := cell_block hbx.1 rfl
      have c3 : wr.cell? ⟨w.heap.size, 3, none⟩ = some (.int .u8 n3) := cell_block hbx.1 rfl
      have d0 : wr.cell? ⟨w.heap.size + 1, 0, none⟩ = some (.string t0) := cell_block hbx.2 rfl
      have d1 : wr.cell? ⟨w.heap.size + 1, 1, none⟩ = some (.string t1) := cell_block hbx.2 rfl
      have d2 : wr.cell? ⟨w.heap.size + 1, 2, none⟩ = some (.string t2) := cell_block hbx.2 rfl
      have d3 : wr.cell? ⟨w.heap.size + 1, 3, none⟩ = some (.string t3) := cell_block hbx.2 rfl
      have hd1 : dotted (bl (j4 t0 t1 t2 t3)) = true := by rw [bl_j4, e0, e1, e2, e3]; exact quad_ok (ok_utoa h0) (ok_utoa h1) (ok_utoa h2) (ok_utoa h3)
      have hd4 : dotted (bl (j4 t0 t1 t2 t3 ++ ⟨#[46, 48]⟩)) = false := by rw [bl_five, bl_j4, e0, e1, e2, e3]; exact quad_five (ok_utoa h0) (ok_utoa h1) (ok_utoa h2) (ok_utoa h3) _
      have hd5 : dotted (bl (t0 ++ ⟨#[46]⟩ ++ t1 ++ ⟨#[46]⟩ ++ t2)) = false := by rw [bl_three, e0, e1, e2]; exact quad_three (ok_utoa h0) (ok_utoa h1) (ok_utoa h2)
      have hsj : (j4 t0 t1 t2 t3).size ≤ 15 := by rw [size_j4]; omega
      have HP : Hid (wr.heap[w.heap.size + 1]? = some (.cells #[.string t0, .string t1, .string t2, .string t3] 30 (0, 0))) := hbx.2
      rcases (show k = 0 ∨ k = 1 ∨ k = 2 ∨ k = 3 by omega) with rfl | rfl | rfl | rfl
      · have hd2 : dotted (bl (j4 (⟨#[48]⟩ ++ t0) t1 t2 t3)) = false := by rw [bl_j4, bl_48, e0, e1, e2, e3]; exact quad_bad0  (bad_zero (by omega))
        have HU : Hid (∀ u, bl u = utoa (n0 + 256) → dotted (bl (j4 u t1 t2 t3)) = false) := by intro u hu; rw [bl_j4, hu, e1, e2, e3]; exact quad_bad0  (bad_big (by omega) (by omega))
        have ca : ∀ o1 o2 o3, (((wr.alloc o1).alloc o2).alloc o3).cell? ⟨w.heap.size, 0, none⟩ = some (.int .u8 n0) := fun o1 o2 o3 => cell_block (block_alloc (block_alloc (block_alloc hbx.1))) rfl
        clear e0 e1 e2 e3 g0 g1 g2 g3 hbx
        go_wp2_with (first | (go_at_call 22; refine (join_any _ _ _ _ _ (by (try simp only [ByteArray.size_append, size48]); omega)).mono ?_; rintro e w' ⟨rfl, rfl⟩) | (go_at_call 21; refine (utoa_any _ (n0 + 256) (by omega) (by omega) _).mono ?_; rintro e w5 ⟨u, rfl, hu, hb5⟩; obtain ⟨r1, r2, r3, r4, r5, r6, r7, r8⟩ := three_blocks 0 (.string u) HP.out hb5; have hd3 := HU.out u hu; have hsu := utoa_size hu; clear hu) | (go_at_call 18; refine (zzdotted_any _ _ (by unfold maxLen; (try simp only [ByteArray.size_append, size_j4, size48, size4648, size_dot]); omega)).mono ?_; rintro e w' ⟨rfl, rfl⟩))
        go_ret
        exact ⟨rfl, quad_fin hbw hb5 _ _ _ _⟩
      · have hd2 : dotted (bl (j4 t0 (⟨#[48]⟩ ++ t1) t2 t3)) = false := by rw [bl_j4, bl_48, e0, e1, e2, e3]; exact quad_bad1 (ok_utoa h0) (bad_zero (by omega))
        have HU : Hid (∀ u, bl u = utoa (n1 + 256) → dotted (bl (j4 t0 u t2 t3)) = false) := by intro u hu; rw [bl_j4, e0, hu, e2, e3]; exact quad_bad1 (ok_utoa h0) (bad_big (by omega) (by omega))
        have ca : ∀ o1 o2 o3, (((wr.alloc o1).alloc o2).alloc o3).cell? ⟨w.heap.size, 1, none⟩ = some (.int .u8 n1) := fun o1 o2 o3 => cell_block (block_alloc (block_alloc (block_alloc hbx.1))) rfl
        clear e0 e1 e2 e3 g0 g1 g2 g3 hbx
        go_wp2_with (first | (go_at_call 22; refine (join_any _ _ _ _ _ (by (try simp only [ByteArray.size_append, size48]); omega)).mono ?_; rintro e w' ⟨rfl, rfl⟩) | (go_at_call 21; refine (utoa_any _ (n1 + 256) (by omega) (by omega) _).mono ?_; rintro e w5 ⟨u, rfl, hu, hb5⟩; obtain ⟨r1, r2, r3, r4, r5, r6, r7, r8⟩ := three_blocks 1 (.string u) HP.out hb5; have hd3 := HU.out u hu; have hsu := utoa_size hu; clear hu) | (go_at_call 18; refine (zzdotted_any _ _ (by unfold maxLen; (try simp only [ByteArray.size_append, size_j4, size48, size4648, size_dot]); omega)).mono ?_; rintro e w' ⟨rfl, rfl⟩))
        go_ret
        exact ⟨rfl, quad_fin hbw hb5 _ _ _ _⟩
      · have hd2 : dotted (bl (j4 t0 t1 (⟨#[48]⟩ ++ t2) t3)) = false := by rw [bl_j4, bl_48, e0, e1, e2, e3]; exact quad_bad2 (ok_utoa h0) (ok_utoa h1) (bad_zero (by omega))
        have HU : Hid (∀ u, bl u = utoa (n2 + 256) → dotted (bl (j4 t0 t1 u t3)) = false) := by intro u hu; rw [bl_j4, e0, e1, hu, e3]; exact quad_bad2 (ok_utoa h0) (ok_utoa h1) (bad_big (by omega) (by omega))
        have ca : ∀ o1 o2 o3, (((wr.alloc o1).alloc o2).alloc o3).cell? ⟨w.heap.size, 2, none⟩ = some (.int .u8 n2) := fun o1 o2 o3 => cell_block (block_alloc (block_alloc (block_alloc hbx.1))) rfl
        clear e0 e1 e2 e3 g0 g1 g2 g3 hbx
        go_wp2_with (first | (go_at_call 22; refine (join_any _ _ _ _ _ (by (try simp only [ByteArray.size_append, size48]); omega)).mono ?_; rintro e w' ⟨rfl, rfl⟩) | (go_at_call 21; refine (utoa_any _ (n2 + 256) (by omega) (by omega) _).mono ?_; rintro e w5 ⟨u, rfl, hu, hb5⟩; obtain ⟨r1, r2, r3, r4, r5, r6, r7, r8⟩ := three_blocks 2 (.string u) HP.out hb5; have hd3 := HU.out u hu; have hsu := utoa_size hu; clear hu) | (go_at_call 18; refine (zzdotted_any _ _ (by unfold maxLen; (try simp only [ByteArray.size_append, size_j4, size48, size4648, size_dot]); omega)).mono ?_; rintro e w' ⟨rfl, rfl⟩))
        go_ret
        exact ⟨rfl, quad_fin hbw hb5 _ _ _ _⟩
      · have hd2 : dotted (bl (j4 t0 t1 t2 (⟨#[48]⟩ ++ t3))) = false := by rw [bl_j4, bl_48, e0, e1, e2, e3]; exact quad_bad3 (ok_utoa h0) (ok_utoa h1) (ok_utoa h2) (bad_zero (by omega))
        have HU : Hid (∀ u, bl u = utoa (n3 + 256) → dotted (bl (j4 t0 t1 t2 u)) = false) := by intro u hu; rw [bl_j4, e0, e1, e2, hu]; exact quad_bad3 (ok_utoa h0) (ok_utoa h1) (ok_utoa h2) (bad_big (by omega) (by omega))
        have ca : ∀ o1 o2 o3, (((wr.alloc o1).alloc o2).alloc o3).cell? ⟨w.heap.size, 3, none⟩ = some (.int .u8 n3) := fun o1 o2 o3 => cell_block (block_alloc (block_alloc (block_alloc hbx.1))) rfl
        clear e0 e1 e2 e3 g0 g1 g2 g3 hbx
        go_wp2_with (first | (go_at_call 22; refine (join_any _ _ _ _ _ (by (try simp only [ByteArray.size_append, size48]); omega)).mono ?_; rintro e w' ⟨rfl, rfl⟩) | (go_at_call 21; refine (utoa_any _ (n3 + 256) (by omega) (by omega) _).mono ?_; rintro e w5 ⟨u, rfl, hu, hb5⟩; obtain ⟨r1, r2, r3, r4, r5, r6, r7, r8⟩ := three_blocks 3 (.string u) HP.out hb5; have hd3 := HU.out u hu; have hsu := utoa_size hu; clear hu) | (go_at_call 18; refine (zzdotted_any _ _ (by unfold maxLen; (try simp only [ByteArray.size_append, size_j4, size48, size4648, size_dot]); omega)).mono ?_; rintro e w' ⟨rfl, rfl⟩))
        go_ret
        exact ⟨rfl, quad_fin hbw hb5 _ _ _ _⟩

theorem quad_out (q0 q1 q2 q3 k : Int) (hk : k < 0 ∨ 3 < k) (w : World) :
    Calls Try.prog 8 #[.agg #[.int .u8 q0, .int .u8 q1, .int .u8 q2, .int .u8 q3], .int .i64 k] w fun e w' => e = .returned (.bool true) ∧ Below w.heap.size w w' := by
  by_cases h : k < 0
  · go_enter Try.func8, Try.ntmps8
    go_wp2
    go_ret
    exact ⟨rfl, (Below.refl _ _).alloc (Nat.le_refl _) _⟩
  · have h' : 3 < k := by omega
    clear hk
    go_enter Try.func8, Try.ntmps8
    go_wp2
    go_ret
    exact ⟨rfl, (Below.refl _ _).alloc (Nat.le_refl _) _⟩

/-- 'FnIsDottedIPv4AcceptsEveryQuadAndRefusesItsNeighbours' -/
theorem quad_any (q0 q1 q2 q3 k : Int) (h0 : 0 ≤ q0 ∧ q0 ≤ 255) (h1 : 0 ≤ q1 ∧ q1 ≤ 255) (h2 : 0 ≤ q2 ∧ q2 ≤ 255) (h3 : 0 ≤ q3 ∧ q3 ≤ 255) (w : World) :
    Calls Try.prog 8 #[.agg #[.int .u8 q0, .int .u8 q1, .int .u8 q2, .int .u8 q3], .int .i64 k] w fun e w' => e = .returned (.bool true) ∧ Below w.heap.size w w' := by
  by_cases hk : k < 0 ∨ 3 < k
  · exact quad_out q0 q1 q2 q3 k hk w
  · obtain ⟨n0, rfl⟩ : ∃ n : Nat, q0 = n := ⟨q0.toNat, by omega⟩
    obtain ⟨n1, rfl⟩ : ∃ n : Nat, q1 = n := ⟨q1.toNat, by omega⟩
    obtain ⟨n2, rfl⟩ : ∃ n : Nat, q2 = n := ⟨q2.toNat, by omega⟩
    obtain ⟨n3, rfl⟩ : ∃ n : Nat, q3 = n := ⟨q3.toNat, by omega⟩
    exact quad_walk n0 n1 n2 n3 k (by omega) (by omega) (by omega) (by omega) (by omega) (by omega) w
end Go.Proofs.Qxb6602093a
