/-
  WALKS OF THE SEAT b6602093a: 'FnIsIPv6AddressAcceptsEveryRenderedAddress'.
-/
import Derived.Test.Qxb6602093aHex
namespace Go.Proofs.Qxb6602093a
open Go.RowKit Plain

def upd (H : Nat → List Int) (k : Nat) (h : List Int) : Nat → List Int := fun j => if j = k then h else H j
theorem upd_at (H : Nat → List Int) (k : Nat) (h : List Int) : upd H k h k = h := by simp [upd]
theorem upd_other (H : Nat → List Int) {k j : Nat} (h : List Int) (hj : j ≠ k) : upd H k h j = H j := by simp [upd, hj]
theorem rend_upd (a b : Nat) (H : Nat → List Int) (k : Nat) (h : List Int) : rend a b (upd H k h) k = rend a b H k := rend_congr (fun j hj => upd_other H h (by omega))
theorem rend_out {a b k : Nat} {H : Nat → List Int} {l : List Int} {am : Bool} (h : List Int) (e : rend a b H k = (l, am)) (hz : ¬ (0 < b ∧ a ≤ k ∧ k < a + b)) :
    rend a b (upd H k h) (k + 1) = ((if am = true then l else l ++ [58]) ++ h, false) := by
  rw [rend, rend_upd, e, rstep, if_neg hz, upd_at]
theorem rend_in0 {b k : Nat} {H : Nat → List Int} {l : List Int} {am : Bool} (e : rend k b H k = (l, am)) (hz : 0 < b) : rend k b H (k + 1) = (l ++ [58, 58], true) := by
  rw [rend, e, rstep, if_pos ⟨hz, by omega, by omega⟩, if_pos rfl]
theorem rend_in1 {a b k : Nat} {H : Nat → List Int} {l : List Int} {am : Bool} (e : rend a b H k = (l, am)) (hz : 0 < b ∧ a ≤ k ∧ k < a + b) (hk : k ≠ a) : rend a b H (k + 1) = (l, am) := by
  rw [rend, e, rstep, if_pos hz, if_neg hk]
theorem bl_cc (s : ByteArray) : bl (s ++ ⟨#[58, 58]⟩) = bl s ++ [58, 58] := by rw [bl_append]; rfl
theorem bl_c (s : ByteArray) : bl (s ++ ⟨#[58]⟩) = bl s ++ [58] := by rw [bl_append]; rfl
theorem bl_c0 (s : ByteArray) : bl (s ++ ⟨#[58, 48]⟩) = bl s ++ [58, 48] := by rw [bl_append]; rfl
theorem size_c : (⟨#[58]⟩ : ByteArray).size = 1 := rfl
theorem size_cc : (⟨#[58, 58]⟩ : ByteArray).size = 2 := rfl
theorem size_c0 : (⟨#[58, 48]⟩ : ByteArray).size = 2 := rfl

/-- the eight groups in their box -/
def Box8 (B : Nat) (g0 g1 g2 g3 g4 g5 g6 g7 : Int) (W : World) : Prop :=
  W.heap[B]? = some (.cells #[.int .u16 g0, .int .u16 g1, .int .u16 g2, .int .u16 g3, .int .u16 g4, .int .u16 g5, .int .u16 g6, .int .u16 g7] 24 (0, 0))
/-- they fit their kind -/
def Fit8 (g0 g1 g2 g3 g4 g5 g6 g7 : Int) : Prop :=
  (0 ≤ g0 ∧ g0 < 65536) ∧ (0 ≤ g1 ∧ g1 < 65536) ∧ (0 ≤ g2 ∧ g2 < 65536) ∧ (0 ≤ g3 ∧ g3 < 65536) ∧ (0 ≤ g4 ∧ g4 < 65536) ∧ (0 ≤ g5 ∧ g5 < 65536) ∧ (0 ≤ g6 ∧ g6 < 65536) ∧ (0 ≤ g7 ∧ g7 < 65536)
theorem box8_at {B : Nat} {g0 g1 g2 g3 g4 g5 g6 g7 : Int} {W : World} (h : Box8 B g0 g1 g2 g3 g4 g5 g6 g7 W) (f : Fit8 g0 g1 g2 g3 g4 g5 g6 g7) {k : Nat} (hk : k < 8) :
    ∃ v : Int, 0 ≤ v ∧ v < 65536 ∧ W.cell? ⟨B, k, none⟩ = some (.int .u16 v) := by
  obtain ⟨f0, f1, f2, f3, f4, f5, f6, f7⟩ := f
  match k, hk with
  | 0, _ => exact ⟨g0, f0.1, f0.2, cell_block h rfl⟩
  | 1, _ => exact ⟨g1, f1.1, f1.2, cell_block h rfl⟩
  | 2, _ => exact ⟨g2, f2.1, f2.2, cell_block h rfl⟩
  | 3, _ => exact ⟨g3, f3.1, f3.2, cell_block h rfl⟩
  | 4, _ => exact ⟨g4, f4.1, f4.2, cell_block h rfl⟩
  | 5, _ => exact ⟨g5, f5.1, f5.2, cell_block h rfl⟩
  | 6, _ => exact ⟨g6, f6.1, f6.2, cell_block h rfl⟩
  | 7, _ => exact ⟨g7, f7.1, f7.2, cell_block h rfl⟩
theorem box8_below {B : Nat} {g0 g1 g2 g3 g4 g5 g6 g7 : Int} {W W' : World} (h : Box8 B g0 g1 g2 g3 g4 g5 g6 g7 W) (hb : Below W.heap.size W W') : Box8 B g0 g1 g2 g3 g4 g5 g6 g7 W' :=
  (hb.block _ (lt_of_block h)).trans h

set_option maxRecDepth 100000 in
set_option maxHeartbeats 6400000 in
theorem render_walk (g0 g1 g2 g3 g4 g5 g6 g7 : Int) (hg : Fit8 g0 g1 g2 g3 g4 g5 g6 g7) (a b : Nat) (ha : a + b ≤ 8) (v4 up pad : Bool) (w : World) :
    Calls Try.prog 4 #[.agg #[.int .u16 g0, .int .u16 g1, .int .u16 g2, .int .u16 g3, .int .u16 g4, .int .u16 g5, .int .u16 g6, .int .u16 g7], .int .i64 a, .int .i64 b, .bool v4, .bool up, .bool pad] w
      fun e w' => e = .returned (.bool true) ∧ Below w.heap.size w w' := by
  obtain ⟨T, hT⟩ : ∃ T : Bool, T = (v4 && !(decide (0 < b) && decide (6 < a + b))) := ⟨_, rfl⟩
  have HT : Hid (T = (v4 && !(decide (0 < b) && decide (6 < a + b)))) := hT
  have HG : Hid (Fit8 g0 g1 g2 g3 g4 g5 g6 g7) := hg
  clear hT hg
  have hb8 : b ≤ 8 := by omega
  have ha8 : a ≤ 8 := by omega
  go_enter Try.func4, Try.ntmps4
  go_upto_region 3 with fail
  go_cut [13] (fun t wc => w.alloc (.cells #[.int .u16 g0, .int .u16 g1, .int .u16 g2, .int .u16 g3, .int .u16 g4, .int .u16 g5, .int .u16 g6, .int .u16 g7] 24) = wc ∧ t = .bool T)
  case first =>
    clear HG
    cases v4
    · have HX : Hid (T = false) := by show _ = _; rw [HT.out]; rfl
      go_wp2
      go_meet
      case rel => exact ⟨rfl, by rw [HX.out]⟩
    · by_cases hb : 0 < b
      · have hbz : (0 : Int) < (b : Int) := by omega
        by_cases h6 : 6 < a + b
        · have h6z : (6 : Int) < (a : Int) + (b : Int) := by omega
          have HX : Hid (T = false) := by show _ = _; rw [HT.out]; simp [hb, h6]
          go_wp2
          go_meet
          case rel => exact ⟨rfl, by rw [HX.out]⟩
        · have h6z : ¬ (6 : Int) < (a : Int) + (b : Int) := by omega
          have HX : Hid (T = true) := by show _ = _; rw [HT.out]; simp [h6]
          go_wp2
          go_meet
          case rel => exact ⟨rfl, by rw [HX.out]⟩
      · have hbz : ¬ (0 : Int) < (b : Int) := by omega
        have HX : Hid (T = true) := by show _ = _; rw [HT.out]; simp [hb]
        go_wp2
        go_meet
        case rel => exact ⟨rfl, by rw [HX.out]⟩
  case rest =>
    obtain ⟨rfl, rfl⟩ := hcut
    go_wp2_with fail
    go_loopg [14, 15, 16] 8 (fun g s14 s15 s16 wx => ∃ (k : Nat) (sb : ByteArray) (H : Nat → List Int) (am : Bool), k ≤ 8 ∧ g = 8 - k ∧ s14 = .string sb ∧ s15 = .bool am ∧ s16 = .int .i64 k ∧ rend a b H k = (bl sb, am) ∧ sb.size ≤ 16 * k ∧ (∀ j, j < k → a ≤ j ∧ j < a + b ∨ Hx (H j)) ∧ (T = true → k ≤ 6) ∧ Box8 w.heap.size g0 g1 g2 g3 g4 g5 g6 g7 wx ∧ Below w.heap.size w wx)
    case atStart => exact ⟨0, ⟨#[]⟩, fun _ => [], true, by omega, rfl, rfl, rfl, rfl, rfl, Nat.le_refl _, by omega, by omega, heap_alloc_new w _, (Below.refl _ _).alloc (Nat.le_refl _) _⟩
    case round =>
      obtain ⟨k, sb, H, am, hk, rfl, rfl, rfl, rfl, hre, hsz, hH, hTk, hbx, hbw⟩ := hrel
      have HRE : Hid (rend a b H k = (bl sb, am)) := hre
      have HH : Hid (∀ j, j < k → a ≤ j ∧ j < a + b ∨ Hx (H j)) := hH
      have HTK : Hid (T = true → k ≤ 6) := hTk
      clear hre hH hTk
      by_cases hk8 : k < 8
      · by_cases hz : 0 < b ∧ a ≤ k ∧ k < a + b
        · have hz1 : (0 : Int) < (b : Int) := by omega
          have hz2 : (a : Int) ≤ (k : Int) := by omega
          have hz3 : (k : Int) < (a : Int) + (b : Int) := by omega
          have hT6 : Hid (T = true → k + 1 ≤ 6) := by
            intro ht
            have h1 := HT.out
            rw [ht] at h1
            have : decide (0 < b) = true := by simp; omega
            rw [this] at h1
            by_cases h6 : 6 < a + b
            · simp [h6] at h1
            · omega
          by_cases hka : k = a
          · subst hka
            have HX : Hid (rend k b H (k + 1) = (bl (sb ++ ⟨#[58, 58]⟩), true)) := by show _ = _; rw [rend_in0 HRE.out hz.1, bl_cc]
            go_wp2
            go_roundg (8 - (k + 1))
            case measure => omega
            case rel => exact ⟨k + 1, sb ++ ⟨#[58, 58]⟩, H, true, by omega, rfl, rfl, rfl, by go_num, HX.out, by rw [ByteArray.size_append, size_cc]; omega, fun j hj => (if h : j < k then HH.out j h else .inl ⟨by omega, by omega⟩), hT6.out, hbx, hbw⟩
          · have hkaz : ((k : Int) == (a : Int)) = false := by simp; omega
            have HX : Hid (rend a b H (k + 1) = (bl sb, am)) := rend_in1 HRE.out hz hka
            go_wp2
            go_roundg (8 - (k + 1))
            case measure => omega
            case rel => exact ⟨k + 1, sb, H, am, by omega, rfl, rfl, rfl, by go_num, HX.out, by omega, fun j hj => (if h : j < k then HH.out j h else .inl ⟨by omega, by omega⟩), hT6.out, hbx, hbw⟩
        · go_upto_region 9 with fail
          go_cut [67] (fun t wc => wr = wc ∧ t = .bool false)
          case first =>
            by_cases hb0 : 0 < b
            · have hz1 : (0 : Int) < (b : Int) := by omega
              by_cases hka : a ≤ k
              · have hz2 : (a : Int) ≤ (k : Int) := by omega
                have hz3 : ¬ (k : Int) < (a : Int) + (b : Int) := by omega
                go_wp2
                go_meet
                case rel => exact ⟨rfl, rfl⟩
              · have hz2 : ¬ (a : Int) ≤ (k : Int) := by omega
                go_wp2
                go_meet
                case rel => exact ⟨rfl, rfl⟩
            · have hz1 : ¬ (0 : Int) < (b : Int) := by omega
              go_wp2
              go_meet
              case rel => exact ⟨rfl, rfl⟩
          case rest =>
            obtain ⟨rfl, rfl⟩ := hcut
            go_upto_if 74 with fail
            go_cut [14] (fun t wc => wr = wc ∧ ∃ sc : ByteArray, t = .string sc ∧ bl sc = (if am = true then bl sb else bl sb ++ [58]) ∧ sc.size ≤ sb.size + 1)
            case first =>
              cases am
              · have HX : Hid (bl (sb ++ ⟨#[58]⟩) = (if false = true then bl sb else bl sb ++ [58])) := by show _ = _; rw [bl_c]; rfl
                have hsx : (sb ++ ⟨#[58]⟩ : ByteArray).size ≤ sb.size + 1 := by rw [ByteArray.size_append, size_c]; omega
                have HSX : Hid ((sb ++ ⟨#[58]⟩ : ByteArray).size ≤ sb.size + 1) := hsx
                clear hsx
                go_wp2
                go_meet
                case rel => exact ⟨rfl, _, rfl, HX.out, HSX.out⟩
              · go_wp2
                go_meet
                case rel => exact ⟨rfl, sb, rfl, rfl, by omega⟩
            case rest =>
              obtain ⟨rfl, sc, rfl, hsc, hscs⟩ := hcut
              have HSC : Hid (bl sc = (if am = true then bl sb else bl sb ++ [58])) := hsc
              have HZ : Hid (¬ (0 < b ∧ a ≤ k ∧ k < a + b)) := hz
              clear hsc hz
              by_cases hT6 : T = true ∧ k = 6
              · obtain ⟨rfl, rfl⟩ := hT6
                have hza : b = 0 ∨ a + b ≤ 6 := by
                  have h1 := HT.out
                  by_cases hb0 : 0 < b
                  · by_cases h6 : 6 < a + b
                    · simp [hb0, h6] at h1
                    · right; omega
                  · left; omega
                have FIN : Hid (∀ (t : ByteArray) (qa qb qc qd : Nat), bl t = join4 (utoa qa) (utoa qb) (utoa qc) (utoa qd) → qa < 256 → qb < 256 → qc < 256 → qd < 256 →
                    six (bl (sc ++ t)) = true ∧ six (bl (sc ++ t ++ ⟨#[58, 48]⟩)) = false) := by
                  intro t qa qb qc qd ht la lb lc ld
                  have hl := law_tail a b hza (upd H 6 (bl t)) (fun j hj => by rw [upd_other H _ (by omega)]; exact HH.out j hj) (utoa qa) (utoa qb ++ 46 :: (utoa qc ++ 46 :: utoa qd)) (hx_utoa (by omega))
                    (by rw [upd_at, ht]; rfl) (quad_ok (ok_utoa la) (ok_utoa lb) (ok_utoa lc) (ok_utoa ld))
                    (by have := quad_colon la lb lc ld [48]; rw [← this]; simp [join4])
                  rw [show (7 : Nat) = 6 + 1 from rfl, rend_out (bl t) HRE.out HZ.out] at hl
                  rw [bl_c0, bl_append, HSC.out]
                  exact hl
                have c6 : wr.cell? ⟨w.heap.size, 6, none⟩ = some (.int .u16 g6) := cell_block hbx rfl
                have c7 : wr.cell? ⟨w.heap.size, 7, none⟩ = some (.int .u16 g7) := cell_block hbx rfl
                obtain ⟨_, _, _, _, _, _, ⟨i6, j6⟩, ⟨i7, j7⟩⟩ := HG.out
                clear HRE HH HTK HSC HZ hbx HG
                by_cases hb2 : 2 ≤ b
                · have hb2z : (2 : Int) ≤ (b : Int) := by omega
                  go_wp2_with (first | (go_at_call 12; refine (quadtext_any _ _ i6 j6 i7 j7 _).mono ?_; rintro e w1 ⟨t, qa, qb, qc, qd, rfl, ht, la, lb, lc, ld, hts, hb1⟩; obtain ⟨f1, f2⟩ := FIN.out t qa qb qc qd ht la lb lc ld; clear ht la lb lc ld) | (go_at_call 10; refine (zzsix_any _ _ (by unfold maxLen; (try simp only [ByteArray.size_append, size_c0]); omega)).mono ?_; rintro e w' ⟨rfl, rfl⟩))
                  go_ret
                  exact ⟨rfl, hbw.trans (hb1.mono hbw.size)⟩
                · have hb2z : ¬ (2 : Int) ≤ (b : Int) := by omega
                  go_wp2_with (first | (go_at_call 12; refine (quadtext_any _ _ i6 j6 i7 j7 _).mono ?_; rintro e w1 ⟨t, qa, qb, qc, qd, rfl, ht, la, lb, lc, ld, hts, hb1⟩; obtain ⟨f1, f2⟩ := FIN.out t qa qb qc qd ht la lb lc ld; clear ht la lb lc ld) | (go_at_call 10; refine (zzsix_any _ _ (by unfold maxLen; (try simp only [ByteArray.size_append, size_c0]); omega)).mono ?_; rintro e w' ⟨rfl, rfl⟩))
                  go_ret
                  exact ⟨rfl, hbw.trans (hb1.mono hbw.size)⟩
              · -- a group
                have fin : ∀ (t : ByteArray) (w1 : World), Hx (bl t) → Below wr.heap.size wr w1 →
                    ∃ (k' : Nat) (sb' : ByteArray) (H' : Nat → List Int) (am' : Bool), k' ≤ 8 ∧ 8 - (k + 1) = 8 - k' ∧ Value.string (sc ++ t) = .string sb' ∧ Value.bool false = .bool am' ∧ Value.int .i64 ((k : Int) + 1) = .int .i64 k' ∧ rend a b H' k' = (bl sb', am') ∧ sb'.size ≤ 16 * k' ∧ (∀ j, j < k' → a ≤ j ∧ j < a + b ∨ Hx (H' j)) ∧ (T = true → k' ≤ 6) ∧ Box8 w.heap.size g0 g1 g2 g3 g4 g5 g6 g7 w1 ∧ Below w.heap.size w w1 := by
                  intro t w1 ht hb1
                  have hts : t.size ≤ 4 := by rw [← bl_length]; exact ht.2.1
                  refine ⟨k + 1, sc ++ t, upd H k (bl t), false, by omega, rfl, rfl, rfl, rfl, ?_, ?_, ?_, ?_, box8_below hbx hb1, hbw.trans (hb1.mono hbw.size)⟩
                  · rw [rend_out (bl t) HRE.out HZ.out, bl_append, HSC.out]
                  · rw [ByteArray.size_append]; omega
                  · intro j hj
                    by_cases hjk : j = k
                    · subst hjk; right; rw [upd_at]; exact ht
                    · rw [upd_other H _ hjk]; exact HH.out j (by omega)
                  · intro ht
                    have := HTK.out ht
                    have : k ≠ 6 := fun e => hT6 ⟨ht, e⟩
                    omega
                have FIN : Hid (∀ (t : ByteArray) (w1 : World), Hx (bl t) → Below wr.heap.size wr w1 →
                    ∃ (k' : Nat) (sb' : ByteArray) (H' : Nat → List Int) (am' : Bool), k' ≤ 8 ∧ 8 - (k + 1) = 8 - k' ∧ Value.string (sc ++ t) = .string sb' ∧ Value.bool false = .bool am' ∧ Value.int .i64 ((k : Int) + 1) = .int .i64 k' ∧ rend a b H' k' = (bl sb', am') ∧ sb'.size ≤ 16 * k' ∧ (∀ j, j < k' → a ≤ j ∧ j < a + b ∨ Hx (H' j)) ∧ (T = true → k' ≤ 6) ∧ Box8 w.heap.size g0 g1 g2 g3 g4 g5 g6 g7 w1 ∧ Below w.heap.size w w1) := fin
                clear fin
                obtain ⟨v, hv0, hv1, hv⟩ := box8_at hbx HG.out hk8
                clear HSC HZ HRE HH HTK hbx hbw
                cases T
                · go_wp2_with (go_at_call 13; refine (hex_any _ _ _ hv0 hv1 _).mono ?_; rintro e w1 ⟨t, rfl, ht, hb1⟩; have hts : t.size ≤ 4 := (by rw [← bl_length]; exact ht.2.1))
                  go_roundg (8 - (k + 1))
                  case measure => omega
                  case rel => exact FIN.out t w1 ht hb1
                · have hk6 : ((k : Int) == 6) = false := by
                    have : k ≠ 6 := fun e => hT6 ⟨rfl, e⟩
                    simp; omega
                  go_wp2_with (go_at_call 13; refine (hex_any _ _ _ hv0 hv1 _).mono ?_; rintro e w1 ⟨t, rfl, ht, hb1⟩; have hts : t.size ≤ 4 := (by rw [← bl_length]; exact ht.2.1))
                  go_roundg (8 - (k + 1))
                  case measure => omega
                  case rel => exact FIN.out t w1 ht hb1
      · have hk' : k = 8 := by omega
        subst hk'
        have hTf : T = false := by
          cases T
          · rfl
          · have := HTK.out rfl; omega
        subst hTf
        obtain ⟨f1, f2⟩ := law_groups a b ha H HH.out
        rw [HRE.out] at f1 f2
        rw [← bl_c0] at f2
        clear HRE HH HTK hbx HG HT
        by_cases hb2 : 2 ≤ b
        · have hb2z : (2 : Int) ≤ (b : Int) := by omega
          by_cases hab : a + b < 8
          · have habz : (a : Int) + (b : Int) < 8 := by omega
            rw [decide_eq_true (show 2 ≤ b ∧ a + b < 8 from ⟨hb2, hab⟩)] at f2
            go_wp2_with (go_at_call 10; refine (zzsix_any _ _ (by unfold maxLen; (try simp only [ByteArray.size_append, size_c0]); omega)).mono ?_; rintro e w' ⟨rfl, rfl⟩)
            go_ret
            exact ⟨rfl, hbw⟩
          · have habz : ¬ (a : Int) + (b : Int) < 8 := by omega
            rw [decide_eq_false (show ¬ (2 ≤ b ∧ a + b < 8) by omega)] at f2
            go_wp2_with (go_at_call 10; refine (zzsix_any _ _ (by unfold maxLen; (try simp only [ByteArray.size_append, size_c0]); omega)).mono ?_; rintro e w' ⟨rfl, rfl⟩)
            go_ret
            exact ⟨rfl, hbw⟩
        · have hb2z : ¬ (2 : Int) ≤ (b : Int) := by omega
          rw [decide_eq_false (show ¬ (2 ≤ b ∧ a + b < 8) by omega)] at f2
          go_wp2_with (go_at_call 10; refine (zzsix_any _ _ (by unfold maxLen; (try simp only [ByteArray.size_append, size_c0]); omega)).mono ?_; rintro e w' ⟨rfl, rfl⟩)
          go_ret
          exact ⟨rfl, hbw⟩

theorem render_out (g0 g1 g2 g3 g4 g5 g6 g7 x y : Int) (v4 up pad : Bool) (h : x < 0 ∨ 8 < x ∨ y < 0 ∨ 8 < y ∨ 8 < x + y) (w : World) :
    Calls Try.prog 4 #[.agg #[.int .u16 g0, .int .u16 g1, .int .u16 g2, .int .u16 g3, .int .u16 g4, .int .u16 g5, .int .u16 g6, .int .u16 g7], .int .i64 x, .int .i64 y, .bool v4, .bool up, .bool pad] w
      fun e w' => e = .returned (.bool true) ∧ Below w.heap.size w w' := by
  by_cases h1 : x < 0
  · go_enter Try.func4, Try.ntmps4
    go_wp2
    go_ret
    exact ⟨rfl, (Below.refl _ _).alloc (Nat.le_refl _) _⟩
  · by_cases h2 : 8 < x
    · clear h
      go_enter Try.func4, Try.ntmps4
      go_wp2
      go_ret
      exact ⟨rfl, (Below.refl _ _).alloc (Nat.le_refl _) _⟩
    · by_cases h3 : y < 0
      · clear h
        go_enter Try.func4, Try.ntmps4
        go_wp2
        go_ret
        exact ⟨rfl, (Below.refl _ _).alloc (Nat.le_refl _) _⟩
      · by_cases h4 : 8 < y
        · clear h
          go_enter Try.func4, Try.ntmps4
          go_wp2
          go_ret
          exact ⟨rfl, (Below.refl _ _).alloc (Nat.le_refl _) _⟩
        · have h5 : 8 < x + y := by omega
          clear h
          go_enter Try.func4, Try.ntmps4
          go_wp2
          go_ret
          exact ⟨rfl, (Below.refl _ _).alloc (Nat.le_refl _) _⟩

/-- 'FnIsIPv6AddressAcceptsEveryRenderedAddress' -/
theorem render_any (g0 g1 g2 g3 g4 g5 g6 g7 x y : Int) (hg : Fit8 g0 g1 g2 g3 g4 g5 g6 g7) (v4 up pad : Bool) (w : World) :
    Calls Try.prog 4 #[.agg #[.int .u16 g0, .int .u16 g1, .int .u16 g2, .int .u16 g3, .int .u16 g4, .int .u16 g5, .int .u16 g6, .int .u16 g7], .int .i64 x, .int .i64 y, .bool v4, .bool up, .bool pad] w
      fun e w' => e = .returned (.bool true) ∧ Below w.heap.size w w' := by
  by_cases h : x < 0 ∨ 8 < x ∨ y < 0 ∨ 8 < y ∨ 8 < x + y
  · exact render_out g0 g1 g2 g3 g4 g5 g6 g7 x y v4 up pad h w
  · obtain ⟨a, rfl⟩ : ∃ n : Nat, x = n := ⟨x.toNat, by omega⟩
    obtain ⟨b, rfl⟩ : ∃ n : Nat, y = n := ⟨y.toNat, by omega⟩
    exact render_walk g0 g1 g2 g3 g4 g5 g6 g7 hg a b (by omega) v4 up pad w
end Go.Proofs.Qxb6602093a
