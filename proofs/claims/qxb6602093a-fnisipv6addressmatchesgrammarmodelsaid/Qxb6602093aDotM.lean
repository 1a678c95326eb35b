/-
  WALKS OF THE SEAT b6602093a: 'zzB1DottedModel'.
-/
import Derived.Test.Qxb6602093aParts
import Derived.Test.Qxb6602093aQuad
import Derived.Deep.RegionHeld3
namespace Go.Proofs.Qxb6602093a
open Go.RowKit Plain
set_option linter.unusedVariables false

/-- what holds at the head of the model's outer loop -/
def Inv (l : List Int) (R : Bool) (i st f v0 v1 v2 v3 : Nat) : Prop :=
  (i ≤ l.length ∧ st ≤ i ∧ (∀ x ∈ (l.drop st).take (i - st), x ≠ 46) ∧ quadM l (4 - f) ([v0, v1, v2, v3].take f) (l.drop st) = R) ∨
  (i = l.length + 1 ∧ R = (decide (f = 4) && decide (render ([v0, v1, v2, v3].take f) = l)))

theorem inv_more {l : List Int} {R : Bool} {i st f v0 v1 v2 v3 : Nat} (h : Inv l R i st f v0 v1 v2 v3) (hi : i < l.length) (hx : l[i]? ≠ some 46) : Inv l R (i + 1) st f v0 v1 v2 v3 := by
  rcases h with ⟨h1, h2, h3, h4⟩ | ⟨h1, _⟩
  · left
    refine ⟨by omega, by omega, ?_, h4⟩
    intro x hm
    have e : i + 1 - st = (i - st) + 1 := by omega
    have hl : i - st < (l.drop st).length := by simp; omega
    rw [e, List.take_succ_eq_append_getElem hl] at hm
    simp only [List.mem_append, List.mem_singleton] at hm
    rcases hm with hm | rfl
    · exact h3 x hm
    · intro e46
      apply hx
      rw [List.getElem_drop] at e46
      have : st + (i - st) = i := by omega
      rw [List.getElem?_eq_getElem hi]
      simp only [this] at e46
      rw [e46]
  · omega
/-- the field that ends at i, cut off -/
theorem inv_cut {l : List Int} {i st : Nat} (h1 : i ≤ l.length) (h2 : st ≤ i) (h3 : ∀ x ∈ (l.drop st).take (i - st), x ≠ 46) :
    (i = l.length → cut 46 (l.drop st) = ((l.drop st).take (i - st), none)) ∧ (l[i]? = some 46 → cut 46 (l.drop st) = ((l.drop st).take (i - st), some (l.drop (i + 1)))) := by
  have e : l.drop st = (l.drop st).take (i - st) ++ l.drop i := by
    have h := List.take_append_drop (i - st) (l.drop st)
    rw [List.drop_drop] at h
    have : st + (i - st) = i := by omega
    rw [this] at h
    exact h.symm
  constructor
  · intro hi
    have : l.drop i = [] := List.drop_of_length_le (by omega)
    rw [this, List.append_nil] at e
    rw [e]
    have h3' := h3
    rw [← e] at h3'
    have ee : ((l.drop st).take (i - st)).take (i - st) = (l.drop st).take (i - st) := by rw [List.take_take, Nat.min_self]
    rw [ee]
    exact cut_all h3
  · intro hi
    have hlt : i < l.length := by
      obtain ⟨h, _⟩ := List.getElem?_eq_some_iff.1 hi; exact h
    have : l.drop i = 46 :: l.drop (i + 1) := by
      rw [List.drop_eq_getElem_cons hlt]
      rw [List.getElem?_eq_getElem hlt] at hi
      rw [Option.some.inj hi]
    rw [this] at e
    have h := cut_app h3 (l.drop (i + 1))
    rw [← e] at h
    exact h
theorem inv_field {l : List Int} {R : Bool} {i st f v0 v1 v2 v3 : Nat} (h : Inv l R i st f v0 v1 v2 v3) (hil : i ≤ l.length) (he : i = l.length ∨ l[i]? = some 46) (hf : f < 4) :
    (fld ((l.drop st).take (i - st)) = none → R = false) ∧
    (∀ a w0 w1 w2 w3, fld ((l.drop st).take (i - st)) = some a → [w0, w1, w2, w3].take (f + 1) = [v0, v1, v2, v3].take f ++ [a] → Inv l R (i + 1) (i + 1) (f + 1) w0 w1 w2 w3) := by
  rcases h with ⟨h1, h2, h3, h4⟩ | ⟨h1, _⟩
  · obtain ⟨c1, c2⟩ := inv_cut h1 h2 h3
    obtain ⟨k, hk⟩ : ∃ k, 4 - f = k + 1 := ⟨3 - f, by omega⟩
    rw [hk, quadM] at h4
    rcases he with he | he
    · rw [c1 he] at h4
      constructor
      · intro hn; simp only [hn] at h4; exact h4.symm
      · intro a w0 w1 w2 w3 ha hw
        simp only [ha] at h4
        right
        refine ⟨by omega, ?_⟩
        rw [hw, ← h4]
        congr 1
        rw [Bool.eq_iff_iff]; simp; omega
    · rw [c2 he] at h4
      have hlt : i < l.length := by
        obtain ⟨h, _⟩ := List.getElem?_eq_some_iff.1 he; exact h
      constructor
      · intro hn; simp only [hn] at h4; exact h4.symm
      · intro a w0 w1 w2 w3 ha hw
        simp only [ha] at h4
        left
        refine ⟨by omega, by omega, by simp, ?_⟩
        have : 4 - (f + 1) = k := by omega
        rw [this, hw]; exact h4
  · omega
theorem inv_full {l : List Int} {R : Bool} {i st v0 v1 v2 v3 : Nat} (h : Inv l R i st 4 v0 v1 v2 v3) (hil : i ≤ l.length) : R = false := by
  rcases h with ⟨_, _, _, h4⟩ | ⟨h1, _⟩
  · exact h4.symm
  · omega
theorem inv_end {l : List Int} {R : Bool} {i st f v0 v1 v2 v3 : Nat} (h : Inv l R i st f v0 v1 v2 v3) (hil : ¬ i ≤ l.length) : R = (decide (f = 4) && decide (render ([v0, v1, v2, v3].take f) = l)) := by
  rcases h with ⟨h1, _⟩ | ⟨_, h2⟩
  · exact absurd h1 hil
  · exact h2
theorem inv_st {l : List Int} {R : Bool} {i st f v0 v1 v2 v3 : Nat} (h : Inv l R i st f v0 v1 v2 v3) (hil : i ≤ l.length) : st ≤ i := by
  rcases h with ⟨_, h2, _⟩ | ⟨h1, _⟩
  · exact h2
  · omega
theorem fld_long {l : List Int} (h : ¬ (1 ≤ l.length ∧ l.length ≤ 3)) : fld l = none := by rw [fld, if_neg h]
def capV : Option Nat → Option Nat
  | some v => if v ≤ 255 then some v else .none
  | .none => .none
theorem fld_pv {l : List Int} (h : 1 ≤ l.length ∧ l.length ≤ 3) : fld l = capV (pv 0 l) := by
  rw [fld, if_pos h]
  cases pv 0 l <;> rfl
theorem bl_at (s : ByteArray) (k : Nat) (h : k < s.size) (x : UInt8) (hx : s[k] = x) : (bl s)[k]? = some (x.toNat : Int) := by rw [← hx]; exact bl_get s k h

theorem held4 {w W w1 : World} {v0 v1 v2 v3 : Nat} (hb : Below W.heap.size W w1) (h : W.cell? ⟨w.heap.size, 0, none⟩ = some (.int .u64 v0) ∧ W.cell? ⟨w.heap.size, 1, none⟩ = some (.int .u64 v1) ∧ W.cell? ⟨w.heap.size, 2, none⟩ = some (.int .u64 v2) ∧ W.cell? ⟨w.heap.size, 3, none⟩ = some (.int .u64 v3) ∧ Below w.heap.size w W) : w1.cell? ⟨w.heap.size, 0, none⟩ = some (.int .u64 v0) ∧ w1.cell? ⟨w.heap.size, 1, none⟩ = some (.int .u64 v1) ∧ w1.cell? ⟨w.heap.size, 2, none⟩ = some (.int .u64 v2) ∧ w1.cell? ⟨w.heap.size, 3, none⟩ = some (.int .u64 v3) ∧ Below w.heap.size w w1 := by
  obtain ⟨h0, h1, h2, h3, h4⟩ := h
  have hlt : w.heap.size < W.heap.size := World.block_lt_of_cell? W _ h0
  exact ⟨(hb.cell (p := ⟨w.heap.size, 0, none⟩) hlt).trans h0, (hb.cell (p := ⟨w.heap.size, 1, none⟩) hlt).trans h1, (hb.cell (p := ⟨w.heap.size, 2, none⟩) hlt).trans h2, (hb.cell (p := ⟨w.heap.size, 3, none⟩) hlt).trans h3, h4.trans (hb.mono h4.size)⟩
theorem held4_start (w : World) (v0 v1 v2 v3 : Nat) : (w.alloc (.cells #[.int .u64 v0, .int .u64 v1, .int .u64 v2, .int .u64 v3] 39)).drew.cell? ⟨w.heap.size, 0, none⟩ = some (.int .u64 v0) ∧ (w.alloc (.cells #[.int .u64 v0, .int .u64 v1, .int .u64 v2, .int .u64 v3] 39)).drew.cell? ⟨w.heap.size, 1, none⟩ = some (.int .u64 v1) ∧ (w.alloc (.cells #[.int .u64 v0, .int .u64 v1, .int .u64 v2, .int .u64 v3] 39)).drew.cell? ⟨w.heap.size, 2, none⟩ = some (.int .u64 v2) ∧ (w.alloc (.cells #[.int .u64 v0, .int .u64 v1, .int .u64 v2, .int .u64 v3] 39)).drew.cell? ⟨w.heap.size, 3, none⟩ = some (.int .u64 v3) ∧ Below w.heap.size w (w.alloc (.cells #[.int .u64 v0, .int .u64 v1, .int .u64 v2, .int .u64 v3] 39)).drew :=
  ⟨by simp, by simp, by simp, by simp, ((Below.refl _ _).alloc (Nat.le_refl _) _).drew⟩

set_option maxRecDepth 100000 in
set_option maxHeartbeats 6400000 in
theorem dotm_any (s : ByteArray) (w : World) (hs : s.size ≤ 1048576) :
    Calls Try.prog 20 #[.string s] w fun e w' => e = .returned (.bool (dotted (bl s))) ∧ Below w.heap.size w w' := by
  obtain ⟨R, hR⟩ : ∃ R, R = dotted (bl s) := ⟨_, rfl⟩
  rw [← hR]
  have HI0 : Hid (Inv (bl s) R 0 0 0 0 0 0 0) := by
    left
    exact ⟨by omega, by omega, by simp, by rw [hR, ← quadM_dotted]; rfl⟩
  clear hR
  have hL : (bl s).length = s.size := bl_length s
  have HL : Hid ((bl s).length = s.size) := hL
  clear hL
  go_enter Try.func20, Try.ntmps20
  go_wp2_with fail
  go_loopg [4, 5, 6] (s.size + 1) (fun g s4 s5 s6 wx => ∃ (i st f v0 v1 v2 v3 : Nat), f ≤ 4 ∧ i ≤ s.size + 1 ∧ st ≤ s.size + 1 ∧ g = s.size + 1 - i ∧ s4 = .int .i64 f ∧ s5 = .int .i64 st ∧ s6 = .int .i64 i ∧ w.alloc (.cells #[.int .u64 v0, .int .u64 v1, .int .u64 v2, .int .u64 v3] 39) = wx ∧ v0 ≤ 255 ∧ v1 ≤ 255 ∧ v2 ≤ 255 ∧ v3 ≤ 255 ∧ Inv (bl s) R i st f v0 v1 v2 v3)
  case atStart => exact ⟨0, 0, 0, 0, 0, 0, 0, by omega, by omega, by omega, rfl, rfl, rfl, rfl, rfl, by omega, by omega, by omega, by omega, HI0.out⟩
  case round =>
    obtain ⟨i, st, f, v0, v1, v2, v3, hf, hi, hst, rfl, rfl, rfl, rfl, rfl, hv0, hv1, hv2, hv3, hI⟩ := hrel
    have HI : Hid (Inv (bl s) R i st f v0 v1 v2 v3) := hI
    clear hI HI0
    by_cases hil : i ≤ s.size
    · have hilz : (i : Int) ≤ (s.size : Int) := by omega
      have hsti : st ≤ i := inv_st HI.out (by rw [HL.out]; exact hil)
      obtain ⟨E, hE⟩ : ∃ E : Bool, E = decide (i = s.size ∨ (bl s)[i]? = some 46) := ⟨_, rfl⟩
      have HE : Hid (E = decide (i = s.size ∨ (bl s)[i]? = some 46)) := hE
      clear hE
      go_upto_region 7 with fail
      go_cut [27] (fun t wc => w.alloc (.cells #[.int .u64 v0, .int .u64 v1, .int .u64 v2, .int .u64 v3] 39) = wc ∧ t = .bool E)
      case first =>
        clear HI
        by_cases hie : i = s.size
        · have hiz : ((i : Int) == (s.size : Int)) = true := by simp [hie]
          have HX : Hid (E = true) := by show _ = _; rw [HE.out]; simp [hie]
          clear hie
          go_wp2
          go_meet
          case rel => exact ⟨rfl, by rw [HX.out]⟩
        · have hiz : ((i : Int) == (s.size : Int)) = false := by simp; omega
          have hlt : i < s.size := by omega
          have hltz : (i : Int) < (s.size : Int) := by omega
          obtain ⟨x, hx⟩ : ∃ x : UInt8, s[i] = x := ⟨_, rfl⟩
          have HX : Hid (E = ((x.toNat : Int) == 46)) := by
            show _ = _
            rw [HE.out, bl_at s i hlt x hx, Bool.eq_iff_iff]; simp [hie]
          go_wp2
          go_meet
          case rel => exact ⟨rfl, by rw [HX.out]⟩
      case rest =>
        obtain ⟨rfl, rfl⟩ := hcut
        by_cases he : i = s.size ∨ (bl s)[i]? = some 46
        · have hd : E = true := by rw [HE.out]; simp [he]
          subst hd
          have HEE : Hid (i = (bl s).length ∨ (bl s)[i]? = some 46) := by rw [HL.out]; exact he
          clear he HE
          by_cases hf4 : f = 4
          · subst hf4
            have HX : Hid (R = false) := inv_full HI.out (by rw [HL.out]; exact hil)
            go_wp2
            go_ret
            exact ⟨ret_bool HX.out.symm, (Below.refl _ _).alloc (Nat.le_refl _) _⟩
          · have hf4z : ((f : Int) == 4) = false := by simp; omega
            have hlen : (((bl s).drop st).take (i - st)).length = i - st := by simp [HL.out]; omega
            have HIF := inv_field HI.out (by rw [HL.out]; exact hil) HEE.out (by omega : f < 4)
            have HN : Hid (fld (((bl s).drop st).take (i - st)) = none → R = false) := HIF.1
            have HS : Hid (∀ a w0 w1 w2 w3, fld (((bl s).drop st).take (i - st)) = some a → [w0, w1, w2, w3].take (f + 1) = [v0, v1, v2, v3].take f ++ [a] → Inv (bl s) R (i + 1) (i + 1) (f + 1) w0 w1 w2 w3) := HIF.2
            clear HIF HEE HI
            by_cases hw1 : 1 ≤ i - st
            · have hw1z : ¬ (i : Int) - (st : Int) < 1 := by omega
              by_cases hw3 : i - st ≤ 3
              · have hw3z : ¬ (3 : Int) < (i : Int) - (st : Int) := by omega
                have HF : Hid (fld (((bl s).drop st).take (i - st)) = capV (pv 0 (((bl s).drop st).take (i - st)))) := fld_pv (by rw [hlen]; exact ⟨hw1, hw3⟩)
                obtain ⟨PV, hPV⟩ : ∃ PV, PV = pv 0 (((bl s).drop st).take (i - st)) := ⟨_, rfl⟩
                rw [← hPV] at HF
                have HPV : Hid (pv 0 (((bl s).drop st).take (i - st)) = PV) := hPV.symm
                clear hPV hlen
                go_upto_block 2 with fail
                go_cut [8] (fun t wc => w.alloc (.cells #[.int .u64 v0, .int .u64 v1, .int .u64 v2, .int .u64 v3] 39) = wc ∧ ∃ a : Nat, a < 1000 ∧ t = .int .u64 a ∧ PV = some a)
                case first =>
                  go_wp2_with fail
                  go_loopg [8, 9] (i - st) (fun g s8 s9 wx => w.alloc (.cells #[.int .u64 v0, .int .u64 v1, .int .u64 v2, .int .u64 v3] 39) = wx ∧ ∃ j a : Nat, st ≤ j ∧ j ≤ i ∧ g = i - j ∧ s8 = .int .u64 a ∧ s9 = .int .i64 j ∧ a < 10 ^ (j - st) ∧ pv a (((bl s).drop j).take (i - j)) = PV)
                  case atStart => exact ⟨rfl, st, 0, by omega, by omega, rfl, rfl, rfl, by simp, HPV.out⟩
                  case round =>
                    obtain ⟨rfl, j, a, hj0, hj1, rfl, rfl, rfl, ha, hp⟩ := hrel
                    have HP : Hid (pv a (((bl s).drop j).take (i - j)) = PV) := hp
                    clear hp HPV
                    have hpow : 10 ^ (j - st) ≤ 10 ^ 3 := Nat.pow_le_pow_right (by omega) (by omega)
                    have ha1 : a < 1000 := by omega
                    by_cases hji : j < i
                    · have hjiz : (j : Int) < (i : Int) := by omega
                      have hjs : j < s.size := by omega
                      have hjsz : (j : Int) < (s.size : Int) := by omega
                      have hpow2 : 10 ^ (j - st) ≤ 10 ^ 2 := Nat.pow_le_pow_right (by omega) (by omega)
                      have ha2 : a < 100 := by omega
                      have HPW : Hid (a < 10 ^ (j - st)) := ha
                      obtain ⟨x, hx⟩ : ∃ x : UInt8, s[j] = x := ⟨_, rfl⟩
                      have HD : Hid (((bl s).drop j).take (i - j) = (x.toNat : Int) :: ((bl s).drop (j + 1)).take (i - (j + 1))) := by
                        show _ = _
                        have e : i - j = (i - (j + 1)) + 1 := by omega
                        rw [drop_at s j hjs, hx, e, List.take_succ_cons]
                      clear hpow hpow2 ha
                      by_cases hxd : isd (x.toNat : Int) = true
                      · have hxb := (isd_iff _).1 hxd
                        obtain ⟨hx0, hx1⟩ := hxb
                        have HX : Hid (pv (a * 10 + ((x.toNat : Int) - 48).toNat) (((bl s).drop (j + 1)).take (i - (j + 1))) = PV) := by show _ = _; rw [← HP.out, HD.out, pv, if_pos hxd]
                        have HV : Hid (Value.int .u64 ((a : Int) * 10 + ((x.toNat : Int) - 48)) = .int .u64 ((a * 10 + ((x.toNat : Int) - 48).toNat : Nat) : Int)) := by
                          show _ = _
                          congr 1; omega
                        have HQ : Hid (a * 10 + ((x.toNat : Int) - 48).toNat < 10 ^ (j + 1 - st)) := by
                          show _ < _
                          have e : j + 1 - st = (j - st) + 1 := by omega
                          have hh := HPW.out
                          rw [e, Nat.pow_succ]; omega
                        clear hxd HP HD HPW
                        go_wp2
                        go_roundg (i - (j + 1))
                        case measure => omega
                        case rel => exact ⟨rfl, j + 1, _, by omega, by omega, rfl, HV.out, by go_num, HQ.out, HX.out⟩
                      · have HX : Hid (R = false) := HN.out (by rw [HF.out, ← HP.out, HD.out, pv, if_neg hxd]; rfl)
                        have hxd' : (x.toNat : Int) < 48 ∨ 57 < (x.toNat : Int) := by rw [isd_iff] at hxd; omega
                        clear hxd HP HD
                        by_cases h48 : (x.toNat : Int) < 48
                        · clear hxd'
                          go_wp2
                          go_ret
                          exact ⟨ret_bool HX.out.symm, (Below.refl _ _).alloc (Nat.le_refl _) _⟩
                        · have h57 : 57 < (x.toNat : Int) := by omega
                          clear hxd'
                          go_wp2
                          go_ret
                          exact ⟨ret_bool HX.out.symm, (Below.refl _ _).alloc (Nat.le_refl _) _⟩
                    · have hjiz : ¬ (j : Int) < (i : Int) := by omega
                      have HX : Hid (PV = some a) := by
                        show _ = _
                        have e : i - j = 0 := by omega
                        rw [← HP.out, e]; rfl
                      clear HP ha hpow
                      go_wp2
                      go_meet
                      case rel => exact ⟨rfl, a, ha1, rfl, HX.out⟩
                case rest =>
                  obtain ⟨rfl, a, ha1, rfl, hPa⟩ := hcut
                  have HPa : Hid (PV = some a) := hPa
                  clear hPa HPV
                  by_cases ha255 : a ≤ 255
                  · have ha255z : ¬ (255 : Int) < (a : Int) := by omega
                    have HFA : Hid (fld (((bl s).drop st).take (i - st)) = some a) := by show _ = _; rw [HF.out, HPa.out, capV, if_pos ha255]
                    clear HF HPa HN
                    rcases (show f = 0 ∨ f = 1 ∨ f = 2 ∨ f = 3 by omega) with rfl | rfl | rfl | rfl
                    · have HX : Hid (Inv (bl s) R (i + 1) (i + 1) 1 a v1 v2 v3) := HS.out a a v1 v2 v3 HFA.out rfl
                      go_wp2
                      go_roundg (s.size + 1 - (i + 1))
                      case measure => omega
                      case rel => exact ⟨i + 1, i + 1, 1, a, v1, v2, v3, by omega, by omega, by omega, rfl, rfl, by go_num, by go_num, rfl, ha255, hv1, hv2, hv3, HX.out⟩
                    · have HX : Hid (Inv (bl s) R (i + 1) (i + 1) 2 v0 a v2 v3) := HS.out a v0 a v2 v3 HFA.out rfl
                      go_wp2
                      go_roundg (s.size + 1 - (i + 1))
                      case measure => omega
                      case rel => exact ⟨i + 1, i + 1, 2, v0, a, v2, v3, by omega, by omega, by omega, rfl, rfl, by go_num, by go_num, rfl, hv0, ha255, hv2, hv3, HX.out⟩
                    · have HX : Hid (Inv (bl s) R (i + 1) (i + 1) 3 v0 v1 a v3) := HS.out a v0 v1 a v3 HFA.out rfl
                      go_wp2
                      go_roundg (s.size + 1 - (i + 1))
                      case measure => omega
                      case rel => exact ⟨i + 1, i + 1, 3, v0, v1, a, v3, by omega, by omega, by omega, rfl, rfl, by go_num, by go_num, rfl, hv0, hv1, ha255, hv3, HX.out⟩
                    · have HX : Hid (Inv (bl s) R (i + 1) (i + 1) 4 v0 v1 v2 a) := HS.out a v0 v1 v2 a HFA.out rfl
                      go_wp2
                      go_roundg (s.size + 1 - (i + 1))
                      case measure => omega
                      case rel => exact ⟨i + 1, i + 1, 4, v0, v1, v2, a, by omega, by omega, by omega, rfl, rfl, by go_num, by go_num, rfl, hv0, hv1, hv2, ha255, HX.out⟩
                  · have ha255z : (255 : Int) < (a : Int) := by omega
                    have HX : Hid (R = false) := HN.out (by rw [HF.out, HPa.out, capV, if_neg ha255])
                    go_wp2
                    go_ret
                    exact ⟨ret_bool HX.out.symm, (Below.refl _ _).alloc (Nat.le_refl _) _⟩
              · have hw3z : (3 : Int) < (i : Int) - (st : Int) := by omega
                have HX : Hid (R = false) := HN.out (fld_long (by rw [hlen]; omega))
                go_wp2
                go_ret
                exact ⟨ret_bool HX.out.symm, (Below.refl _ _).alloc (Nat.le_refl _) _⟩
            · have hw1z : (i : Int) - (st : Int) < 1 := by omega
              have HX : Hid (R = false) := HN.out (fld_long (by rw [hlen]; omega))
              go_wp2
              go_ret
              exact ⟨ret_bool HX.out.symm, (Below.refl _ _).alloc (Nat.le_refl _) _⟩
        · have hd : E = false := by rw [HE.out]; simp [he]
          subst hd
          have HX : Hid (Inv (bl s) R (i + 1) st f v0 v1 v2 v3) := inv_more HI.out (by rw [HL.out]; omega) (fun h => he (.inr h))
          clear HE HI
          have hlt : i < s.size := by omega
          clear he
          go_wp2
          go_roundg (s.size + 1 - (i + 1))
          case measure => omega
          case rel => exact ⟨i + 1, st, f, v0, v1, v2, v3, hf, by omega, hst, rfl, rfl, rfl, by go_num, rfl, hv0, hv1, hv2, hv3, HX.out⟩
    · have hilz : ¬ (i : Int) ≤ (s.size : Int) := by omega
      have HX : Hid (R = (decide (f = 4) && decide (render ([v0, v1, v2, v3].take f) = bl s))) := inv_end HI.out (by rw [HL.out]; exact hil)
      clear HI
      by_cases hf4 : f = 4
      · subst hf4
        have HY : Hid (R = decide (join4 (utoa v0) (utoa v1) (utoa v2) (utoa v3) = bl s)) := by show _ = _; rw [HX.out]; rfl
        clear HX
        go_upto_region 28 with fail
        go_region_held3 (fun w' => w'.cell? ⟨w.heap.size, 0, none⟩ = some (.int .u64 v0) ∧ w'.cell? ⟨w.heap.size, 1, none⟩ = some (.int .u64 v1) ∧ w'.cell? ⟨w.heap.size, 2, none⟩ = some (.int .u64 v2) ∧ w'.cell? ⟨w.heap.size, 3, none⟩ = some (.int .u64 v3) ∧ Below w.heap.size w w') (first | exact held4_start _ _ _ _ _ | exact held4 (by assumption) (by assumption) | go_keep) (first | (go_at_call 21; have hprev := hs3; refine (utoa_any _ _ rfl (by omega) _).mono ?_; clear hprev; rintro e w4 ⟨t4, rfl, ht4, hb4⟩; have hs4 := utoa_size ht4; have k6 : ¬ 9223372036854775807 < t1.size + 1 + t2.size + 1 + t3.size + 1 + t4.size := (by omega)) | (go_at_call 21; have hprev := hs2; refine (utoa_any _ _ rfl (by omega) _).mono ?_; clear hprev; rintro e w3 ⟨t3, rfl, ht3, hb3⟩; have hs3 := utoa_size ht3; have k4 : ¬ 9223372036854775807 < t1.size + 1 + t2.size + 1 + t3.size := (by omega); have k5 : ¬ 9223372036854775807 < t1.size + 1 + t2.size + 1 + t3.size + 1 := (by omega)) | (go_at_call 21; have hprev := hs1; refine (utoa_any _ _ rfl (by omega) _).mono ?_; clear hprev; rintro e w2 ⟨t2, rfl, ht2, hb2⟩; have hs2 := utoa_size ht2; have k2 : ¬ 9223372036854775807 < t1.size + 1 + t2.size := (by omega); have k3 : ¬ 9223372036854775807 < t1.size + 1 + t2.size + 1 := (by omega)) | (go_at_call 21; refine (utoa_any _ _ rfl (by omega) _).mono ?_; rintro e w1 ⟨t1, rfl, ht1, hb1⟩; have hs1 := utoa_size ht1; have k1 : ¬ 9223372036854775807 < t1.size + 1 := (by omega)))
        have b0 := (held4_start w v0 v1 v2 v3).2.2.2.2
        have b1 := b0.trans (hb1.mono b0.size)
        have b2 := b1.trans (hb2.mono b1.size)
        have b3 := b2.trans (hb3.mono b2.size)
        have b4 := b3.trans (hb4.mono b3.size)
        have HZ : Hid (((t1 ++ ⟨#[46]⟩ ++ t2 ++ ⟨#[46]⟩ ++ t3 ++ ⟨#[46]⟩ ++ t4 : ByteArray).toList == s.toList) = R) := by
          show _ = _
          rw [eq_test, HY.out]
          have e := bl_j4 t1 t2 t3 t4
          rw [ht1, ht2, ht3, ht4] at e
          rw [← e]; rfl
        go_wp2
        go_ret
        exact ⟨ret_bool HZ.out, b4⟩
      · have hf4z : ((f : Int) != 4) = true := by simp; omega
        have HY : Hid (R = false) := by show _ = _; rw [HX.out, decide_eq_false hf4]; rfl
        go_wp2
        go_ret
        exact ⟨ret_bool HY.out.symm, (Below.refl _ _).alloc (Nat.le_refl _) _⟩
end Go.Proofs.Qxb6602093a
