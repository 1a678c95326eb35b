/-
  WALKS OF THE SEAT b6602093a: 'isDottedIPv4'.
-/
import Derived.Test.Qxb6602093aUtoa
import Derived.Deep.LoopGhost
import Derived.Deep.DeepCutAuto
import Derived.Deep.CutBlock
import Derived.Outline
namespace Go.Proofs.Qxb6602093a
open Go.RowKit Plain

theorem drop_at (s : ByteArray) (k : Nat) (h : k < s.size) : (bl s).drop k = ((s[k]).toNat : Int) :: (bl s).drop (k + 1) := by
  have hl : k < (bl s).length := by rw [bl_length]; exact h
  rw [List.drop_eq_getElem_cons hl]
  have := bl_get s k h
  rw [List.getElem?_eq_getElem hl] at this
  rw [Option.some.inj this]
theorem drop_end (s : ByteArray) (k : Nat) (h : s.size ≤ k) : (bl s).drop k = [] := List.drop_of_length_le (by rw [bl_length]; exact h)

/-- what stands behind a number's start -/
def optG (nm : Nat) : Option (List Int) → Bool
  | some y => quadG nm y
  | .none => false
def afterO (nm : Nat) (l : List Int) : Bool := optG nm (oct l)
theorem quadG_dot' (nm : Nat) (h : 0 < nm) (r : List Int) : quadG nm (46 :: r) = afterO (nm + 1) r := by
  rw [quadG_dot nm h, afterO]; cases oct r <;> rfl
theorem quadG_first' (l : List Int) : quadG 0 l = afterO 1 l := by
  rw [quadG_first, afterO]; cases oct l <;> rfl

set_option maxRecDepth 100000 in
set_option maxHeartbeats 1600000 in
theorem dotted_any (s : ByteArray) (w : World) (hs : s.size ≤ maxLen) :
    Calls Try.prog 25 #[.string s] w fun e w' => e = .returned (.bool (dotted (bl s))) ∧ w = w' := by
  unfold maxLen at hs
  obtain ⟨R, hR⟩ : ∃ R, R = dotted (bl s) := ⟨_, rfl⟩
  rw [← hR]
  have HR0 : Hid (quadG 0 ((bl s).drop 0) = R) := hR.symm
  clear hR
  go_enter Try.func25, Try.ntmps25
  go_wp2_with fail
  go_loopg [3, 4] s.size (fun g s3 s4 wx => w = wx ∧ ∃ (q nm : Nat), q ≤ s.size ∧ nm ≤ q ∧ g = s.size - q ∧ s3 = .int .i64 nm ∧ s4 = .int .i64 q ∧ quadG nm ((bl s).drop q) = R)
  case atStart => exact ⟨rfl, 0, 0, by omega, by omega, rfl, rfl, rfl, HR0.out⟩
  case round =>
    obtain ⟨rfl, q, nm, hq, hnm, rfl, rfl, rfl, hR⟩ := hrel
    have HR : Hid (quadG nm ((bl s).drop q) = R) := hR
    clear hR HR0
    by_cases hlt : q < s.size
    · obtain ⟨x, hx⟩ : ∃ x : UInt8, s[q] = x := ⟨_, rfl⟩
      have HD : Hid ((bl s).drop q = (x.toNat : Int) :: (bl s).drop (q + 1)) := by rw [← hx]; exact drop_at s q hlt
      have hqz : (q : Int) < (s.size : Int) := by omega
      go_upto_if 12 with fail
      go_cut [4] (fun t wc => w = wc ∧ ∃ st : Nat, q ≤ st ∧ st ≤ s.size ∧ t = .int .i64 st ∧ afterO (nm + 1) ((bl s).drop st) = R)
      case first =>
        by_cases h0 : nm = 0
        · subst h0
          have HX : Hid (afterO 1 ((bl s).drop q) = R) := by show _ = _; rw [← HR.out, quadG_first']
          go_wp2
          go_meet
          case rel => exact ⟨rfl, q, by omega, by omega, rfl, HX.out⟩
        · have h0z : (0 : Int) < (nm : Int) := by omega
          by_cases h46 : (x.toNat : Int) = 46
          · have hb : ((x.toNat : Int) != 46) = false := by simp [h46]
            have HX : Hid (afterO (nm + 1) ((bl s).drop (q + 1)) = R) := by show _ = _; rw [← HR.out, HD.out, h46, quadG_dot' nm (by omega)]
            clear h46
            go_wp2
            go_meet
            case rel => exact ⟨rfl, q + 1, by omega, by omega, by go_num, HX.out⟩
          · have hb : ((x.toNat : Int) != 46) = true := by simp [h46]
            have HX : Hid (R = false) := by show _ = _; rw [← HR.out, HD.out, quadG_other nm (by omega) _ _ h46]
            clear h46
            go_wp2
            go_ret
            exact ⟨ret_bool HX.out.symm, rfl⟩
      case rest =>
        obtain ⟨rfl, st, hqs, hst, rfl, hR⟩ := hcut
        have HR : Hid (afterO (nm + 1) ((bl s).drop st) = R) := hR
        clear hR HD hx hqz
        by_cases hsl : st < s.size
        · have hslz : (st : Int) < (s.size : Int) := by omega
          have hne : ((st : Int) == (s.size : Int)) = false := by simp; omega
          obtain ⟨y, hy⟩ : ∃ y : UInt8, s[st] = y := ⟨_, rfl⟩
          have HY : Hid ((bl s).drop st = (y.toNat : Int) :: (bl s).drop (st + 1)) := by rw [← hy]; exact drop_at s st hsl
          by_cases hyd : isd (y.toNat : Int) = true
          · go_wp2_with (go_at_call 29; refine (isdigit_any _ _).mono ?_; rintro e w' ⟨rfl, rfl⟩)
            obtain ⟨O, hO⟩ : ∃ O, O = oct ((bl s).drop st) := ⟨_, rfl⟩
            have HO : Hid (octL true (y.toNat : Int) 0 ((bl s).drop st) = O) := by show _ = _; rw [hO, HY.out, oct, if_pos hyd]
            have HRO : Hid (R = optG (nm + 1) O) := by show _ = _; rw [hO]; exact HR.out.symm
            clear hO HR
            go_loopg [4, 6] (s.size - st) (fun g s4 s6 wx => w = wx ∧ ∃ (p : Nat) (n : Int), st ≤ p ∧ p ≤ s.size ∧ 0 ≤ n ∧ n ≤ 255 ∧ g = s.size - p ∧ s4 = .int .i64 p ∧ s6 = .int .i64 n ∧ octL (decide (p = st)) (y.toNat : Int) n ((bl s).drop p) = O)
            case atStart => exact ⟨rfl, st, 0, by omega, by omega, by omega, by omega, rfl, rfl, rfl, by simpa using HO.out⟩
            case round =>
              obtain ⟨rfl, p, n, hsp, hp, hn0, hn1, rfl, rfl, rfl, hO⟩ := hrel
              have HP : Hid (octL (decide (p = st)) (y.toNat : Int) n ((bl s).drop p) = O) := hO
              clear hO HO
              by_cases hpl : p < s.size
              · have hplz : (p : Int) < (s.size : Int) := by omega
                obtain ⟨z, hz⟩ : ∃ z : UInt8, s[p] = z := ⟨_, rfl⟩
                have HZ : Hid ((bl s).drop p = (z.toNat : Int) :: (bl s).drop (p + 1)) := by rw [← hz]; exact drop_at s p hpl
                by_cases hzd : isd (z.toNat : Int) = true
                · have hzb := (isd_iff _).1 hzd
                  obtain ⟨hz0, hz1⟩ := hzb
                  by_cases hf : p = st
                  · subst hf
                    have hfz : ¬ (p : Int) < (p : Int) := by omega
                    by_cases hbig : 255 < n * 10 + ((z.toNat : Int) - 48)
                    · have HX : Hid (R = false) := by
                        show _ = _
                        rw [HRO.out, ← HP.out, HZ.out, octL_big _ hzd hbig]; rfl
                      clear hy HY
                      go_wp2_with (go_at_call 29; refine (isdigit_any _ _).mono ?_; rintro e w' ⟨rfl, rfl⟩)
                      go_ret
                      exact ⟨ret_bool HX.out.symm, rfl⟩
                    · have HX : Hid (octL false (y.toNat : Int) (n * 10 + ((z.toNat : Int) - 48)) ((bl s).drop (p + 1)) = O) := by
                        show _ = _
                        rw [← HP.out, HZ.out, octL_dig _ hzd (by simp) (by omega)]
                      clear hy HY
                      go_wp2_with (go_at_call 29; refine (isdigit_any _ _).mono ?_; rintro e w' ⟨rfl, rfl⟩)
                      go_roundg (s.size - (p + 1))
                      case measure => omega
                      case rel => exact ⟨rfl, p + 1, n * 10 + ((z.toNat : Int) - 48), by omega, by omega, by omega, by omega, rfl, by go_num, rfl, by rw [decide_eq_false (by omega)]; exact HX.out⟩
                  · have hfz : (st : Int) < (p : Int) := by omega
                    by_cases h48 : (y.toNat : Int) = 48
                    · have hb : ((y.toNat : Int) == 48) = true := by simp [h48]
                      have HX : Hid (R = false) := by
                        show _ = _
                        rw [HRO.out, ← HP.out, HZ.out, h48, decide_eq_false hf, octL_zero _ _ hzd]; rfl
                      clear h48
                      go_wp2_with (go_at_call 29; refine (isdigit_any _ _).mono ?_; rintro e w' ⟨rfl, rfl⟩)
                      go_ret
                      exact ⟨ret_bool HX.out.symm, rfl⟩
                    · have hb : ((y.toNat : Int) == 48) = false := by simp [h48]
                      by_cases hbig : 255 < n * 10 + ((z.toNat : Int) - 48)
                      · have HX : Hid (R = false) := by
                          show _ = _
                          rw [HRO.out, ← HP.out, HZ.out, octL_big _ hzd hbig]; rfl
                        go_wp2_with (go_at_call 29; refine (isdigit_any _ _).mono ?_; rintro e w' ⟨rfl, rfl⟩)
                        go_ret
                        exact ⟨ret_bool HX.out.symm, rfl⟩
                      · have HX : Hid (octL false (y.toNat : Int) (n * 10 + ((z.toNat : Int) - 48)) ((bl s).drop (p + 1)) = O) := by
                          show _ = _
                          rw [← HP.out, HZ.out, octL_dig _ hzd (by simp [h48]) (by omega)]
                        clear h48
                        go_wp2_with (go_at_call 29; refine (isdigit_any _ _).mono ?_; rintro e w' ⟨rfl, rfl⟩)
                        go_roundg (s.size - (p + 1))
                        case measure => omega
                        case rel => exact ⟨rfl, p + 1, n * 10 + ((z.toNat : Int) - 48), by omega, by omega, by omega, by omega, rfl, by go_num, rfl, by rw [decide_eq_false (by omega)]; exact HX.out⟩
                · have hzd' : isd (z.toNat : Int) = false := by simpa using hzd
                  have hf : p ≠ st := by
                    intro hf
                    subst hf
                    rw [hy] at hz; subst hz
                    exact hzd hyd
                  have HX : Hid (quadG (nm + 1) ((bl s).drop p) = R) := by
                    show _ = _
                    rw [HRO.out, ← HP.out, octL_end _ _ _ (.inr ⟨_, _, HZ.out, hzd'⟩)]; rfl
                  go_wp2_with (go_at_call 29; refine (isdigit_any _ _).mono ?_; rintro e w' ⟨rfl, rfl⟩)
                  go_roundg (s.size - p)
                  case measure => omega
                  case rel => exact ⟨rfl, p, nm + 1, by omega, by omega, rfl, by go_num, rfl, HX.out⟩
              · have HX : Hid (quadG (nm + 1) ((bl s).drop p) = R) := by
                  show _ = _
                  rw [HRO.out, ← HP.out, octL_end _ _ _ (.inl (drop_end s p (by omega)))]; rfl
                have hplz : ¬ (p : Int) < (s.size : Int) := by omega
                go_wp2_with (go_at_call 29; refine (isdigit_any _ _).mono ?_; rintro e w' ⟨rfl, rfl⟩)
                go_roundg (s.size - p)
                case measure => omega
                case rel => exact ⟨rfl, p, nm + 1, by omega, by omega, rfl, by go_num, rfl, HX.out⟩
          · have hyd' : isd (y.toNat : Int) = false := by simpa using hyd
            have HX : Hid (R = false) := by show _ = _; rw [← HR.out, HY.out, afterO, oct, if_neg hyd]; rfl
            go_wp2_with (go_at_call 29; refine (isdigit_any _ _).mono ?_; rintro e w' ⟨rfl, rfl⟩)
            go_ret
            exact ⟨ret_bool HX.out.symm, rfl⟩
        · have hne : ((st : Int) == (s.size : Int)) = true := by simp; omega
          have HX : Hid (R = false) := by show _ = _; rw [← HR.out, drop_end s st (by omega)]; rfl
          go_wp2_with (go_at_call 29; refine (isdigit_any _ _).mono ?_; rintro e w' ⟨rfl, rfl⟩)
          go_ret
          exact ⟨ret_bool HX.out.symm, rfl⟩
    · have HX : Hid (R = ((nm : Int) == 4)) := by
        show _ = _
        rw [← HR.out, drop_end s q (by omega), quadG_nil]
        rw [Bool.eq_iff_iff]; simp; omega
      go_wp2
      go_ret
      exact ⟨ret_bool HX.out.symm, rfl⟩

theorem zzdotted_any (s : ByteArray) (w : World) (hs : s.size ≤ maxLen) :
    Calls Try.prog 18 #[.string s] w fun e w' => e = .returned (.bool (dotted (bl s))) ∧ w = w' := by
  go_enter Try.func18, Try.ntmps18
  go_wp2_with (go_at_call 25; refine (dotted_any _ _ hs).mono ?_; rintro e w' ⟨rfl, rfl⟩)
  go_ret
  exact ⟨rfl, rfl⟩
end Go.Proofs.Qxb6602093a
