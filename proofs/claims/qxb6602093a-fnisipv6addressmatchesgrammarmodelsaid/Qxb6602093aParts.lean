/-
  WALKS OF THE SEAT b6602093a: 'zzB1HasDot', 'zzB1IsH16', the bound on total length.
-/
import Derived.Test.Qxb6602093aIsSix
import Derived.Test.Qxb6602093aGram
namespace Go.Proofs.Qxb6602093a
open Go.RowKit Plain

theorem hasdot_any (s : ByteArray) (w : World) (hs : s.size ≤ maxLen) :
    Calls Try.prog 17 #[.string s] w fun e w' => e = .returned (.bool (hasDot (bl s))) ∧ w = w' := by
  unfold maxLen at hs
  obtain ⟨R, hR⟩ : ∃ R, R = hasDot (bl s) := ⟨_, rfl⟩
  rw [← hR]
  have HR0 : Hid (hasDot ((bl s).drop 0) = R) := hR.symm
  clear hR
  go_enter Try.func17, Try.ntmps17
  go_wp2_with fail
  go_loopg [3] s.size (fun g s3 wx => w = wx ∧ ∃ i : Nat, i ≤ s.size ∧ g = s.size - i ∧ s3 = .int .i64 i ∧ hasDot ((bl s).drop i) = R)
  case atStart => exact ⟨rfl, 0, by omega, rfl, rfl, HR0.out⟩
  case round =>
    obtain ⟨rfl, i, hi, rfl, rfl, hR⟩ := hrel
    have HR : Hid (hasDot ((bl s).drop i) = R) := hR
    clear hR HR0
    by_cases hlt : i < s.size
    · obtain ⟨x, hx⟩ : ∃ x : UInt8, s[i] = x := ⟨_, rfl⟩
      have HD : Hid ((bl s).drop i = (x.toNat : Int) :: (bl s).drop (i + 1)) := by rw [← hx]; exact drop_at s i hlt
      have hz : (i : Int) < (s.size : Int) := by omega
      by_cases h46 : (x.toNat : Int) = 46
      · have hb : ((x.toNat : Int) == 46) = true := by simp [h46]
        have HX : Hid (R = true) := by show _ = _; rw [← HR.out, HD.out, hasDot, if_pos h46]
        clear h46
        go_wp2
        go_ret
        exact ⟨ret_bool HX.out.symm, rfl⟩
      · have hb : ((x.toNat : Int) == 46) = false := by simp [h46]
        have HX : Hid (hasDot ((bl s).drop (i + 1)) = R) := by show _ = _; rw [← HR.out, HD.out, hasDot, if_neg h46]
        clear h46
        go_wp2
        go_roundg (s.size - (i + 1))
        case measure => omega
        case rel => exact ⟨rfl, i + 1, by omega, rfl, by go_num, HX.out⟩
    · have hz : ¬ (i : Int) < (s.size : Int) := by omega
      have HX : Hid (R = false) := by show _ = _; rw [← HR.out, drop_end s i (by omega)]; rfl
      go_wp2
      go_ret
      exact ⟨ret_bool HX.out.symm, rfl⟩

theorem h16_any (s : ByteArray) (w : World) (hs : s.size ≤ maxLen) :
    Calls Try.prog 28 #[.string s] w fun e w' => e = .returned (.bool (h16 (bl s))) ∧ w = w' := by
  unfold maxLen at hs
  by_cases h1 : 1 ≤ s.size
  · have h1z : ¬ (s.size : Int) < 1 := by omega
    by_cases h4 : s.size ≤ 4
    · have h4z : ¬ (4 : Int) < (s.size : Int) := by omega
      obtain ⟨R, hR⟩ : ∃ R, R = h16 (bl s) := ⟨_, rfl⟩
      rw [← hR]
      have HR0 : Hid (allH ((bl s).drop 0) = R) := by
        show _ = _
        rw [hR, h16, bl_length, decide_eq_true ⟨h1, h4⟩]; rfl
      clear hR
      go_enter Try.func28, Try.ntmps28
      go_wp2_with fail
      go_loopg [3] s.size (fun g s3 wx => w = wx ∧ ∃ i : Nat, i ≤ s.size ∧ g = s.size - i ∧ s3 = .int .i64 i ∧ allH ((bl s).drop i) = R)
      case atStart => exact ⟨rfl, 0, by omega, rfl, rfl, HR0.out⟩
      case round =>
        obtain ⟨rfl, i, hi, rfl, rfl, hR⟩ := hrel
        have HR : Hid (allH ((bl s).drop i) = R) := hR
        clear hR HR0
        by_cases hlt : i < s.size
        · obtain ⟨x, hx⟩ : ∃ x : UInt8, s[i] = x := ⟨_, rfl⟩
          have HD : Hid ((bl s).drop i = (x.toNat : Int) :: (bl s).drop (i + 1)) := by rw [← hx]; exact drop_at s i hlt
          have hz : (i : Int) < (s.size : Int) := by omega
          obtain ⟨B, hB⟩ : ∃ B : Bool, B = ish (x.toNat : Int) := ⟨_, rfl⟩
          have C15 : Hid (∀ w, Calls Try.prog 15 #[.int .u8 (x.toNat : Int)] w fun e w' => e = .returned (.bool B) ∧ w = w') := by intro w; rw [hB]; exact hexdigit_any _ w
          cases B
          · have HX : Hid (R = false) := by show _ = _; rw [← HR.out, HD.out, allH, if_neg (by rw [← hB]; simp)]
            clear hB
            go_wp2_with (go_at_call 15; refine (C15.out _).mono ?_; rintro e w' ⟨rfl, rfl⟩)
            go_ret
            exact ⟨ret_bool HX.out.symm, rfl⟩
          · have HX : Hid (allH ((bl s).drop (i + 1)) = R) := by show _ = _; rw [← HR.out, HD.out, allH, if_pos hB.symm]
            clear hB
            go_wp2_with (go_at_call 15; refine (C15.out _).mono ?_; rintro e w' ⟨rfl, rfl⟩)
            go_roundg (s.size - (i + 1))
            case measure => omega
            case rel => exact ⟨rfl, i + 1, by omega, rfl, by go_num, HX.out⟩
        · have hz : ¬ (i : Int) < (s.size : Int) := by omega
          have HX : Hid (R = true) := by show _ = _; rw [← HR.out, drop_end s i (by omega)]; rfl
          go_wp2
          go_ret
          exact ⟨ret_bool HX.out.symm, rfl⟩
    · have h4z : (4 : Int) < (s.size : Int) := by omega
      have HX : Hid (h16 (bl s) = false) := by show _ = _; rw [h16, bl_length, decide_eq_false (by omega)]; rfl
      go_enter Try.func28, Try.ntmps28
      go_wp2
      go_ret
      exact ⟨ret_bool HX.out.symm, rfl⟩
  · have h1z : (s.size : Int) < 1 := by omega
    have HX : Hid (h16 (bl s) = false) := by show _ = _; rw [h16, bl_length, decide_eq_false (by omega)]; rfl
    go_enter Try.func28, Try.ntmps28
    go_wp2
    go_ret
    exact ⟨ret_bool HX.out.symm, rfl⟩

theorem bytes9_any (s : ByteArray) (w : World) (hs : s.size ≤ maxLen) :
    Calls Try.prog 9 #[.string s] w fun e w' => e = .returned (.bool (decide (s.size ≤ 1048576))) ∧ w = w' := by
  unfold maxLen at hs
  by_cases h : s.size ≤ 1048576
  · go_enter Try.func9, Try.ntmps9
    go_wp2
    go_ret
    exact ⟨by simp [h], rfl⟩
  · go_enter Try.func9, Try.ntmps9
    go_wp2
    go_ret
    exact ⟨by simp [h], rfl⟩
end Go.Proofs.Qxb6602093a
