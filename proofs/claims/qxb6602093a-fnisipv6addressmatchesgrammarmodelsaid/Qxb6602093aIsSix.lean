/-
  WALKS OF THE SEAT b6602093a: 'strings.HasPrefix' at two constants; 'isIPv6Address'.
-/
import Derived.Test.Qxb6602093aDotted
import Derived.Test.Qxb6602093aSix
import Derived.Lib.Strings
namespace Go.Proofs.Qxb6602093a
open Go.RowKit Plain

theorem bl_extract (s : ByteArray) (a b : Nat) : bl (s.extract a b) = ((bl s).drop a).take (b - a) := by
  simp only [bl, Lib.extract_data, List.map_take, List.map_drop]
theorem bl_tail (s : ByteArray) (a : Nat) : bl (s.extract a s.size) = (bl s).drop a := by
  rw [bl_extract, List.take_of_length_le]
  rw [List.length_drop, bl_length]; omega
theorem bl_eq_iff (s t : ByteArray) : bl s = bl t ↔ s.toList = t.toList := by
  rw [ByteArray.toList_eq, ByteArray.toList_eq]
  exact List.map_inj_right (fun x y h => UInt8.toNat_inj.1 (by omega))
theorem eq_test (s t : ByteArray) : (s.toList == t.toList) = decide (bl s = bl t) := by
  rw [Bool.eq_iff_iff]; simp [bl_eq_iff]
theorem eq_cc (s : ByteArray) : (s.toList == [58, 58]) = decide (bl s = [58, 58]) := by
  have h := eq_test s ⟨#[58, 58]⟩
  rw [show (⟨#[58, 58]⟩ : ByteArray).toList = [58, 58] from ByteArray.toList_mk _] at h
  exact h
theorem eq_c (s : ByteArray) : (s.toList == [58]) = decide (bl s = [58]) := by
  have h := eq_test s ⟨#[58]⟩
  rw [show (⟨#[58]⟩ : ByteArray).toList = [58] from ByteArray.toList_mk _] at h
  exact h

theorem prefix2_any (s : ByteArray) (w : World) (hs : s.size ≤ maxLen) :
    Calls Try.prog 26 #[.string s, .string ⟨#[58, 58]⟩] w fun e w' => e = .returned (.bool (decide ((bl s).take 2 = [58, 58]))) ∧ w = w' := by
  unfold maxLen at hs
  by_cases h : 2 ≤ s.size
  · have HE : Hid (((s.extract 0 2).toList == [58, 58]) = decide ((bl s).take 2 = [58, 58])) := by show _ = _; rw [eq_cc, bl_extract]; rfl
    go_enter Try.func26, Try.ntmps26
    go_wp2
    go_ret
    exact ⟨ret_bool HE.out, rfl⟩
  · have HE : Hid (decide ((bl s).take 2 = [58, 58]) = false) := by
      show _ = _
      apply decide_eq_false
      intro he
      have := congrArg List.length he
      simp [bl_length] at this; omega
    go_enter Try.func26, Try.ntmps26
    go_wp2
    go_ret
    exact ⟨ret_bool HE.out.symm, rfl⟩
theorem prefix1_any (s : ByteArray) (w : World) (hs : s.size ≤ maxLen) :
    Calls Try.prog 26 #[.string s, .string ⟨#[58]⟩] w fun e w' => e = .returned (.bool (decide ((bl s).take 1 = [58]))) ∧ w = w' := by
  unfold maxLen at hs
  by_cases h : 1 ≤ s.size
  · have HE : Hid (((s.extract 0 1).toList == [58]) = decide ((bl s).take 1 = [58])) := by show _ = _; rw [eq_c, bl_extract]; rfl
    go_enter Try.func26, Try.ntmps26
    go_wp2
    go_ret
    exact ⟨ret_bool HE.out, rfl⟩
  · have HE : Hid (decide ((bl s).take 1 = [58]) = false) := by
      show _ = _
      apply decide_eq_false
      intro he
      have := congrArg List.length he
      simp [bl_length] at this; omega
    go_enter Try.func26, Try.ntmps26
    go_wp2
    go_ret
    exact ⟨ret_bool HE.out.symm, rfl⟩

/-! ### the reader's three openings -/
theorem six_cc {l : List Int} (h : l.take 2 = [58, 58]) : six l = ip6F (l.drop 2).length 1 true (l.drop 2) := by
  match l, h with
  | a :: b :: t, h =>
    simp at h
    obtain ⟨rfl, rfl⟩ := h
    rfl
theorem six_c {l : List Int} (h2 : ¬ l.take 2 = [58, 58]) (h : l.take 1 = [58]) : six l = false := by
  match l, h with
  | [a], h => simp at h; subst h; rfl
  | a :: b :: t, h =>
    simp at h; subst h
    have hb : b ≠ 58 := by intro e; subst e; simp at h2
    unfold six
    split
    · rename_i he; cases he; exact absurd rfl hb
    · rfl
    · rename_i h1 h2; exact absurd rfl (h2 _)
theorem six_o {l : List Int} (h : ¬ l.take 1 = [58]) : six l = ip6F l.length 0 false l := by
  unfold six
  split
  · simp at h
  · simp at h
  · rfl

theorem hexN_le : ∀ (k : Nat) (l : List Int), hexN k l ≤ k ∧ hexN k l ≤ l.length := by
  intro k
  induction k with
  | zero => intro l; simp [hexN]
  | succ k ih =>
    intro l
    cases l with
    | nil => simp [hexN]
    | cons c r =>
      simp only [hexN]
      split
      · have := ih r; simp; omega
      · simp
theorem hexN_step {k : Nat} {c : Int} {r : List Int} (h : ish c = true) : hexN (k + 1) (c :: r) = hexN k r + 1 := by
  simp [hexN, h]
theorem hexN_stop {k : Nat} {c : Int} {r : List Int} (h : ish c = false) : hexN k (c :: r) = 0 := by
  cases k <;> simp [hexN, h]
theorem hexN_nil (k : Nat) : hexN k [] = 0 := by cases k <;> rfl

set_option maxRecDepth 100000 in
set_option maxHeartbeats 6400000 in
theorem six_any (s : ByteArray) (w : World) (hs : s.size ≤ maxLen) :
    Calls Try.prog 23 #[.string s] w fun e w' => e = .returned (.bool (six (bl s))) ∧ w = w' := by
  have hs' := hs
  unfold maxLen at hs
  obtain ⟨R, hR⟩ : ∃ R, R = six (bl s) := ⟨_, rfl⟩
  rw [← hR]
  have HR0 : Hid (R = six (bl s)) := hR
  clear hR
  obtain ⟨P2, hP2⟩ : ∃ P2 : Bool, P2 = decide ((bl s).take 2 = [58, 58]) := ⟨_, rfl⟩
  obtain ⟨P1, hP1⟩ : ∃ P1 : Bool, P1 = decide ((bl s).take 1 = [58]) := ⟨_, rfl⟩
  have C2 : Hid (∀ w, Calls Try.prog 26 #[.string s, .string ⟨#[58, 58]⟩] w fun e w' => e = .returned (.bool P2) ∧ w = w') := by
    intro w; rw [hP2]; exact prefix2_any s w hs'
  have C1 : Hid (∀ w, Calls Try.prog 26 #[.string s, .string ⟨#[58]⟩] w fun e w' => e = .returned (.bool P1) ∧ w = w') := by
    intro w; rw [hP1]; exact prefix1_any s w hs'
  have HP2 : Hid (P2 = decide ((bl s).take 2 = [58, 58])) := hP2
  have HP1 : Hid (P1 = decide ((bl s).take 1 = [58])) := hP1
  clear hP2 hP1
  go_enter Try.func23, Try.ntmps23
  go_upto_if 8 with (go_at_call 26; refine (C2.out _).mono ?_; rintro e w' ⟨rfl, rfl⟩)
  go_cut [3, 4, 5] (fun s3 s4 s5 wc => w = wc ∧ ∃ (q p : Nat) (c : Bool), q ≤ s.size ∧ p ≤ 8 ∧ s3 = .int .i64 p ∧ s4 = .bool c ∧ s5 = .int .i64 q ∧ ip6F (s.size - q) p c ((bl s).drop q) = R)
  case first =>
    by_cases h2 : (bl s).take 2 = [58, 58]
    · have hd : P2 = true := by rw [HP2.out]; simp [h2]
      subst hd
      have hsz : 2 ≤ s.size := by
        have := congrArg List.length h2
        simp [bl_length] at this; omega
      have HX : Hid (ip6F (s.size - 2) 1 true ((bl s).drop 2) = R) := by show _ = _; rw [HR0.out, six_cc h2, List.length_drop, bl_length]
      clear h2
      go_wp2
      go_meet
      case rel => exact ⟨rfl, 2, 1, true, hsz, by omega, rfl, rfl, rfl, HX.out⟩
    · have hd : P2 = false := by rw [HP2.out]; simp [h2]
      subst hd
      by_cases h1 : (bl s).take 1 = [58]
      · have hd : P1 = true := by rw [HP1.out]; simp [h1]
        subst hd
        have HX : Hid (R = false) := by show _ = _; rw [HR0.out, six_c h2 h1]
        clear h2 h1
        go_wp2_with (go_at_call 26; refine (C1.out _).mono ?_; rintro e w' ⟨rfl, rfl⟩)
        go_ret
        exact ⟨ret_bool HX.out.symm, rfl⟩
      · have hd : P1 = false := by rw [HP1.out]; simp [h1]
        subst hd
        have HX : Hid (ip6F (s.size - 0) 0 false ((bl s).drop 0) = R) := by show _ = _; rw [HR0.out, six_o h1, bl_length]; rfl
        clear h2 h1
        go_wp2_with (go_at_call 26; refine (C1.out _).mono ?_; rintro e w' ⟨rfl, rfl⟩)
        go_meet
        case rel => exact ⟨rfl, 0, 0, false, by omega, by omega, rfl, rfl, rfl, HX.out⟩
  case rest =>
    obtain ⟨rfl, q0, p0, c0, hq0, hp0, rfl, rfl, rfl, hR⟩ := hcut
    clear C2 C1 HP1 HP2 HR0
    have HR0 : Hid (ip6F (s.size - q0) p0 c0 ((bl s).drop q0) = R) := hR
    clear hR
    go_wp2_with fail
    go_loopg [3, 4, 5] (s.size - q0) (fun g s3 s4 s5 wx => w = wx ∧ ∃ (q p f : Nat) (c : Bool), q ≤ s.size ∧ p ≤ 8 ∧ s.size - q ≤ f ∧ g = s.size - q ∧ s3 = .int .i64 p ∧ s4 = .bool c ∧ s5 = .int .i64 q ∧ ip6F f p c ((bl s).drop q) = R)
    case atStart => exact ⟨rfl, q0, p0, s.size - q0, c0, hq0, hp0, Nat.le_refl _, rfl, rfl, rfl, rfl, HR0.out⟩
    case round =>
      obtain ⟨rfl, q, p, f, c, hq, hp, hf, rfl, rfl, rfl, rfl, hR⟩ := hrel
      have HR : Hid (ip6F f p c ((bl s).drop q) = R) := hR
      clear hR HR0 hq0 hp0
      by_cases hlt : q < s.size
      · obtain ⟨x, hx⟩ : ∃ x : UInt8, s[q] = x := ⟨_, rfl⟩
        have HD : Hid ((bl s).drop q = (x.toNat : Int) :: (bl s).drop (q + 1)) := by rw [← hx]; exact drop_at s q hlt
        have hqz : (q : Int) < (s.size : Int) := by omega
        obtain ⟨f, rfl⟩ : ∃ f', f = f' + 1 := ⟨f - 1, by omega⟩
        by_cases hp8 : p = 8
        · subst hp8
          have HX : Hid (R = false) := by show _ = _; rw [← HR.out, HD.out]; simp [ip6F]
          go_wp2
          go_ret
          exact ⟨ret_bool HX.out.symm, rfl⟩
        · have hp8z : ((p : Int) == 8) = false := by simp; omega
          by_cases h58 : (x.toNat : Int) = 58
          · have hb : ((x.toNat : Int) == 58) = true := by simp [h58]
            cases c
            · have HX : Hid (ip6F f (p + 1) true ((bl s).drop (q + 1)) = R) := by show _ = _; rw [← HR.out, HD.out, h58, ip6F_colon hp8]
              clear h58
              go_wp2
              go_roundg (s.size - (q + 1))
              case measure => omega
              case rel => exact ⟨rfl, q + 1, p + 1, f, true, by omega, by omega, by omega, rfl, by go_num, rfl, by go_num, HX.out⟩
            · have HX : Hid (R = false) := by show _ = _; rw [← HR.out, HD.out, h58, ip6F_colon2]
              clear h58
              go_wp2
              go_ret
              exact ⟨ret_bool HX.out.symm, rfl⟩
          · have hb : ((x.toNat : Int) == 58) = false := by simp [h58]
            obtain ⟨K, hK⟩ : ∃ K, K = hexN 4 ((bl s).drop q) := ⟨_, rfl⟩
            have HX : Hid (behind p c ((bl s).drop q) K (ip6F f (p + 1) c) = R) := by show _ = _; rw [← HR.out, hK, HD.out, ip6F_cons hp8 h58]
            have HK : Hid (hexN 4 ((bl s).drop q) = K) := hK.symm
            have hK4 : K ≤ 4 := by rw [hK]; exact (hexN_le _ _).1
            have hKs : q + K ≤ s.size := by
              have := (hexN_le 4 ((bl s).drop q)).2
              rw [← hK, List.length_drop, bl_length] at this; omega
            clear hK h58 HR
            go_upto_block 2 with fail
            go_cut [5] (fun t wc => w = wc ∧ t = .int .i64 ((q : Int) + (K : Int)))
            case first =>
              clear HX HD hx
              go_wp2_with fail
              go_loopg [5] 4 (fun g s5 wx => w = wx ∧ ∃ j : Nat, j ≤ 4 ∧ q + j ≤ s.size ∧ g = 4 - j ∧ s5 = .int .i64 ((q : Int) + (j : Int)) ∧ j + hexN (4 - j) ((bl s).drop (q + j)) = K)
              case atStart => exact ⟨rfl, 0, by omega, by omega, rfl, by go_num, by rw [Nat.zero_add]; exact HK.out⟩
              case round =>
                obtain ⟨rfl, j, hj4, hjs, rfl, rfl, hjK⟩ := hrel
                have HJ : Hid (j + hexN (4 - j) ((bl s).drop (q + j)) = K) := hjK
                clear hjK HK
                by_cases hjl : q + j < s.size
                · have hjz : (q : Int) + (j : Int) < (s.size : Int) := by omega
                  by_cases hj : j < 4
                  · have hj4z : (q : Int) + (j : Int) - (q : Int) < 4 := by omega
                    obtain ⟨z, hz⟩ : ∃ z : UInt8, s[q + j] = z := ⟨_, rfl⟩
                    have HZ : Hid ((bl s).drop (q + j) = (z.toNat : Int) :: (bl s).drop (q + j + 1)) := by rw [← hz]; exact drop_at s (q + j) hjl
                    obtain ⟨B, hB⟩ : ∃ B : Bool, B = ish (z.toNat : Int) := ⟨_, rfl⟩
                    have C27 : Hid (∀ w, Calls Try.prog 27 #[.int .u8 (z.toNat : Int)] w fun e w' => e = .returned (.bool B) ∧ w = w') := by intro w; rw [hB]; exact ishex_any _ w
                    cases B
                    · have HE : Hid (K = j) := by show _ = _; rw [← HJ.out, HZ.out, hexN_stop hB.symm]; rfl
                      clear hB HJ
                      go_wp2_with (go_at_call 27; refine (C27.out _).mono ?_; rintro e w' ⟨rfl, rfl⟩)
                      go_meet
                      case rel => exact ⟨rfl, by rw [HE.out]⟩
                    · have HE : Hid (j + 1 + hexN (4 - (j + 1)) ((bl s).drop (q + (j + 1))) = K) := by
                        show _ = _
                        have e : 4 - j = 4 - (j + 1) + 1 := by omega
                        rw [← HJ.out, HZ.out, e, hexN_step hB.symm]
                        have e2 : q + j + 1 = q + (j + 1) := by omega
                        rw [e2]; omega
                      clear hB HJ
                      go_wp2_with (go_at_call 27; refine (C27.out _).mono ?_; rintro e w' ⟨rfl, rfl⟩)
                      go_roundg (4 - (j + 1))
                      case measure => omega
                      case rel => exact ⟨rfl, j + 1, by omega, by omega, rfl, by go_num, HE.out⟩
                  · have hj' : j = 4 := by omega
                    subst hj'
                    have hj4z : ¬ (q : Int) + (4 : Int) - (q : Int) < 4 := by omega
                    have HE : Hid (K = 4) := by show _ = _; rw [← HJ.out]; rfl
                    go_wp2
                    go_meet
                    case rel => exact ⟨rfl, by rw [HE.out]; rfl⟩
                · have HE : Hid (K = j) := by show _ = _; rw [← HJ.out, drop_end s _ (by omega), hexN_nil]; rfl
                  have hjz : ¬ (q : Int) + (j : Int) < (s.size : Int) := by omega
                  go_wp2
                  go_meet
                  case rel => exact ⟨rfl, by rw [HE.out]⟩
            case rest =>
              obtain ⟨rfl, rfl⟩ := hcut
              have hdd : ((bl s).drop q).drop K = (bl s).drop (q + K) := by rw [List.drop_drop]
              have HDD : Hid (((bl s).drop q).drop K = (bl s).drop (q + K)) := hdd
              clear hdd HK hb hx
              by_cases hKl : q + K < s.size
              · have hKz : (q : Int) + (K : Int) < (s.size : Int) := by omega
                obtain ⟨y, hy⟩ : ∃ y : UInt8, s[q + K] = y := ⟨_, rfl⟩
                have HY : Hid (((bl s).drop q).drop K = (y.toNat : Int) :: (bl s).drop (q + K + 1)) := by rw [HDD.out, ← hy]; exact drop_at s (q + K) hKl
                have HB : Hid (R = if (y.toNat : Int) = 46 then (if K = 0 ∨ 6 < p then false else dotted ((bl s).drop q) && (c || decide (p + 2 = 8))) else if (y.toNat : Int) = 58 then (if (bl s).drop (q + K + 1) = [] then false else ip6F f (p + 1) c ((bl s).drop (q + K + 1))) else false) := by
                  show _ = _
                  rw [← HX.out, behind, HY.out]
                clear HX HDD HY HD
                by_cases h46 : (y.toNat : Int) = 46
                · have hb46 : ((y.toNat : Int) == 46) = true := by simp [h46]
                  have HC : Hid (R = if K = 0 ∨ 6 < p then false else dotted ((bl s).drop q) && (c || decide (p + 2 = 8))) := by show _ = _; rw [HB.out, if_pos h46]
                  clear HB h46
                  by_cases hK0 : K = 0
                  · subst hK0
                    have hy0 : s[q]'hlt = y := hy
                    have HE : Hid (R = false) := by show _ = _; rw [HC.out, if_pos (.inl rfl)]
                    go_wp2
                    go_ret
                    exact ⟨ret_bool HE.out.symm, rfl⟩
                  · have hK0z : ((q : Int) + (K : Int) == (q : Int)) = false := by simp; omega
                    by_cases hp6 : 6 < p
                    · have hp6z : (6 : Int) < (p : Int) := by omega
                      have HE : Hid (R = false) := by show _ = _; rw [HC.out, if_pos (.inr hp6)]
                      go_wp2
                      go_ret
                      exact ⟨ret_bool HE.out.symm, rfl⟩
                    · have hp6z : ¬ (6 : Int) < (p : Int) := by omega
                      obtain ⟨T, hT⟩ : ∃ T : Bool, T = dotted ((bl s).drop q) := ⟨_, rfl⟩
                      have C25 : Hid (∀ w, Calls Try.prog 25 #[.string (s.extract q s.size)] w fun e w' => e = .returned (.bool T) ∧ w = w') := by
                        intro w
                        have := dotted_any (s.extract q s.size) w (by unfold maxLen; simp; omega)
                        rw [bl_tail, ← hT] at this
                        exact this
                      have HE : Hid (R = (T && (c || decide (p + 2 = 8)))) := by show _ = _; rw [HC.out, if_neg (by omega), ← hT]
                      clear HC hT
                      cases T
                      · have HF : Hid (R = false) := by show _ = _; rw [HE.out]; rfl
                        go_wp2_with (go_at_call 25; refine (C25.out _).mono ?_; rintro e w' ⟨rfl, rfl⟩)
                        go_ret
                        exact ⟨ret_bool HF.out.symm, rfl⟩
                      · cases c
                        · have HF : Hid (R = ((p : Int) + 2 == 8)) := by
                            show _ = _
                            rw [HE.out, Bool.eq_iff_iff]; simp; omega
                          go_wp2_with (go_at_call 25; refine (C25.out _).mono ?_; rintro e w' ⟨rfl, rfl⟩)
                          go_ret
                          exact ⟨ret_bool HF.out.symm, rfl⟩
                        · have HF : Hid (R = true) := by show _ = _; rw [HE.out]; rfl
                          go_wp2_with (go_at_call 25; refine (C25.out _).mono ?_; rintro e w' ⟨rfl, rfl⟩)
                          go_ret
                          exact ⟨ret_bool HF.out.symm, rfl⟩
                · have hb46 : ((y.toNat : Int) == 46) = false := by simp [h46]
                  by_cases h58 : (y.toNat : Int) = 58
                  · have hb58 : ((y.toNat : Int) == 58) = true := by simp [h58]
                    have HC : Hid (R = if (bl s).drop (q + K + 1) = [] then false else ip6F f (p + 1) c ((bl s).drop (q + K + 1))) := by show _ = _; rw [HB.out, if_neg h46, if_pos h58]
                    clear HB h46 h58
                    by_cases he : q + K + 1 < s.size
                    · have hez : ((q : Int) + (K : Int) + 1 == (s.size : Int)) = false := by simp; omega
                      have HE : Hid (ip6F f (p + 1) c ((bl s).drop (q + K + 1)) = R) := by
                        show _ = _
                        rw [HC.out, if_neg]
                        rw [drop_at s _ he]; simp
                      go_wp2
                      go_roundg (s.size - (q + K + 1))
                      case measure => omega
                      case rel => exact ⟨rfl, q + K + 1, p + 1, f, c, by omega, by omega, by omega, rfl, by go_num, rfl, by go_num, HE.out⟩
                    · have hez : ((q : Int) + (K : Int) + 1 == (s.size : Int)) = true := by simp; omega
                      have HE : Hid (R = false) := by show _ = _; rw [HC.out, if_pos (drop_end s _ (by omega))]
                      go_wp2
                      go_ret
                      exact ⟨ret_bool HE.out.symm, rfl⟩
                  · have hb58 : ((y.toNat : Int) == 58) = false := by simp [h58]
                    have HE : Hid (R = false) := by show _ = _; rw [HB.out, if_neg h46, if_neg h58]
                    clear HB h46 h58
                    go_wp2
                    go_ret
                    exact ⟨ret_bool HE.out.symm, rfl⟩
              · have hKz : ¬ (q : Int) + (K : Int) < (s.size : Int) := by omega
                have HE : Hid (ip6F f (p + 1) c ((bl s).drop (q + K)) = R) := by
                  show _ = _
                  rw [← HX.out, behind, HDD.out, drop_end s _ (by omega)]
                clear HX HDD HD
                go_wp2
                go_roundg (s.size - (q + K))
                case measure => omega
                case rel => exact ⟨rfl, q + K, p + 1, f, c, by omega, by omega, by omega, rfl, by go_num, rfl, by go_num, HE.out⟩
      · have hqz : ¬ (q : Int) < (s.size : Int) := by omega
        have HX : Hid (R = (c || decide (p = 8))) := by show _ = _; rw [← HR.out, drop_end s q (by omega), ip6F_nil]
        cases c
        · have HY : Hid (R = ((p : Int) == 8)) := by
            show _ = _
            rw [HX.out, Bool.eq_iff_iff]; simp; omega
          go_wp2
          go_ret
          exact ⟨ret_bool HY.out.symm, rfl⟩
        · have HY : Hid (R = true) := by show _ = _; rw [HX.out]; rfl
          go_wp2
          go_ret
          exact ⟨ret_bool HY.out.symm, rfl⟩

theorem zzsix_any (s : ByteArray) (w : World) (hs : s.size ≤ maxLen) :
    Calls Try.prog 10 #[.string s] w fun e w' => e = .returned (.bool (six (bl s))) ∧ w = w' := by
  go_enter Try.func10, Try.ntmps10
  go_wp2_with (go_at_call 23; refine (six_any _ _ hs).mono ?_; rintro e w' ⟨rfl, rfl⟩)
  go_ret
  exact ⟨rfl, rfl⟩
end Go.Proofs.Qxb6602093a
