/-
  WALKS OF THE SEAT b6602093a: 'zzB1IPv6Model', 'FnIsIPv6AddressMatchesGrammarModel'.
-/
import Derived.Test.Qxb6602093aGroups
namespace Go.Proofs.Qxb6602093a
open Go.RowKit Plain
set_option linter.unusedVariables false

theorem grpC_le : ∀ (g : Nat) (tail : Bool) (l : List Int) (n : Nat), grpC g tail l = some n → n ≤ l.length + 2 := by
  intro g
  induction g with
  | zero => intro tail l n h; cases h
  | succ g ih =>
    intro tail l n h
    rcases cut_inv 58 l with ⟨f, e, rfl, _⟩ | ⟨f, r, e, rfl, _⟩
    · simp only [grpC, e] at h
      split at h
      · split at h
        · cases h; omega
        · cases h
      · split at h
        · cases h; omega
        · cases h
    · simp only [grpC, e] at h
      split at h
      · obtain ⟨m, hm, rfl⟩ := Option.map_eq_some_iff.1 h
        have := ih tail r m hm
        simp; omega
      · cases h
theorem groupsG_le {tail : Bool} {l : List Int} {n : Nat} (h : groupsG tail l = some n) : n ≤ l.length + 2 := by
  unfold groupsG at h
  split at h
  · cases h; omega
  · exact grpC_le _ _ _ _ h

/-- the end of the model: no double colon -/
def endN (l : List Int) : Bool := if l = [] then false else is8 (groupsG true l)
/-- .. one at k -/
def endS (l : List Int) (k : Nat) : Bool := both (groupsG false (l.take k)) (groupsG true (l.drop (k + 2)))
theorem gram_none {l : List Int} (h : findCC l = none) : gram l = endN l := by rw [gram, h]; rfl
theorem gram_some {l : List Int} {k : Nat} (h : findCC l = some k) : gram l = endS l k := by rw [gram, h]; rfl

set_option maxRecDepth 100000 in
set_option maxHeartbeats 6400000 in
theorem model_any (s : ByteArray) (w : World) (hs : s.size ≤ 1048576) :
    Calls Try.prog 11 #[.string s] w fun e w' => e = .returned (.bool (gram (bl s))) ∧ Below w.heap.size w w' := by
  obtain ⟨R, hR⟩ : ∃ R, R = gram (bl s) := ⟨_, rfl⟩
  rw [← hR]
  have HR : Hid (R = gram (bl s)) := hR
  clear hR
  obtain ⟨F, hF⟩ : ∃ F, F = findCC (bl s) := ⟨_, rfl⟩
  have HF : Hid (findCC (bl s) = F) := hF.symm
  have HI0 : Hid ((findCC ((bl s).drop 0)).map (· + 0) = F) := by
    show _ = _
    rw [hF, List.drop_zero]; cases findCC (bl s) <;> rfl
  clear hF
  go_enter Try.func11, Try.ntmps11
  go_wp2_with fail
  go_loopg [3, 4] s.size (fun g s3 s4 wx => w = wx ∧ ∃ i : Nat, i ≤ s.size ∧ g = s.size - i ∧ s3 = .int .i64 (-1) ∧ s4 = .int .i64 i ∧ (findCC ((bl s).drop i)).map (· + i) = F)
  case atStart => exact ⟨rfl, 0, by omega, rfl, rfl, rfl, HI0.out⟩
  case round =>
    obtain ⟨rfl, i, hi, rfl, rfl, rfl, hI⟩ := hrel
    have HI : Hid ((findCC ((bl s).drop i)).map (· + i) = F) := hI
    clear hI HI0
    by_cases hlt : i + 1 < s.size
    · have hltz : (i : Int) + 1 < (s.size : Int) := by omega
      have hiz : (i : Int) < (s.size : Int) := by omega
      have hi0 : i < s.size := by omega
      obtain ⟨x, hx⟩ : ∃ x : UInt8, s[i] = x := ⟨_, rfl⟩
      obtain ⟨y, hy⟩ : ∃ y : UInt8, s[i + 1] = y := ⟨_, rfl⟩
      have HD : Hid ((bl s).drop i = (x.toNat : Int) :: (y.toNat : Int) :: (bl s).drop (i + 1 + 1)) := by rw [← hx, ← hy]; rw [← drop_at s (i + 1) hlt]; exact drop_at s i hi0
      have HD1 : Hid ((bl s).drop (i + 1) = (y.toNat : Int) :: (bl s).drop (i + 1 + 1)) := by rw [← hy]; exact drop_at s (i + 1) hlt
      by_cases h2 : (x.toNat : Int) = 58 ∧ (y.toNat : Int) = 58
      · have hb1 : ((x.toNat : Int) == 58) = true := by simp [h2.1]
        have hb2 : ((y.toNat : Int) == 58) = true := by simp [h2.2]
        have HX : Hid (R = endS (bl s) i) := by
          show _ = _
          have e : F = some i := by rw [← HI.out, HD.out, findCC, if_pos h2]; simp
          rw [HR.out]
          exact gram_some (by rw [HF.out, e])
        clear h2 HI HD HD1 HR
        obtain ⟨A, hA⟩ : ∃ A, A = groupsG false ((bl s).take i) := ⟨_, rfl⟩
        obtain ⟨Bo, hBo⟩ : ∃ Bo, Bo = groupsG true ((bl s).drop (i + 2)) := ⟨_, rfl⟩
        have HY : Hid (R = both A Bo) := by show _ = _; rw [HX.out, endS, hA, hBo]
        have CA : Hid (∀ w, Calls Try.prog 24 #[.string (s.extract 0 i), .bool false] w fun e w' => e = .returned (.tuple #[.int .i64 (resN A), .bool A.isSome]) ∧ Below w.heap.size w w') := by
          intro w
          have e : bl (s.extract 0 i) = (bl s).take i := by rw [bl_extract]; rfl
          have := groups_any (s.extract 0 i) false w (by rw [← bl_length, e]; simp [bl_length]; omega)
          rw [e, ← hA] at this
          exact this
        have CB : Hid (∀ w, Calls Try.prog 24 #[.string (s.extract (i + 2) s.size), .bool true] w fun e w' => e = .returned (.tuple #[.int .i64 (resN Bo), .bool Bo.isSome]) ∧ Below w.heap.size w w') := by
          intro w
          have e : bl (s.extract (i + 2) s.size) = (bl s).drop (i + 2) := bl_tail s (i + 2)
          have := groups_any (s.extract (i + 2) s.size) true w (by rw [← bl_length, e]; simp [bl_length]; omega)
          rw [e, ← hBo] at this
          exact this
        have lA : ∀ n, A = some n → n ≤ 2000000 := fun n h => by
          have := groupsG_le (h ▸ hA.symm : groupsG false ((bl s).take i) = some n)
          simp [bl_length] at this; omega
        have lB : ∀ n, Bo = some n → n ≤ 2000000 := fun n h => by
          have := groupsG_le (h ▸ hBo.symm : groupsG true ((bl s).drop (i + 2)) = some n)
          simp [bl_length] at this; omega
        have bA : 0 ≤ resN A ∧ resN A ≤ 2000000 := by
          cases A with
          | none => simp [resN]
          | some n => have := lA n rfl; simp only [resN]; omega
        have bB : 0 ≤ resN Bo ∧ resN Bo ≤ 2000000 := by
          cases Bo with
          | none => simp [resN]
          | some n => have := lB n rfl; simp only [resN]; omega
        have HW : Hid (R = (A.isSome && (Bo.isSome && decide (resN A + resN Bo ≤ 7)))) := by
          show _ = _
          rw [HY.out]
          cases A with
          | none => cases Bo <;> rfl
          | some a =>
            cases Bo with
            | none => rfl
            | some b =>
              show decide (a + b ≤ 7) = decide ((a : Int) + (b : Int) ≤ 7)
              exact decide_eq_decide.2 (by omega)
        obtain ⟨NA, hNA⟩ : ∃ NA, NA = resN A := ⟨_, rfl⟩
        obtain ⟨NB, hNB⟩ : ∃ NB, NB = resN Bo := ⟨_, rfl⟩
        obtain ⟨BA, hBA⟩ : ∃ BA, BA = A.isSome := ⟨_, rfl⟩
        obtain ⟨BB, hBB⟩ : ∃ BB, BB = Bo.isSome := ⟨_, rfl⟩
        rw [← hNA, ← hBA] at CA
        rw [← hNB, ← hBB] at CB
        rw [← hNA, ← hNB, ← hBA, ← hBB] at HW
        rw [← hNA] at bA
        rw [← hNB] at bB
        obtain ⟨a0, a1⟩ := bA
        obtain ⟨b0, b1⟩ := bB
        clear hA hBo HX HY lA lB hNA hNB hBA hBB
        have hi2 : (i : Int) + 2 ≤ (s.size : Int) := by omega
        have hge : ¬ (i : Int) < 0 := by omega
        go_wp2_with fail
        refine (CA.out _).mono ?_
        rintro e w1 ⟨rfl, hb1⟩
        clear CA
        go_wp2_with fail
        refine (CB.out _).mono ?_
        rintro e w2 ⟨rfl, hb2⟩
        have hfin := hb1.trans (hb2.mono hb1.size)
        clear CB hb1 hb2
        cases BA
        · have HZ : Hid (R = false) := by show _ = _; rw [HW.out]; rfl
          go_wp2
          go_ret
          exact ⟨ret_bool HZ.out.symm, hfin⟩
        · cases BB
          · have HZ : Hid (R = false) := by show _ = _; rw [HW.out]; rfl
            go_wp2
            go_ret
            exact ⟨ret_bool HZ.out.symm, hfin⟩
          · have HZ : Hid (R = decide (NA + NB ≤ 7)) := by show _ = _; rw [HW.out]; rfl
            go_wp2
            go_ret
            exact ⟨ret_bool HZ.out.symm, hfin⟩
      · have HX : Hid ((findCC ((bl s).drop (i + 1))).map (· + (i + 1)) = F) := by
          show _ = _
          rw [← HI.out, HD.out, findCC, if_neg h2, HD1.out, Option.map_map]
          congr 1
          funext z; simp; omega
        clear HI HD HD1
        by_cases h1 : (x.toNat : Int) = 58
        · have hb1 : ((x.toNat : Int) == 58) = true := by simp [h1]
          have hb2 : ((y.toNat : Int) == 58) = false := by simp; intro hh; exact h2 ⟨h1, by omega⟩
          clear h1 h2
          go_wp2
          go_roundg (s.size - (i + 1))
          case measure => omega
          case rel => exact ⟨rfl, i + 1, by omega, rfl, rfl, by go_num, HX.out⟩
        · have hb1 : ((x.toNat : Int) == 58) = false := by simp [h1]
          clear h1 h2
          go_wp2
          go_roundg (s.size - (i + 1))
          case measure => omega
          case rel => exact ⟨rfl, i + 1, by omega, rfl, rfl, by go_num, HX.out⟩
    · have hltz : ¬ (i : Int) + 1 < (s.size : Int) := by omega
      have HX : Hid (R = endN (bl s)) := by
        show _ = _
        rw [HR.out]
        apply gram_none
        rw [HF.out, ← HI.out]
        by_cases hi0 : i < s.size
        · rw [drop_at s i hi0, drop_end s (i + 1) (by omega)]; rfl
        · rw [drop_end s i (by omega)]; rfl
      clear HI HR HF
      by_cases h0 : s.size = 0
      · have hbl : bl s = [] := List.eq_nil_of_length_eq_zero (by rw [bl_length]; exact h0)
        have HY : Hid (R = false) := by show _ = _; rw [HX.out, endN, if_pos hbl]
        have he : s.toList.isEmpty = true := by
          rw [ByteArray.toList_eq]
          have h1 : s.data.size = 0 := h0
          have : s.data.toList = [] := List.eq_nil_of_length_eq_zero (by rw [Array.length_toList]; exact h1)
          rw [this]; rfl
        clear hbl h0
        go_wp2
        go_ret
        exact ⟨ret_bool HY.out.symm, Below.refl _ _⟩
      · have he := eq_nil_test s (by omega)
        have hbl : bl s ≠ [] := by intro e; have := bl_length s; rw [e] at this; simp at this; omega
        obtain ⟨A, hA⟩ : ∃ A, A = groupsG true (bl s) := ⟨_, rfl⟩
        have HY : Hid (R = is8 A) := by show _ = _; rw [HX.out, endN, if_neg hbl, hA]
        have CA : Hid (∀ w, Calls Try.prog 24 #[.string s, .bool true] w fun e w' => e = .returned (.tuple #[.int .i64 (resN A), .bool A.isSome]) ∧ Below w.heap.size w w') := by
          intro w; rw [hA]; exact groups_any s true w hs
        clear hbl hA HX
        cases A with
        | none =>
          have HZ : Hid (R = false) := by show _ = _; rw [HY.out]; rfl
          go_wp2_with (go_at_call 24; refine (CA.out _).mono ?_; rintro e w1 ⟨rfl, hb1⟩)
          go_ret
          exact ⟨ret_bool HZ.out.symm, hb1⟩
        | some n =>
          have HZ : Hid (R = ((n : Int) == 8)) := by
            show _ = _
            rw [HY.out, is8, Bool.eq_iff_iff]; simp; omega
          have CA' : Hid (∀ w, Calls Try.prog 24 #[.string s, .bool true] w fun e w' => e = .returned (.tuple #[.int .i64 (n : Int), .bool true]) ∧ Below w.heap.size w w') := CA
          clear CA
          go_wp2_with (go_at_call 24; refine (CA'.out _).mono ?_; rintro e w1 ⟨rfl, hb1⟩)
          go_ret
          exact ⟨ret_bool HZ.out.symm, hb1⟩

/-- 'FnIsIPv6AddressMatchesGrammarModel' -/
theorem match_walk (s : ByteArray) (w : World) (hs : s.size ≤ maxLen) :
    Calls Try.prog 3 #[.string s] w fun e w' => e = .returned (.bool true) ∧ Below w.heap.size w w' := by
  by_cases h : s.size ≤ 1048576
  · have hd : decide (s.size ≤ 1048576) = true := by simpa using h
    obtain ⟨B, hB⟩ : ∃ B : Bool, B = gram (bl s) := ⟨_, rfl⟩
    have C10 : Hid (∀ w, Calls Try.prog 10 #[.string s] w fun e w' => e = .returned (.bool B) ∧ w = w') := by
      intro w; rw [hB, ← six_gram]; exact zzsix_any s w hs
    have C11 : Hid (∀ w, Calls Try.prog 11 #[.string s] w fun e w' => e = .returned (.bool B) ∧ Below w.heap.size w w') := by
      intro w; rw [hB]; exact model_any s w h
    clear hB
    go_enter Try.func3, Try.ntmps3
    go_wp2_with (first | (go_at_call 9; refine (bytes9_any _ _ hs).mono ?_; rintro e w' ⟨rfl, rfl⟩) | (go_at_call 10; refine (C10.out _).mono ?_; rintro e w' ⟨rfl, rfl⟩) | (go_at_call 11; refine (C11.out _).mono ?_; rintro e w1 ⟨rfl, hb1⟩))
    go_ret
    exact ⟨by simp, hb1⟩
  · have hd : decide (s.size ≤ 1048576) = false := by simpa using h
    go_enter Try.func3, Try.ntmps3
    go_wp2_with (go_at_call 9; refine (bytes9_any _ _ hs).mono ?_; rintro e w' ⟨rfl, rfl⟩)
    go_ret
    exact ⟨rfl, Below.refl _ _⟩
end Go.Proofs.Qxb6602093a
