/-
  WALKS OF THE SEAT b6602093a: 'zzB1Groups'.
-/
import Derived.Test.Qxb6602093aDotM
namespace Go.Proofs.Qxb6602093a
open Go.RowKit Plain
set_option linter.unusedVariables false

def resN : Option Nat → Int
  | some n => n
  | .none => 0

/-- what holds at the head of the loop -/
def InvG (l : List Int) (tail : Bool) (R : Option Nat) (i st n : Nat) : Prop :=
  (i ≤ l.length ∧ st ≤ i ∧ (∀ x ∈ (l.drop st).take (i - st), x ≠ 58) ∧ ∃ g, (l.drop st).length < g ∧ (grpC g tail (l.drop st)).map (· + n) = R) ∨
  (i = l.length + 1 ∧ R = some n)

theorem invG_more {l : List Int} {tail : Bool} {R : Option Nat} {i st n : Nat} (h : InvG l tail R i st n) (hi : i < l.length) (hx : l[i]? ≠ some 58) : InvG l tail R (i + 1) st n := by
  rcases h with ⟨h1, h2, h3, h4⟩ | ⟨h1, _⟩
  · left
    refine ⟨by omega, by omega, ?_, h4⟩
    intro x hm
    have e : i + 1 - st = (i - st) + 1 := by omega
    have hl : i - st < (l.drop st).length := by simp; omega
    rw [e, List.take_succ_eq_append_getElem hl] at hm
    simp only [List.mem_append, List.mem_singleton] at hm
    rcases hm with hm | rfl
    · exact h3 x hm
    · intro e46
      apply hx
      rw [List.getElem_drop] at e46
      have : st + (i - st) = i := by omega
      rw [List.getElem?_eq_getElem hi]
      simp only [this] at e46
      rw [e46]
  · omega
theorem split_at {l : List Int} {i st : Nat} (h2 : st ≤ i) : l.drop st = (l.drop st).take (i - st) ++ l.drop i := by
  have h := List.take_append_drop (i - st) (l.drop st)
  rw [List.drop_drop] at h
  have : st + (i - st) = i := by omega
  rw [this] at h
  exact h.symm
theorem invG_end {l : List Int} {tail : Bool} {R : Option Nat} {i st n : Nat} (h : InvG l tail R i st n) (hi : i = l.length) :
    R = (if (tail && hasDot ((l.drop st).take (i - st))) = true then (if dotted ((l.drop st).take (i - st)) = true then some (n + 2) else none) else if h16 ((l.drop st).take (i - st)) = true then some (n + 1) else none) := by
  rcases h with ⟨h1, h2, h3, g, hg, h4⟩ | ⟨h1, _⟩
  · obtain ⟨g, rfl⟩ : ∃ k, g = k + 1 := ⟨g - 1, by omega⟩
    have e := split_at (l := l) h2
    have e0 : l.drop i = [] := List.drop_of_length_le (by omega)
    rw [e0, List.append_nil] at e
    have c : cut 58 (l.drop st) = ((l.drop st).take (i - st), none) := by
      have := cut_all h3
      rw [← e] at this ⊢
      exact this
    rw [← h4]
    simp only [grpC, c]
    split
    · split
      · simp [Nat.add_comm]
      · rfl
    · split
      · simp [Nat.add_comm]
      · rfl
  · omega
theorem invG_colon {l : List Int} {tail : Bool} {R : Option Nat} {i st n : Nat} (h : InvG l tail R i st n) (hi : l[i]? = some 58) :
    (h16 ((l.drop st).take (i - st)) = false → R = none) ∧ (h16 ((l.drop st).take (i - st)) = true → InvG l tail R (i + 1) (i + 1) (n + 1)) := by
  have hlt : i < l.length := by
    obtain ⟨h, _⟩ := List.getElem?_eq_some_iff.1 hi; exact h
  rcases h with ⟨h1, h2, h3, g, hg, h4⟩ | ⟨h1, _⟩
  · obtain ⟨g, rfl⟩ : ∃ k, g = k + 1 := ⟨g - 1, by omega⟩
    have e := split_at (l := l) h2
    have e0 : l.drop i = 58 :: l.drop (i + 1) := by
      rw [List.drop_eq_getElem_cons hlt]
      rw [List.getElem?_eq_getElem hlt] at hi
      rw [Option.some.inj hi]
    rw [e0] at e
    have c : cut 58 (l.drop st) = ((l.drop st).take (i - st), some (l.drop (i + 1))) := by
      have := cut_app h3 (l.drop (i + 1))
      rw [← e] at this
      exact this
    rw [grpC, c] at h4
    constructor
    · intro hh
      simp only [hh] at h4
      exact h4.symm
    · intro hh
      left
      refine ⟨by omega, by omega, by simp, g, ?_, ?_⟩
      · simp at hg ⊢; omega
      · rw [← h4]
        simp only [hh, if_true, Option.map_map]
        congr 1
        funext x; simp; omega
  · omega
theorem invG_out {l : List Int} {tail : Bool} {R : Option Nat} {i st n : Nat} (h : InvG l tail R i st n) (hi : ¬ i ≤ l.length) : R = some n := by
  rcases h with ⟨h1, _⟩ | ⟨_, h2⟩
  · exact absurd h1 hi
  · exact h2
theorem invG_st {l : List Int} {tail : Bool} {R : Option Nat} {i st n : Nat} (h : InvG l tail R i st n) (hi : i ≤ l.length) : st ≤ i := by
  rcases h with ⟨_, h2, _⟩ | ⟨h1, _⟩
  · exact h2
  · omega
theorem eq_nil_test (s : ByteArray) (h : 0 < s.size) : s.toList.isEmpty = false := by
  rw [ByteArray.toList_eq]
  cases hl : s.data.toList with
  | nil =>
    have : s.data.size = 0 := by rw [← Array.length_toList, hl]; rfl
    have h' : 0 < s.data.size := h
    omega
  | cons a b => rfl

theorem groups_empty (s : ByteArray) (tail : Bool) (h : s.size = 0) (w : World) :
    Calls Try.prog 24 #[.string s, .bool tail] w fun e w' => e = .returned (.tuple #[.int .i64 0, .bool true]) ∧ Below w.heap.size w w' := by
  have he : s.toList.isEmpty = true := by
    rw [ByteArray.toList_eq]
    have : s.data.size = 0 := h
    have : s.data.toList = [] := List.eq_nil_of_length_eq_zero (by rw [Array.length_toList]; exact this)
    rw [this]; rfl
  go_enter Try.func24, Try.ntmps24
  go_wp2
  go_ret2
  exact ⟨rfl, Below.refl _ _⟩

set_option maxRecDepth 100000 in
set_option maxHeartbeats 6400000 in
theorem groups_row (s : ByteArray) (tail : Bool) (w : World) (hs : s.size ≤ 1048576) (h0 : 0 < s.size) :
    Calls Try.prog 24 #[.string s, .bool tail] w fun e w' => e = .returned (.tuple #[.int .i64 (resN (groupsG tail (bl s))), .bool (groupsG tail (bl s)).isSome]) ∧ Below w.heap.size w w' := by
  have hne := eq_nil_test s h0
  obtain ⟨R, hR⟩ : ∃ R, R = groupsG tail (bl s) := ⟨_, rfl⟩
  rw [← hR]
  have HL : Hid ((bl s).length = s.size) := bl_length s
  have HI0 : Hid (InvG (bl s) tail R 0 0 0) := by
    left
    refine ⟨by omega, by omega, by simp, (bl s).length + 1, by simp, ?_⟩
    have : bl s ≠ [] := by intro e; have := bl_length s; rw [e] at this; simp at this; omega
    rw [hR, groupsG, if_neg this, List.drop_zero]
    cases grpC ((bl s).length + 1) tail (bl s) <;> rfl
  clear hR
  go_enter Try.func24, Try.ntmps24
  go_wp2_with fail
  go_loopg [6, 7, 8] (s.size + 1) (fun g s6 s7 s8 wx => ∃ (i st n : Nat), i ≤ s.size + 1 ∧ st ≤ s.size + 1 ∧ n ≤ i + 1 ∧ g = s.size + 1 - i ∧ s6 = .int .i64 n ∧ s7 = .int .i64 st ∧ s8 = .int .i64 i ∧ Below w.heap.size w wx ∧ InvG (bl s) tail R i st n ∧ (i ≤ s.size → n ≤ i))
  case atStart => exact ⟨0, 0, 0, by omega, by omega, by omega, rfl, rfl, rfl, rfl, Below.refl _ _, HI0.out, by omega⟩
  case round =>
    obtain ⟨i, st, n, hi, hst, hn, rfl, rfl, rfl, rfl, hbw, hI, hni⟩ := hrel
    have HI : Hid (InvG (bl s) tail R i st n) := hI
    clear hI HI0
    by_cases hil : i ≤ s.size
    · have hilz : (i : Int) ≤ (s.size : Int) := by omega
      have hsti : st ≤ i := invG_st HI.out (by rw [HL.out]; exact hil)
      have hn2 := hni hil
      clear hni hn
      obtain ⟨E, hE⟩ : ∃ E : Bool, E = decide (i = s.size ∨ (bl s)[i]? = some 58) := ⟨_, rfl⟩
      have HE : Hid (E = decide (i = s.size ∨ (bl s)[i]? = some 58)) := hE
      clear hE
      go_upto_region 8 with fail
      go_cut [27] (fun t wc => wr = wc ∧ t = .bool E)
      case first =>
        clear HI
        by_cases hie : i = s.size
        · have hiz : ((i : Int) == (s.size : Int)) = true := by simp [hie]
          have HX : Hid (E = true) := by show _ = _; rw [HE.out]; simp [hie]
          clear hie
          go_wp2
          go_meet
          case rel => exact ⟨rfl, by rw [HX.out]⟩
        · have hiz : ((i : Int) == (s.size : Int)) = false := by simp; omega
          have hlt : i < s.size := by omega
          have hltz : (i : Int) < (s.size : Int) := by omega
          obtain ⟨x, hx⟩ : ∃ x : UInt8, s[i] = x := ⟨_, rfl⟩
          have HX : Hid (E = ((x.toNat : Int) == 58)) := by
            show _ = _
            rw [HE.out, bl_at s i hlt x hx, Bool.eq_iff_iff]; simp [hie]
          go_wp2
          go_meet
          case rel => exact ⟨rfl, by rw [HX.out]⟩
      case rest =>
        obtain ⟨rfl, rfl⟩ := hcut
        by_cases he : i = s.size ∨ (bl s)[i]? = some 58
        · have hd : E = true := by rw [HE.out]; simp [he]
          subst hd
          clear HE
          have hF : bl (s.extract st i) = ((bl s).drop st).take (i - st) := bl_extract s st i
          have hFs : (s.extract st i).size ≤ 1048576 := by rw [← bl_length, hF]; simp [HL.out]; omega
          obtain ⟨Hb, hHb⟩ : ∃ Hb : Bool, Hb = h16 (((bl s).drop st).take (i - st)) := ⟨_, rfl⟩
          have C28 : Hid (∀ w, Calls Try.prog 28 #[.string (s.extract st i)] w fun e w' => e = .returned (.bool Hb) ∧ w = w') := by
            intro w; rw [hHb, ← hF]; exact h16_any _ w (by unfold maxLen; omega)
          have hstz : (st : Int) ≤ (i : Int) := by omega
          by_cases hie : i = s.size
          · have hiz : ((i : Int) == (s.size : Int)) = true := by simp [hie]
            have hRe := invG_end HI.out (by rw [HL.out]; exact hie)
            obtain ⟨D, hD⟩ : ∃ D : Bool, D = hasDot (((bl s).drop st).take (i - st)) := ⟨_, rfl⟩
            have C17 : Hid (∀ w, Calls Try.prog 17 #[.string (s.extract st i)] w fun e w' => e = .returned (.bool D) ∧ w = w') := by
              intro w; rw [hD, ← hF]; exact hasdot_any _ w (by unfold maxLen; omega)
            obtain ⟨Qb, hQb⟩ : ∃ Qb : Bool, Qb = dotted (((bl s).drop st).take (i - st)) := ⟨_, rfl⟩
            have C20 : Hid (∀ w, Calls Try.prog 20 #[.string (s.extract st i)] w fun e w' => e = .returned (.bool Qb) ∧ Below w.heap.size w w') := by
              intro w; rw [hQb, ← hF]; exact dotm_any _ w hFs
            rw [← hD, ← hQb, ← hHb] at hRe
            have HRe : Hid (R = if (tail && D) = true then (if Qb = true then some (n + 2) else none) else if Hb = true then some (n + 1) else none) := hRe
            clear hRe hD hQb hHb HI hF he
            have inv1 : ∀ m, R = some m → InvG (bl s) tail R (i + 1) (i + 1) m := fun m hm => .inr ⟨by rw [HL.out]; omega, hm⟩
            have INV1 : Hid (∀ m, R = some m → InvG (bl s) tail R (i + 1) (i + 1) m) := inv1
            clear inv1
            have hgt : ¬ i + 1 ≤ s.size := by omega
            clear hie
            cases tail
            · cases Hb
              · have HX : Hid (R = none) := by show _ = _; rw [HRe.out]; rfl
                go_wp2_with (go_at_call 28; refine (C28.out _).mono ?_; rintro e w' ⟨rfl, rfl⟩)
                go_ret2
                exact ⟨by rw [HX.out]; rfl, hbw⟩
              · have HX : Hid (InvG (bl s) false R (i + 1) (i + 1) (n + 1)) := INV1.out _ (by rw [HRe.out]; rfl)
                go_wp2_with (go_at_call 28; refine (C28.out _).mono ?_; rintro e w' ⟨rfl, rfl⟩)
                go_roundg (s.size + 1 - (i + 1))
                case measure => omega
                case rel => exact ⟨i + 1, i + 1, n + 1, by omega, by omega, by omega, rfl, by go_num, by go_num, by go_num, hbw, HX.out, fun h => absurd h hgt⟩
            · cases D
              · cases Hb
                · have HX : Hid (R = none) := by show _ = _; rw [HRe.out]; rfl
                  go_wp2_with (first | (go_at_call 28; refine (C28.out _).mono ?_; rintro e w' ⟨rfl, rfl⟩) | (go_at_call 17; refine (C17.out _).mono ?_; rintro e w' ⟨rfl, rfl⟩))
                  go_ret2
                  exact ⟨by rw [HX.out]; rfl, hbw⟩
                · have HX : Hid (InvG (bl s) true R (i + 1) (i + 1) (n + 1)) := INV1.out _ (by rw [HRe.out]; rfl)
                  go_wp2_with (first | (go_at_call 28; refine (C28.out _).mono ?_; rintro e w' ⟨rfl, rfl⟩) | (go_at_call 17; refine (C17.out _).mono ?_; rintro e w' ⟨rfl, rfl⟩))
                  go_roundg (s.size + 1 - (i + 1))
                  case measure => omega
                  case rel => exact ⟨i + 1, i + 1, n + 1, by omega, by omega, by omega, rfl, by go_num, by go_num, by go_num, hbw, HX.out, fun h => absurd h hgt⟩
              · cases Qb
                · have HX : Hid (R = none) := by show _ = _; rw [HRe.out]; rfl
                  go_wp2_with (first | (go_at_call 20; refine (C20.out _).mono ?_; rintro e w1 ⟨rfl, hb1⟩) | (go_at_call 17; refine (C17.out _).mono ?_; rintro e w' ⟨rfl, rfl⟩))
                  go_ret2
                  exact ⟨by rw [HX.out]; rfl, hbw.trans (hb1.mono hbw.size)⟩
                · have HX : Hid (InvG (bl s) true R (i + 1) (i + 1) (n + 2)) := INV1.out _ (by rw [HRe.out]; rfl)
                  go_wp2_with (first | (go_at_call 20; refine (C20.out _).mono ?_; rintro e w1 ⟨rfl, hb1⟩) | (go_at_call 17; refine (C17.out _).mono ?_; rintro e w' ⟨rfl, rfl⟩))
                  go_roundg (s.size + 1 - (i + 1))
                  case measure => omega
                  case rel => exact ⟨i + 1, i + 1, n + 2, by omega, by omega, by omega, rfl, by go_num, by go_num, by go_num, hbw.trans (hb1.mono hbw.size), HX.out, fun h => absurd h hgt⟩
          · have hiz : ((i : Int) == (s.size : Int)) = false := by simp; omega
            have hlt : i < s.size := by omega
            obtain ⟨q1, q2⟩ := invG_colon HI.out (he.resolve_left hie)
            rw [← hHb] at q1 q2
            clear hHb HI hF he hie
            cases Hb
            · have HX : Hid (R = none) := q1 rfl
              clear q1 q2
              go_wp2_with (go_at_call 28; refine (C28.out _).mono ?_; rintro e w' ⟨rfl, rfl⟩)
              go_ret2
              exact ⟨by rw [HX.out]; rfl, hbw⟩
            · have HX : Hid (InvG (bl s) tail R (i + 1) (i + 1) (n + 1)) := q2 rfl
              clear q1 q2
              go_wp2_with (go_at_call 28; refine (C28.out _).mono ?_; rintro e w' ⟨rfl, rfl⟩)
              go_roundg (s.size + 1 - (i + 1))
              case measure => omega
              case rel => exact ⟨i + 1, i + 1, n + 1, by omega, by omega, by omega, rfl, by go_num, by go_num, by go_num, hbw, HX.out, by omega⟩
        · have hd : E = false := by rw [HE.out]; simp [he]
          subst hd
          have HX : Hid (InvG (bl s) tail R (i + 1) st n) := invG_more HI.out (by rw [HL.out]; omega) (fun h => he (.inr h))
          have hlt : i < s.size := by omega
          clear HE HI he
          go_wp2
          go_roundg (s.size + 1 - (i + 1))
          case measure => omega
          case rel => exact ⟨i + 1, st, n, by omega, hst, by omega, rfl, rfl, rfl, by go_num, hbw, HX.out, by omega⟩
    · have hilz : ¬ (i : Int) ≤ (s.size : Int) := by omega
      have HX : Hid (R = some n) := invG_out HI.out (by rw [HL.out]; exact hil)
      go_wp2
      go_ret2
      exact ⟨by rw [HX.out]; rfl, hbw⟩

/-- 'zzB1Groups' -/
theorem groups_any (s : ByteArray) (tail : Bool) (w : World) (hs : s.size ≤ 1048576) :
    Calls Try.prog 24 #[.string s, .bool tail] w fun e w' => e = .returned (.tuple #[.int .i64 (resN (groupsG tail (bl s))), .bool (groupsG tail (bl s)).isSome]) ∧ Below w.heap.size w w' := by
  by_cases h0 : s.size = 0
  · have e : groupsG tail (bl s) = some 0 := by
      have : bl s = [] := List.eq_nil_of_length_eq_zero (by rw [bl_length]; exact h0)
      rw [this]; rfl
    rw [e]
    exact groups_empty s tail h0 w
  · exact groups_row s tail w hs (by omega)
end Go.Proofs.Qxb6602093a
