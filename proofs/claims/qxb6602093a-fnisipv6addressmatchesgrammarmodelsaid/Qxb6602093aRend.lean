/-
  THE PLAIN LAWS OF THE SEAT b6602093a, THIRD PART: no Go in sight: every rendered address is read.
-/
import Derived.Test.Qxb6602093aSix
namespace Go.Proofs.Qxb6602093a.Plain

/-- groups parted by colons -/
def joinC : List (List Int) → List Int
  | [] => []
  | [h] => h
  | h :: t => h ++ 58 :: joinC t
theorem joinC_cons {h : List Int} {t : List (List Int)} (ht : t ≠ []) : joinC (h :: t) = h ++ 58 :: joinC t := by
  cases t with
  | nil => exact absurd rfl ht
  | cons a b => rfl
theorem joinC_snoc {h : List Int} : ∀ {hs : List (List Int)}, hs ≠ [] → joinC (hs ++ [h]) = joinC hs ++ 58 :: h := by
  intro hs
  induction hs with
  | nil => intro e; exact absurd rfl e
  | cons a t ih =>
    intro _
    cases t with
    | nil => rfl
    | cons b u =>
      rw [List.cons_append, joinC_cons (by simp), joinC_cons (by simp), ih (by simp)]
      simp
theorem joinC_ne {hs : List (List Int)} (hne : hs ≠ []) (hh : ∀ h ∈ hs, h ≠ []) : joinC hs ≠ [] := by
  cases hs with
  | nil => exact absurd rfl hne
  | cons a t =>
    have ha := hh a (by simp)
    cases t with
    | nil => exact ha
    | cons b u => rw [joinC_cons (by simp)]; simp
theorem hx_ne {h : List Int} (hh : Hx h) : h ≠ [] := by
  intro e; subst e; have := hh.1; simp at this

/-- groups alone -/
theorem read_groups : ∀ (hs : List (List Int)), hs ≠ [] → (∀ h ∈ hs, Hx h) → ∀ (f p : Nat) (c : Bool), (joinC hs).length ≤ f → p ≤ 8 →
    ip6F f p c (joinC hs) = (decide (p + hs.length ≤ 8) && (c || decide (p + hs.length = 8))) := by
  intro hs
  induction hs with
  | nil => intro e; exact absurd rfl e
  | cons h t ih =>
    intro _ hh f p c hf hp
    have hx := hh h (by simp)
    have hne := joinC_ne (hs := h :: t) (by simp) (fun a ha => hx_ne (hh a ha))
    by_cases hp8 : p = 8
    · subst hp8
      rw [ip6F_full c hne hf]
      have e : decide (8 + (h :: t).length ≤ 8) = false := decide_eq_false (by simp only [List.length_cons]; omega)
      rw [e]; rfl
    · obtain ⟨f, rfl⟩ : ∃ g, f = g + 1 := by
        cases f with
        | zero => exact absurd (List.eq_nil_of_length_eq_zero (by omega)) hne
        | succ g => exact ⟨g, rfl⟩
      cases t with
      | nil =>
        show ip6F (f + 1) p c h = _
        rw [step_end hx hp8]
        have : decide (p + [h].length ≤ 8) = true := by simp; omega
        rw [this]; simp
      | cons b u =>
        have hne2 := joinC_ne (hs := b :: u) (by simp) (fun a ha => hx_ne (hh a (by simp [ha])))
        rw [joinC_cons (by simp), step_colon hx hne2 hp8]
        rw [joinC_cons (by simp)] at hf
        rw [ih (by simp) (fun a ha => hh a (by simp [ha])) f (p + 1) c (by simp at hf; omega) (by omega)]
        have e : p + 1 + (b :: u).length = p + (h :: b :: u).length := by simp; omega
        rw [e]

/-- groups, then a field that goes on with a dot -/
theorem read_tail (h t : List Int) (hx : Hx h) : ∀ (hs : List (List Int)), (∀ h ∈ hs, Hx h) → ∀ (f p : Nat) (c : Bool), (joinC (hs ++ [h ++ 46 :: t])).length ≤ f → p ≤ 8 → p + hs.length ≤ 6 →
    ip6F f p c (joinC (hs ++ [h ++ 46 :: t])) = (dotted (h ++ 46 :: t) && (c || decide (p + hs.length + 2 = 8))) := by
  intro hs
  induction hs with
  | nil =>
    intro _ f p c hf hp h6
    show ip6F f p c (h ++ 46 :: t) = _
    obtain ⟨f, rfl⟩ : ∃ g, f = g + 1 := by
      cases f with
      | zero => have : (h ++ 46 :: t).length ≤ 0 := hf
                simp at this
      | succ g => exact ⟨g, rfl⟩
    rw [step_dot hx (by simpa using h6)]
    rfl
  | cons a u ih =>
    intro hh f p c hf hp h6
    have ha := hh a (by simp)
    rw [List.cons_append, joinC_cons (by simp)] at hf ⊢
    obtain ⟨f, rfl⟩ : ∃ g, f = g + 1 := by
      cases f with
      | zero => simp at hf
      | succ g => exact ⟨g, rfl⟩
    have hne : joinC (u ++ [h ++ 46 :: t]) ≠ [] := joinC_ne (by simp) (by
      intro b hb
      simp at hb
      rcases hb with hb | rfl
      · exact hx_ne (hh b (by simp [hb]))
      · simp)
    simp at h6
    rw [step_colon ha hne (by omega), ih (fun b hb => hh b (by simp [hb])) f (p + 1) c (by simp at hf; omega) (by omega) (by omega)]
    have e : p + 1 + u.length = p + (a :: u).length := by simp; omega
    rw [e]

/-- groups, then a double colon -/
theorem read_mark (rest : List Int) : ∀ (hs : List (List Int)), hs ≠ [] → (∀ h ∈ hs, Hx h) → ∀ (f p : Nat), (joinC hs ++ 58 :: 58 :: rest).length ≤ f → p + hs.length < 8 →
    ∃ f', rest.length ≤ f' ∧ ip6F f p false (joinC hs ++ 58 :: 58 :: rest) = ip6F f' (p + hs.length + 1) true rest := by
  intro hs
  induction hs with
  | nil => intro e; exact absurd rfl e
  | cons h t ih =>
    intro _ hh f p hf hp
    have hx := hh h (by simp)
    simp only [List.length_cons] at hp
    cases t with
    | nil =>
      change (h ++ 58 :: 58 :: rest).length ≤ f at hf
      obtain ⟨f, rfl⟩ : ∃ g, f = g + 2 := ⟨f - 2, by simp at hf; omega⟩
      refine ⟨f, by simp at hf; omega, ?_⟩
      show ip6F (f + 2) p false (h ++ 58 :: 58 :: rest) = _
      rw [step_colon hx (by simp) (by simp at hp; omega), ip6F_colon (by simp at hp; omega)]
      rfl
    | cons b u =>
      rw [joinC_cons (by simp)] at hf ⊢
      obtain ⟨f, rfl⟩ : ∃ g, f = g + 1 := ⟨f - 1, by simp at hf; omega⟩
      have e0 : h ++ 58 :: joinC (b :: u) ++ 58 :: 58 :: rest = h ++ 58 :: (joinC (b :: u) ++ 58 :: 58 :: rest) := by simp
      rw [e0] at hf ⊢
      obtain ⟨f', hf', e⟩ := ih (by simp) (fun a ha => hh a (by simp [ha])) f (p + 1) (by simp at hf ⊢; omega) (by simp at hp ⊢; omega)
      refine ⟨f', hf', ?_⟩
      rw [step_colon hx (by simp) (by omega), e]
      have e : p + 1 + (b :: u).length + 1 = p + (h :: b :: u).length + 1 := by simp; omega
      rw [e]

/-- an address whose first group is none of a colon's -/
theorem six_open {x : Int} {r : List Int} (hx : x ≠ 58) : six (x :: r) = ip6F (x :: r).length 0 false (x :: r) := by
  unfold six
  split
  · rename_i h; cases h; exact absurd rfl hx
  · rename_i h; cases h; exact absurd rfl hx
  · rfl
theorem six_join {hs : List (List Int)} (hne : hs ≠ []) (hh : ∀ h ∈ hs, Hx h) (t : List Int) : six (joinC hs ++ t) = ip6F (joinC hs ++ t).length 0 false (joinC hs ++ t) := by
  cases hs with
  | nil => exact absurd rfl hne
  | cons h u =>
    obtain ⟨x, r, e, hx⟩ := hx_cons (hh h (by simp))
    cases u with
    | nil =>
      show six (h ++ t) = ip6F (h ++ t).length 0 false (h ++ t)
      rw [e]; exact six_open hx
    | cons b v => rw [joinC_cons (by simp), e]; exact six_open hx

/-- an address with a double colon: what is left is read with one piece more -/
theorem six_mark (hs : List (List Int)) (hh : ∀ h ∈ hs, Hx h) (rest : List Int) (hl : hs.length < 8) :
    ∃ f', rest.length ≤ f' ∧ six (joinC hs ++ 58 :: 58 :: rest) = ip6F f' (hs.length + 1) true rest := by
  cases hs with
  | nil => exact ⟨rest.length, Nat.le_refl _, rfl⟩
  | cons h u =>
    obtain ⟨f', hf', e⟩ := read_mark rest (h :: u) (by simp) hh (joinC (h :: u) ++ 58 :: 58 :: rest).length 0 (Nat.le_refl _) (by omega)
    refine ⟨f', hf', ?_⟩
    rw [six_join (by simp) hh, e, Nat.zero_add]

/-! ### the renderer -/
/-- one round: what has been written, and whether a mark stands at its end -/
def rstep (zS zL : Nat) (H : Nat → List Int) (k : Nat) (st : List Int × Bool) : List Int × Bool :=
  if 0 < zL ∧ zS ≤ k ∧ k < zS + zL then (if k = zS then (st.1 ++ [58, 58], true) else st)
  else ((if st.2 = true then st.1 else st.1 ++ [58]) ++ H k, false)
def rend (zS zL : Nat) (H : Nat → List Int) : Nat → List Int × Bool
  | 0 => ([], true)
  | k + 1 => rstep zS zL H k (rend zS zL H k)
theorem rend_congr {zS zL : Nat} {H H' : Nat → List Int} : ∀ {k : Nat}, (∀ j, j < k → H j = H' j) → rend zS zL H k = rend zS zL H' k := by
  intro k
  induction k with
  | zero => intro _; rfl
  | succ k ih => intro h; simp only [rend, rstep]; rw [ih (fun j hj => h j (by omega)), h k (by omega)]

/-- n groups from a on -/
def grp (H : Nat → List Int) (a n : Nat) : List (List Int) := (List.range' a n).map H
theorem grp_succ (H : Nat → List Int) (a n : Nat) : grp H a (n + 1) = grp H a n ++ [H (a + n)] := by
  simp [grp, List.range'_1_concat]
theorem grp_length (H : Nat → List Int) (a n : Nat) : (grp H a n).length = n := by simp [grp]
theorem grp_hx {H : Nat → List Int} {a n : Nat} (h : ∀ k, a ≤ k → k < a + n → Hx (H k)) : ∀ x ∈ grp H a n, Hx x := by
  intro x hx
  simp only [grp, List.mem_map, List.mem_range'_1] at hx
  obtain ⟨k, hk, rfl⟩ := hx
  exact h k hk.1 hk.2
theorem grp_ne {H : Nat → List Int} {a n : Nat} (h : 0 < n) : grp H a n ≠ [] := by
  intro e; have := grp_length H a n; rw [e] at this; simp at this; omega
theorem join_grp_succ (H : Nat → List Int) (a n : Nat) : joinC (grp H a (n + 1)) = (if n = 0 then joinC (grp H a n) else joinC (grp H a n) ++ [58]) ++ H (a + n) := by
  rw [grp_succ]
  by_cases h : n = 0
  · subst h; simp [grp, joinC]
  · rw [joinC_snoc (grp_ne (by omega)), if_neg h]; simp

theorem rend_plain (zS zL : Nat) (H : Nat → List Int) : ∀ k, (k ≤ zS ∨ zL = 0) → rend zS zL H k = (joinC (grp H 0 k), decide (k = 0)) := by
  intro k
  induction k with
  | zero => intro _; rfl
  | succ k ih =>
    intro h
    rw [rend, ih (by omega), rstep, if_neg (by omega), join_grp_succ]
    simp
theorem rend_zone (zS zL : Nat) (H : Nat → List Int) (hz : 0 < zL) : ∀ k, zS < k → k ≤ zS + zL → rend zS zL H k = (joinC (grp H 0 zS) ++ 58 :: 58 :: joinC (grp H (zS + zL) 0), true) := by
  intro k
  induction k with
  | zero => intro h; omega
  | succ k ih =>
    intro h1 h2
    by_cases hk : k = zS
    · subst hk
      rw [rend, rend_plain k zL H k (.inl (Nat.le_refl _)), rstep, if_pos ⟨hz, by omega, by omega⟩, if_pos rfl]
      simp [grp, joinC]
    · rw [rend, ih (by omega) (by omega), rstep, if_pos ⟨hz, by omega, by omega⟩, if_neg hk]
theorem rend_rest (zS zL : Nat) (H : Nat → List Int) (hz : 0 < zL) : ∀ n, rend zS zL H (zS + zL + n) = (joinC (grp H 0 zS) ++ 58 :: 58 :: joinC (grp H (zS + zL) n), decide (n = 0)) := by
  intro n
  induction n with
  | zero => exact rend_zone zS zL H hz _ (by omega) (by omega)
  | succ n ih =>
    have e : zS + zL + (n + 1) = (zS + zL + n) + 1 := by omega
    rw [e, rend, ih, rstep, if_neg (by omega), join_grp_succ]
    by_cases h : n = 0
    · subst h; simp
    · simp [h]

theorem hx_zero : Hx [48] := ⟨by simp, by simp, by intro c hc; simp at hc; subst hc; decide⟩

/-- THE LAW, groups alone -/
theorem law_groups (zS zL : Nat) (hz : zS + zL ≤ 8) (H : Nat → List Int) (hH : ∀ k, k < 8 → zS ≤ k ∧ k < zS + zL ∨ Hx (H k)) :
    six (rend zS zL H 8).1 = true ∧ six ((rend zS zL H 8).1 ++ [58, 48]) = decide (2 ≤ zL ∧ zS + zL < 8) := by
  by_cases h0 : zL = 0
  · have hg : ∀ x ∈ grp H 0 8, Hx x := grp_hx (fun k _ h => (hH k (by omega)).resolve_left (by omega))
    rw [rend_plain zS zL H 8 (.inr h0)]
    constructor
    · have := six_join (grp_ne (H := H) (a := 0) (n := 8) (by omega)) hg []
      rw [List.append_nil] at this
      show six (joinC (grp H 0 8)) = true
      rw [this, read_groups _ (grp_ne (by omega)) hg _ _ _ (Nat.le_refl _) (by omega), grp_length]; rfl
    · show six (joinC (grp H 0 8) ++ [58, 48]) = _
      rw [six_join (grp_ne (by omega)) hg]
      have e : joinC (grp H 0 8) ++ [58, 48] = joinC (grp H 0 8 ++ [[48]]) := (joinC_snoc (grp_ne (by omega))).symm
      rw [e, read_groups _ (by simp) (by intro x hx; simp at hx; rcases hx with hx | rfl; exact hg x hx; exact hx_zero) _ _ _ (Nat.le_refl _) (by omega)]
      have : decide (2 ≤ zL ∧ zS + zL < 8) = false := decide_eq_false (by omega)
      rw [this]
      simp [grp_length]
  · have h0' : 0 < zL := by omega
    obtain ⟨n, hn⟩ : ∃ n, zS + zL + n = 8 := ⟨8 - zS - zL, by omega⟩
    have hpre : ∀ x ∈ grp H 0 zS, Hx x := grp_hx (fun k _ h => (hH k (by omega)).resolve_left (by omega))
    have hpost : ∀ x ∈ grp H (zS + zL) n, Hx x := grp_hx (fun k _ h => (hH k (by omega)).resolve_left (by omega))
    rw [← hn, rend_rest zS zL H h0' n]
    constructor
    · obtain ⟨f', hf', e⟩ := six_mark (grp H 0 zS) hpre (joinC (grp H (zS + zL) n)) (by rw [grp_length]; omega)
      show six (joinC (grp H 0 zS) ++ 58 :: 58 :: joinC (grp H (zS + zL) n)) = true
      rw [e, grp_length]
      by_cases hn0 : n = 0
      · subst hn0
        show ip6F f' (zS + 1) true [] = true
        rw [ip6F_nil]; rfl
      · rw [read_groups _ (grp_ne (by omega)) hpost _ _ _ hf' (by omega), grp_length]
        have : decide (zS + 1 + n ≤ 8) = true := decide_eq_true (by omega)
        rw [this]; rfl
    · obtain ⟨f', hf', e⟩ := six_mark (grp H 0 zS) hpre (joinC (grp H (zS + zL) n) ++ [58, 48]) (by rw [grp_length]; omega)
      show six (joinC (grp H 0 zS) ++ 58 :: 58 :: joinC (grp H (zS + zL) n) ++ [58, 48]) = _
      have e0 : joinC (grp H 0 zS) ++ 58 :: 58 :: joinC (grp H (zS + zL) n) ++ [58, 48] = joinC (grp H 0 zS) ++ 58 :: 58 :: (joinC (grp H (zS + zL) n) ++ [58, 48]) := by simp
      rw [e0, e, grp_length]
      by_cases hn0 : n = 0
      · subst hn0
        have : decide (2 ≤ zL ∧ zS + zL < zS + zL + 0) = false := decide_eq_false (by omega)
        rw [this]
        obtain ⟨g, rfl⟩ : ∃ g, f' = g + 1 := ⟨f' - 1, by simp [grp, joinC] at hf'; omega⟩
        exact ip6F_colon2
      · have e1 : joinC (grp H (zS + zL) n) ++ [58, 48] = joinC (grp H (zS + zL) n ++ [[48]]) := (joinC_snoc (grp_ne (by omega))).symm
        rw [e1] at hf' ⊢
        rw [read_groups _ (by simp) (by intro x hx; simp at hx; rcases hx with hx | rfl; exact hpost x hx; exact hx_zero) _ _ _ hf' (by omega)]
        simp only [List.length_append, grp_length, List.length_cons, List.length_nil, Bool.true_or, Bool.and_true]
        rw [Bool.eq_iff_iff]; simp; omega

/-- THE LAW, the last two groups as a quad -/
theorem law_tail (zS zL : Nat) (hz : zL = 0 ∨ zS + zL ≤ 6) (H : Nat → List Int) (hH : ∀ k, k < 6 → zS ≤ k ∧ k < zS + zL ∨ Hx (H k)) (h t : List Int) (hx : Hx h) (h6 : H 6 = h ++ 46 :: t) (hd : dotted (h ++ 46 :: t) = true) (hd0 : dotted (h ++ 46 :: (t ++ [58, 48])) = false) :
    six (rend zS zL H 7).1 = true ∧ six ((rend zS zL H 7).1 ++ [58, 48]) = false := by
  by_cases h0 : zL = 0
  · have hg : ∀ x ∈ grp H 0 6, Hx x := grp_hx (fun k _ h => (hH k (by omega)).resolve_left (by omega))
    rw [rend_plain zS zL H 7 (.inr h0)]
    have e7 : grp H 0 7 = grp H 0 6 ++ [h ++ 46 :: t] := by rw [grp_succ]; simp [h6]
    have e8 : joinC (grp H 0 6 ++ [h ++ 46 :: t]) = joinC (grp H 0 6) ++ 58 :: (h ++ 46 :: t) := joinC_snoc (grp_ne (by omega))
    have e9 : joinC (grp H 0 6 ++ [h ++ 46 :: t]) ++ [58, 48] = joinC (grp H 0 6 ++ [h ++ 46 :: (t ++ [58, 48])]) := by rw [e8, joinC_snoc (grp_ne (by omega))]; simp
    show six (joinC (grp H 0 7)) = true ∧ six (joinC (grp H 0 7) ++ [58, 48]) = false
    rw [e7]
    constructor
    · have s6 := six_join (grp_ne (H := H) (a := 0) (n := 6) (by omega)) hg (58 :: (h ++ 46 :: t))
      rw [← e8] at s6
      rw [s6, read_tail h t hx _ hg _ _ _ (Nat.le_refl _) (by omega) (by rw [grp_length]; omega), hd, grp_length]; rfl
    · rw [e9]
      have e8' : joinC (grp H 0 6 ++ [h ++ 46 :: (t ++ [58, 48])]) = joinC (grp H 0 6) ++ 58 :: (h ++ 46 :: (t ++ [58, 48])) := joinC_snoc (grp_ne (by omega))
      have s6 := six_join (grp_ne (H := H) (a := 0) (n := 6) (by omega)) hg (58 :: (h ++ 46 :: (t ++ [58, 48])))
      rw [← e8'] at s6
      rw [s6, read_tail h _ hx _ hg _ _ _ (Nat.le_refl _) (by omega) (by rw [grp_length]; omega), hd0]; rfl
  · have h0' : 0 < zL := by omega
    obtain ⟨n, hn⟩ : ∃ n, zS + zL + n = 6 := ⟨6 - zS - zL, by omega⟩
    have hpre : ∀ x ∈ grp H 0 zS, Hx x := grp_hx (fun k _ h => (hH k (by omega)).resolve_left (by omega))
    have hpost : ∀ x ∈ grp H (zS + zL) n, Hx x := grp_hx (fun k _ h => (hH k (by omega)).resolve_left (by omega))
    have e7 : 7 = zS + zL + (n + 1) := by omega
    have eg : grp H (zS + zL) (n + 1) = grp H (zS + zL) n ++ [h ++ 46 :: t] := by rw [grp_succ, hn, h6]
    have ej : joinC (grp H (zS + zL) n ++ [h ++ 46 :: t]) ++ [58, 48] = joinC (grp H (zS + zL) n ++ [h ++ 46 :: (t ++ [58, 48])]) := by
      by_cases hn0 : n = 0
      · subst hn0; simp [grp, joinC]
      · rw [joinC_snoc (grp_ne (by omega)), joinC_snoc (grp_ne (by omega))]; simp
    rw [e7, rend_rest zS zL H h0' (n + 1), eg]
    constructor
    · obtain ⟨f', hf', e⟩ := six_mark (grp H 0 zS) hpre (joinC (grp H (zS + zL) n ++ [h ++ 46 :: t])) (by rw [grp_length]; omega)
      show six (joinC (grp H 0 zS) ++ 58 :: 58 :: joinC (grp H (zS + zL) n ++ [h ++ 46 :: t])) = true
      rw [e, grp_length, read_tail h t hx _ hpost _ _ _ hf' (by omega) (by rw [grp_length]; omega), hd]; rfl
    · obtain ⟨f', hf', e⟩ := six_mark (grp H 0 zS) hpre (joinC (grp H (zS + zL) n ++ [h ++ 46 :: (t ++ [58, 48])])) (by rw [grp_length]; omega)
      show six (joinC (grp H 0 zS) ++ 58 :: 58 :: joinC (grp H (zS + zL) n ++ [h ++ 46 :: t]) ++ [58, 48]) = _
      have e0 : joinC (grp H 0 zS) ++ 58 :: 58 :: joinC (grp H (zS + zL) n ++ [h ++ 46 :: t]) ++ [58, 48] = joinC (grp H 0 zS) ++ 58 :: 58 :: (joinC (grp H (zS + zL) n ++ [h ++ 46 :: t]) ++ [58, 48]) := by simp
      rw [e0, ej, e, grp_length, read_tail h _ hx _ hpost _ _ _ hf' (by omega) (by rw [grp_length]; omega), hd0]; rfl

/-! ### a quad's text as such a tail -/
theorem ok_utoa' {n : Nat} (h : n < 256) {y : List Int} (hy : y = [] ∨ ∃ c r, y = c :: r ∧ isd c = false) : oct (utoa n ++ y) = some y := by
  have he := fun f s0 m => octL_end f s0 m hy
  unfold utoa
  split
  · show oct ((48 + (n : Int)) :: y) = some y
    rw [oct, if_pos (dig_isd (by omega)), octL_dig _ (dig_isd (by omega)) (by simp) (by omega), he]
  · split
    · show oct ((48 + ((n / 10 : Nat) : Int)) :: (48 + ((n % 10 : Nat) : Int)) :: y) = some y
      rw [oct, if_pos (dig_isd (by omega)), octL_dig _ (dig_isd (by omega)) (by simp) (by omega), octL_dig _ (dig_isd (by omega)) (by omega) (by omega), he]
    · show oct ((48 + ((n / 100 : Nat) : Int)) :: (48 + ((n / 10 % 10 : Nat) : Int)) :: (48 + ((n % 10 : Nat) : Int)) :: y) = some y
      rw [oct, if_pos (dig_isd (by omega)), octL_dig _ (dig_isd (by omega)) (by simp) (by omega), octL_dig _ (dig_isd (by omega)) (by omega) (by omega), octL_dig _ (dig_isd (by omega)) (by omega) (by omega), he]
theorem hx_utoa {n : Nat} (h : n < 1000) : Hx (utoa n) := by
  unfold utoa
  split
  · exact ⟨by simp, by simp, by intro c hc; simp at hc; subst hc; exact isd_ish (dig_isd (by omega))⟩
  · split
    · refine ⟨by simp, by simp, ?_⟩
      intro c hc; simp only [List.mem_cons, List.not_mem_nil, or_false] at hc
      rcases hc with rfl | rfl <;> exact isd_ish (dig_isd (by omega))
    · refine ⟨by simp, by simp, ?_⟩
      intro c hc; simp only [List.mem_cons, List.not_mem_nil, or_false] at hc
      rcases hc with rfl | rfl | rfl <;> exact isd_ish (dig_isd (by omega))
theorem quad_colon {a b c d : Nat} (ha : a < 256) (hb : b < 256) (hc : c < 256) (hd : d < 256) (r : List Int) : dotted (join4 (utoa a) (utoa b) (utoa c) (utoa d) ++ 58 :: r) = false := by
  have e : join4 (utoa a) (utoa b) (utoa c) (utoa d) ++ 58 :: r = utoa a ++ 46 :: (utoa b ++ 46 :: (utoa c ++ 46 :: (utoa d ++ 58 :: r))) := by simp [join4]
  rw [e, dotted_ok (ok_utoa ha) (ends_dot _), tail_ok (ok_utoa hb) (ends_dot _), tail_ok (ok_utoa hc) (ends_dot _)]
  show (match oct (utoa d ++ 58 :: r) with | some y => tailB 0 y | none => false) = false
  rw [ok_utoa' hd (.inr ⟨58, r, rfl, by decide⟩)]; rfl
end Go.Proofs.Qxb6602093a.Plain
