/-
  THE PLAIN LAWS OF THE SEAT b6601838a: no Go in sight: runs of digits in a list of bytes; a number's reader against its automaton.
-/
namespace Go.Proofs.Qxb6601838a.Plain

/-- a decimal digit's byte -/
def isd (c : Int) : Bool := decide (48 ≤ c) && decide (c ≤ 57)
/-- how many digits a list opens with -/
def run : List Int → Nat
  | [] => 0
  | c :: r => if isd c = true then run r + 1 else 0
/-- the byte at a place; -1 behind the end -/
def byt (zs : List Int) (i : Nat) : Int := zs.getD i (-1)
/-- where the digits that stand at i end -/
def digs (zs : List Int) (i : Nat) : Nat := i + run (zs.drop i)

theorem isd_iff (c : Int) : isd c = true ↔ 48 ≤ c ∧ c ≤ 57 := by simp [isd]
theorem byt_lt {zs : List Int} {i : Nat} (h : i < zs.length) : byt zs i = zs.getD i 0 := by
  simp [byt, h]
theorem byt_ge {zs : List Int} {i : Nat} (h : zs.length ≤ i) : byt zs i = -1 := by
  simp [byt, h]
theorem lt_of_byt {zs : List Int} {i : Nat} (h : byt zs i ≠ -1) : i < zs.length := by
  by_cases g : i < zs.length
  · exact g
  · exact absurd (byt_ge (by omega)) h

theorem digs_step {zs : List Int} {i : Nat} (h : isd (byt zs i) = true) : digs zs i = digs zs (i + 1) := by
  have hl : i < zs.length := lt_of_byt (by intro e; rw [e] at h; simp [isd] at h)
  unfold digs
  rw [List.drop_eq_getElem_cons hl]
  have : isd zs[i] = true := by simpa [byt, hl] using h
  simp [run, this]; omega
theorem digs_stop {zs : List Int} {i : Nat} (h : ¬ isd (byt zs i) = true) : digs zs i = i := by
  unfold digs
  by_cases hl : i < zs.length
  · rw [List.drop_eq_getElem_cons hl]
    have : ¬ isd zs[i] = true := by simpa [byt, hl] using h
    simp [run, this]
  · rw [List.drop_of_length_le (by omega)]; simp [run]
theorem digs_end {zs : List Int} {i : Nat} (h : zs.length ≤ i) : digs zs i = i := digs_stop (by rw [byt_ge h]; simp [isd])
theorem digs_ge (zs : List Int) (i : Nat) : i ≤ digs zs i := by unfold digs; omega
theorem run_le (l : List Int) : run l ≤ l.length := by
  induction l with
  | nil => simp [run]
  | cons c r ih => simp only [run]; split <;> simp <;> omega
theorem digs_le {zs : List Int} {i : Nat} (h : i ≤ zs.length) : digs zs i ≤ zs.length := by
  unfold digs
  have := run_le (zs.drop i)
  simp at this; omega
theorem digs_succ (zs : List Int) (i : Nat) : digs zs i ≤ digs zs (i + 1) := by
  by_cases h : isd (byt zs i) = true
  · rw [digs_step h]; omega
  · rw [digs_stop h]; have := digs_ge zs (i + 1); omega
theorem digs_mono (zs : List Int) {i j : Nat} (h : i ≤ j) : digs zs i ≤ digs zs j := by
  induction j with
  | zero => have : i = 0 := by omega
            subst this; omega
  | succ j ih =>
    by_cases e : i = j + 1
    · subst e; omega
    · exact Nat.le_trans (ih (by omega)) (digs_succ zs j)
theorem digs_not (zs : List Int) (i : Nat) : ¬ isd (byt zs (digs zs i)) = true := by
  intro h
  by_cases hi : i < zs.length
  · -- by the distance to the end
    have key : ∀ n i, zs.length - i = n → ¬ isd (byt zs (digs zs i)) = true := by
      intro n
      induction n with
      | zero => intro i hi; rw [digs_end (by omega), byt_ge (by omega)]; simp [isd]
      | succ n ih =>
        intro i hi
        by_cases g : isd (byt zs i) = true
        · rw [digs_step g]; exact ih (i + 1) (by omega)
        · rw [digs_stop g]; exact g
    exact key _ i rfl h
  · rw [digs_end (by omega), byt_ge (by omega)] at h; simp [isd] at h
theorem digs_idem (zs : List Int) (i : Nat) : digs zs (digs zs i) = digs zs i := digs_stop (digs_not zs i)

/-! ### the number's reader, and its automaton -/
/-- a state's step; -1: none -/
def step (s : Int) (b : Int) : Int :=
  if s = 0 then (if b = 45 then 1 else if b = 48 then 2 else if isd b = true then 3 else -1)
  else if s = 1 then (if b = 48 then 2 else if isd b = true then 3 else -1)
  else if s = 2 then (if b = 46 then 4 else if b = 101 ∨ b = 69 then 6 else -1)
  else if s = 3 then (if isd b = true then 3 else if b = 46 then 4 else if b = 101 ∨ b = 69 then 6 else -1)
  else if s = 4 then (if isd b = true then 5 else -1)
  else if s = 5 then (if isd b = true then 5 else if b = 101 ∨ b = 69 then 6 else -1)
  else if s = 6 then (if b = 43 ∨ b = 45 then 7 else if isd b = true then 8 else -1)
  else if s = 7 then (if isd b = true then 8 else -1)
  else if s = 8 then (if isd b = true then 8 else -1)
  else -1
def acc (s : Int) : Bool := decide (s = 2) || decide (s = 3) || decide (s = 5) || decide (s = 8)
/-- the automaton over a list: its last state, how many bytes it took -/
def dfa : List Int → Int → Int × Nat
  | [], s => (s, 0)
  | c :: r, s => if step s c < 0 then (s, 0) else ((dfa r (step s c)).1, (dfa r (step s c)).2 + 1)
/-- the automaton from a place on: its last state, where it halts -/
def dpos (zs : List Int) (s : Int) (p : Nat) : Int × Nat := ((dfa (zs.drop p) s).1, p + (dfa (zs.drop p) s).2)

theorem step_out (s : Int) : step s (-1) = -1 := by
  unfold step isd; simp
theorem dpos_step (zs : List Int) (s : Int) (p : Nat) :
    dpos zs s p = if step s (byt zs p) < 0 then (s, p) else dpos zs (step s (byt zs p)) (p + 1) := by
  unfold dpos
  by_cases hl : p < zs.length
  · have e : byt zs p = zs[p] := by simp [byt, hl]
    rw [e, List.drop_eq_getElem_cons hl]
    simp only [dfa]
    split
    · simp
    · simp; omega
  · rw [byt_ge (by omega), step_out, List.drop_of_length_le (by omega)]; simp [dfa]
theorem dpos_bound (zs : List Int) : ∀ (s : Int) (p : Nat), p ≤ zs.length → p ≤ (dpos zs s p).2 ∧ (dpos zs s p).2 ≤ zs.length := by
  have key : ∀ l s, (dfa l s).2 ≤ l.length := by
    intro l
    induction l with
    | nil => intro s; simp [dfa]
    | cons c r ih => intro s; simp only [dfa]; split
                     · simp
                     · have := ih (step s c); simp; omega
  intro s p hp
  have := key (zs.drop p) s
  unfold dpos; simp at this ⊢; omega

theorem step_run {s b : Int} (hs : s = 3 ∨ s = 5 ∨ s = 8) (h : isd b = true) : step s b = s := by
  rcases hs with rfl | rfl | rfl <;> simp [step, h]
theorem dpos_run (zs : List Int) {s : Int} (hs : s = 3 ∨ s = 5 ∨ s = 8) : ∀ n p, zs.length - p = n → dpos zs s p = dpos zs s (digs zs p) := by
  intro n
  induction n with
  | zero => intro p hp; rw [digs_end (by omega)]
  | succ n ih =>
    intro p hp
    by_cases g : isd (byt zs p) = true
    · rw [digs_step g, ← ih (p + 1) (by omega), dpos_step, step_run hs g, if_neg (by omega)]
    · rw [digs_stop g]

/-- the number's reader: where it ends, if it is one -/
def exp_ (zs : List Int) (i : Nat) : Option Nat :=
  if byt zs i = 101 ∨ byt zs i = 69 then
    (let k := if byt zs (i + 1) = 43 ∨ byt zs (i + 1) = 45 then i + 1 + 1 else i + 1
     if k < digs zs k then some (digs zs k) else none)
  else some i
def frac (zs : List Int) (i : Nat) : Option Nat :=
  if byt zs i = 46 then (if i + 1 < digs zs (i + 1) then exp_ zs (digs zs (i + 1)) else none) else exp_ zs i
def whole (zs : List Int) (i : Nat) : Option Nat :=
  if byt zs i = 48 then frac zs (i + 1)
  else if 49 ≤ byt zs i ∧ byt zs i ≤ 57 then frac zs (digs zs (i + 1))
  else none
def num (zs : List Int) (i : Nat) : Option Nat := if byt zs i = 45 then whole zs (i + 1) else whole zs i

/-- what the automaton's halt says -/
def said (q : Int × Nat) : Option Nat := if acc q.1 = true then some q.2 else none

theorem lt_digs (zs : List Int) (i : Nat) : i < digs zs i ↔ isd (byt zs i) = true := by
  constructor
  · intro h
    apply Classical.byContradiction
    intro g
    rw [digs_stop g] at h; omega
  · intro h; rw [digs_step h]; have := digs_ge zs (i + 1); omega

/-- 8: in the exponent -/
theorem at8 (zs : List Int) (p : Nat) : said (dpos zs 8 p) = some (digs zs p) := by
  rw [dpos_run zs (.inr (.inr rfl)) _ p rfl, dpos_step]
  have h := digs_not zs p
  rw [if_pos (by simp [step, h])]
  simp [said, acc]
/-- 7: behind the exponent's sign -/
theorem at7 (zs : List Int) (p : Nat) : said (dpos zs 7 p) = if p < digs zs p then some (digs zs p) else none := by
  rw [dpos_step]
  by_cases h : isd (byt zs p) = true
  · have e : step 7 (byt zs p) = 8 := by simp [step, h]
    rw [e, if_neg (by omega), at8, if_pos ((lt_digs zs p).2 h), digs_step h]
  · have e : step 7 (byt zs p) = -1 := by simp [step, h]
    rw [e, if_pos (by omega), if_neg (by rw [lt_digs]; exact h)]; simp [said, acc]
/-- 6: behind the 'e' -/
theorem at6 (zs : List Int) (p : Nat) : said (dpos zs 6 p) =
    (let k := if byt zs p = 43 ∨ byt zs p = 45 then p + 1 else p
     if k < digs zs k then some (digs zs k) else none) := by
  rw [dpos_step]
  by_cases hs : byt zs p = 43 ∨ byt zs p = 45
  · have e : step 6 (byt zs p) = 7 := by simp [step, hs]
    rw [e, if_neg (by omega), at7]; simp only [hs, if_true]
  · simp only [hs, if_false]
    by_cases h : isd (byt zs p) = true
    · have e : step 6 (byt zs p) = 8 := by simp [step, hs, h]
      rw [e, if_neg (by omega), at8, if_pos ((lt_digs zs p).2 h), digs_step h]
    · have e : step 6 (byt zs p) = -1 := by simp [step, hs, h]
      rw [e, if_pos (by omega), if_neg (by rw [lt_digs]; exact h)]; simp [said, acc]
theorem isd_e {b : Int} (h : b = 101 ∨ b = 69) : isd b = false := by rcases h with rfl | rfl <;> decide
/-- 5: in the fraction -/
theorem at5 (zs : List Int) (p : Nat) : said (dpos zs 5 p) = exp_ zs (digs zs p) := by
  rw [dpos_run zs (.inr (.inl rfl)) _ p rfl, dpos_step]
  have h := digs_not zs p
  unfold exp_
  by_cases he : byt zs (digs zs p) = 101 ∨ byt zs (digs zs p) = 69
  · have e : step 5 (byt zs (digs zs p)) = 6 := by simp [step, isd_e he, he]
    rw [e, if_neg (by omega), at6, if_pos he]
  · have e : step 5 (byt zs (digs zs p)) = -1 := by simp [step, h, he]
    rw [e, if_pos (by omega), if_neg he]; simp [said, acc]
/-- 4: behind the '.' -/
theorem at4 (zs : List Int) (p : Nat) : said (dpos zs 4 p) = if p < digs zs p then exp_ zs (digs zs p) else none := by
  rw [dpos_step]
  by_cases h : isd (byt zs p) = true
  · have e : step 4 (byt zs p) = 5 := by simp [step, h]
    rw [e, if_neg (by omega), at5, if_pos ((lt_digs zs p).2 h), digs_step h]
  · have e : step 4 (byt zs p) = -1 := by simp [step, h]
    rw [e, if_pos (by omega), if_neg (by rw [lt_digs]; exact h)]; simp [said, acc]
/-- 2, 3: the whole part is over -/
theorem at23 (zs : List Int) (s : Int) (hs : s = 2 ∨ s = 3) (p : Nat) (h : s = 3 → ¬ isd (byt zs p) = true) : said (dpos zs s p) = frac zs p := by
  rw [dpos_step]
  unfold frac
  by_cases hd : byt zs p = 46
  · have e : step s (byt zs p) = 4 := by rcases hs with rfl | rfl <;> simp [step, hd, isd]
    rw [e, if_neg (by omega), at4, if_pos hd]
  · rw [if_neg hd]
    unfold exp_
    by_cases he : byt zs p = 101 ∨ byt zs p = 69
    · have e : step s (byt zs p) = 6 := by rcases hs with rfl | rfl <;> simp [step, isd_e he, he, hd]
      rw [e, if_neg (by omega), at6, if_pos he]
    · have e : step s (byt zs p) = -1 := by
        rcases hs with rfl | rfl
        · simp [step, he, hd]
        · simp [step, he, hd, h rfl]
      rw [e, if_pos (by omega), if_neg he]
      rcases hs with rfl | rfl <;> simp [said, acc]
theorem at3 (zs : List Int) (p : Nat) : said (dpos zs 3 p) = frac zs (digs zs p) := by
  rw [dpos_run zs (.inl rfl) _ p rfl]
  exact at23 zs 3 (.inr rfl) _ (fun _ => digs_not zs p)
/-- 1: behind the sign -/
theorem at1 (zs : List Int) (p : Nat) : said (dpos zs 1 p) = whole zs p := by
  rw [dpos_step]
  unfold whole
  by_cases h0 : byt zs p = 48
  · have e : step 1 (byt zs p) = 2 := by simp [step, h0]
    rw [e, if_neg (by omega), if_pos h0]; exact at23 zs 2 (.inl rfl) _ (by intro h; omega)
  · rw [if_neg h0]
    by_cases h : isd (byt zs p) = true
    · have e : step 1 (byt zs p) = 3 := by simp [step, h0, h]
      rw [e, if_neg (by omega), at3, if_pos (by rw [isd_iff] at h; omega)]
    · have e : step 1 (byt zs p) = -1 := by simp [step, h0, h]
      rw [e, if_pos (by omega), if_neg (by rw [isd_iff] at h; omega)]; simp [said, acc]
/-- THE LAW: the reader and the automaton agree -/
theorem at0 (zs : List Int) (p : Nat) : said (dpos zs 0 p) = num zs p := by
  unfold num
  by_cases hm : byt zs p = 45
  · rw [dpos_step]
    have e : step 0 (byt zs p) = 1 := by simp [step, hm]
    rw [e, if_neg (by omega), if_pos hm, at1]
  · rw [if_neg hm, ← at1, dpos_step, dpos_step zs 1]
    have e : step 0 (byt zs p) = step 1 (byt zs p) := by simp [step, hm]
    rw [e]
    by_cases h : step 1 (byt zs p) < 0
    · rw [if_pos h, if_pos h]; simp [said, acc]
    · rw [if_neg h, if_neg h]
end Go.Proofs.Qxb6601838a.Plain
