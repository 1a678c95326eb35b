/-
  THE PLAIN LAWS OF THE SEAT b6602093a, FIRST PART: no Go in sight: numbers and dotted quads in lists of bytes.
-/
namespace Go.Proofs.Qxb6602093a.Plain

/-- a decimal digit's byte -/
def isd (c : Int) : Bool := decide (48 ≤ c) && decide (c ≤ 57)
/-- a hex digit's byte -/
def ish (c : Int) : Bool := isd c || (decide (97 ≤ c) && decide (c ≤ 102)) || (decide (65 ≤ c) && decide (c ≤ 70))
theorem isd_iff (c : Int) : isd c = true ↔ 48 ≤ c ∧ c ≤ 57 := by simp [isd]
theorem ish_iff (c : Int) : ish c = true ↔ (48 ≤ c ∧ c ≤ 57) ∨ (97 ≤ c ∧ c ≤ 102) ∨ (65 ≤ c ∧ c ≤ 70) := by
  simp [ish, isd]; omega

/-- the digits of one number of a quad: 'first': none has been read yet; 's0': the number's first byte; 'n': its value so far. What is left behind it; none: refused. -/
def octL : Bool → Int → Int → List Int → Option (List Int)
  | _, _, _, [] => some []
  | first, s0, n, c :: r =>
    if isd c = true then
      (if first = false ∧ s0 = 48 then none
       else if 255 < n * 10 + (c - 48) then none else octL false s0 (n * 10 + (c - 48)) r)
    else some (c :: r)
/-- one number of a quad, and what is left behind it -/
def oct : List Int → Option (List Int)
  | [] => none
  | c :: r => if isd c = true then octL true c 0 (c :: r) else none
/-- behind a number: k more to come -/
def tailB : Nat → List Int → Bool
  | 0, l => l.isEmpty
  | k + 1, 46 :: r => (match oct r with | some y => tailB k y | none => false)
  | _ + 1, _ => false
/-- a quad -/
def dotted (l : List Int) : Bool := match oct l with | some y => tailB 3 y | none => false
/-- the quad's reader, nm numbers read -/
def quadG : Nat → List Int → Bool
  | 0, l => dotted l
  | 1, l => tailB 3 l
  | 2, l => tailB 2 l
  | 3, l => tailB 1 l
  | 4, l => tailB 0 l
  | _, _ => false

theorem quadG_nil (nm : Nat) : quadG nm [] = decide (nm = 4) := by
  match nm with
  | 0 => rfl
  | 1 => rfl
  | 2 => rfl
  | 3 => rfl
  | 4 => rfl
  | n + 5 => simp [quadG]
theorem quadG_first {l : List Int} : quadG 0 l = match oct l with | some y => quadG 1 y | none => false := rfl
theorem quadG_dot (nm : Nat) (h : 0 < nm) (r : List Int) : quadG nm (46 :: r) = match oct r with | some y => quadG (nm + 1) y | none => false := by
  match nm, h with
  | 1, _ => rfl
  | 2, _ => rfl
  | 3, _ => rfl
  | 4, _ => simp only [quadG, tailB, List.isEmpty_cons]; cases oct r <;> rfl
  | n + 5, _ => simp only [quadG]; cases oct r <;> rfl
theorem quadG_other (nm : Nat) (h : 0 < nm) (c : Int) (r : List Int) (hc : c ≠ 46) : quadG nm (c :: r) = false := by
  have t : ∀ k, tailB (k + 1) (c :: r) = false := by
    intro k
    unfold tailB
    split
    · rename_i h; cases h
    · rename_i h1 h2; cases h2; exact absurd rfl hc
    · rfl
  match nm, h with
  | 1, _ => exact t 2
  | 2, _ => exact t 1
  | 3, _ => exact t 0
  | 4, _ => rfl
  | n + 5, _ => rfl

/-! ### the reader's steps -/
theorem octL_end (f : Bool) (s0 n : Int) {y : List Int} (h : y = [] ∨ ∃ c r, y = c :: r ∧ isd c = false) : octL f s0 n y = some y := by
  rcases h with rfl | ⟨c, r, rfl, hc⟩
  · rfl
  · simp [octL, hc]
theorem octL_dig {f : Bool} {s0 n c : Int} (r : List Int) (hc : isd c = true) (hz : ¬ (f = false ∧ s0 = 48)) (hn : n * 10 + (c - 48) ≤ 255) :
    octL f s0 n (c :: r) = octL false s0 (n * 10 + (c - 48)) r := by
  rw [octL, if_pos hc, if_neg hz, if_neg (by omega)]
theorem octL_big {f : Bool} {s0 n c : Int} (r : List Int) (hc : isd c = true) (hn : 255 < n * 10 + (c - 48)) : octL f s0 n (c :: r) = none := by
  simp [octL, hc, hn]
theorem octL_zero {c : Int} (n : Int) (r : List Int) (hc : isd c = true) : octL false 48 n (c :: r) = none := by
  rw [octL, if_pos hc, if_pos ⟨rfl, rfl⟩]

/-! ### a number written out -/
def utoa (n : Nat) : List Int :=
  if n < 10 then [48 + (n : Int)]
  else if n < 100 then [48 + ((n / 10 : Nat) : Int), 48 + ((n % 10 : Nat) : Int)]
  else [48 + ((n / 100 : Nat) : Int), 48 + ((n / 10 % 10 : Nat) : Int), 48 + ((n % 10 : Nat) : Int)]
theorem dig_isd {d : Nat} (h : d < 10) : isd (48 + (d : Int)) = true := by rw [isd_iff]; omega

/-- what may stand behind a number -/
def ends (y : List Int) : Prop := y = [] ∨ ∃ r, y = 46 :: r
theorem ends_end {y : List Int} (h : ends y) : y = [] ∨ ∃ c r, y = c :: r ∧ isd c = false := by
  rcases h with rfl | ⟨r, rfl⟩
  · exact .inl rfl
  · exact .inr ⟨46, r, rfl, by decide⟩
def okO (a : List Int) : Prop := ∀ y, ends y → oct (a ++ y) = some y
def badO (a : List Int) : Prop := ∀ y, ends y → oct (a ++ y) = none

theorem ok_utoa {n : Nat} (h : n < 256) : okO (utoa n) := by
  intro y hy
  have he := fun f s0 m => octL_end f s0 m (ends_end hy)
  unfold utoa
  split
  · show oct ((48 + (n : Int)) :: y) = some y
    rw [oct, if_pos (dig_isd (by omega)), octL_dig _ (dig_isd (by omega)) (by simp) (by omega), he]
  · split
    · show oct ((48 + ((n / 10 : Nat) : Int)) :: (48 + ((n % 10 : Nat) : Int)) :: y) = some y
      rw [oct, if_pos (dig_isd (by omega)), octL_dig _ (dig_isd (by omega)) (by simp) (by omega), octL_dig _ (dig_isd (by omega)) (by omega) (by omega), he]
    · show oct ((48 + ((n / 100 : Nat) : Int)) :: (48 + ((n / 10 % 10 : Nat) : Int)) :: (48 + ((n % 10 : Nat) : Int)) :: y) = some y
      rw [oct, if_pos (dig_isd (by omega)), octL_dig _ (dig_isd (by omega)) (by simp) (by omega), octL_dig _ (dig_isd (by omega)) (by omega) (by omega), octL_dig _ (dig_isd (by omega)) (by omega) (by omega), he]
theorem bad_big {n : Nat} (h : 256 ≤ n) (h' : n < 1000) : badO (utoa n) := by
  intro y hy
  unfold utoa
  rw [if_neg (by omega), if_neg (by omega)]
  show oct ((48 + ((n / 100 : Nat) : Int)) :: (48 + ((n / 10 % 10 : Nat) : Int)) :: (48 + ((n % 10 : Nat) : Int)) :: y) = none
  rw [oct, if_pos (dig_isd (by omega)), octL_dig _ (dig_isd (by omega)) (by simp) (by omega), octL_dig _ (dig_isd (by omega)) (by omega) (by omega), octL_big _ (dig_isd (by omega)) (by omega)]
theorem utoa_head {n : Nat} (h : n < 1000) : ∃ c r, utoa n = c :: r ∧ isd c = true := by
  unfold utoa
  split
  · exact ⟨_, _, rfl, dig_isd (by omega)⟩
  · split
    · exact ⟨_, _, rfl, dig_isd (by omega)⟩
    · exact ⟨_, _, rfl, dig_isd (by omega)⟩
theorem bad_zero {n : Nat} (h : n < 1000) : badO (48 :: utoa n) := by
  intro y hy
  obtain ⟨c, r, e, hc⟩ := utoa_head h
  rw [e]
  show oct (48 :: c :: (r ++ y)) = none
  rw [oct, if_pos (by decide), octL_dig _ (by decide) (by simp) (by omega), octL_zero _ _ hc]

/-! ### quads, and their neighbours -/
theorem ends_nil : ends [] := .inl rfl
theorem ends_dot (r : List Int) : ends (46 :: r) := .inr ⟨r, rfl⟩
theorem tail_ok {k : Nat} {a y : List Int} (ha : okO a) (hy : ends y) : tailB (k + 1) (46 :: (a ++ y)) = tailB k y := by
  show (match oct (a ++ y) with | some y => tailB k y | none => false) = _
  rw [ha y hy]
theorem tail_bad {k : Nat} {a y : List Int} (ha : badO a) (hy : ends y) : tailB (k + 1) (46 :: (a ++ y)) = false := by
  show (match oct (a ++ y) with | some y => tailB k y | none => false) = _
  rw [ha y hy]
theorem dotted_ok {a y : List Int} (ha : okO a) (hy : ends y) : dotted (a ++ y) = tailB 3 y := by
  unfold dotted; rw [ha y hy]
theorem dotted_bad {a y : List Int} (ha : badO a) (hy : ends y) : dotted (a ++ y) = false := by
  unfold dotted; rw [ha y hy]

/-- four texts joined by dots -/
def join4 (a b c d : List Int) : List Int := a ++ 46 :: (b ++ 46 :: (c ++ 46 :: d))
theorem quad_ok {a b c d : List Int} (ha : okO a) (hb : okO b) (hc : okO c) (hd : okO d) : dotted (join4 a b c d) = true := by
  unfold join4
  rw [dotted_ok ha (ends_dot _), tail_ok hb (ends_dot _), tail_ok hc (ends_dot _)]
  have := tail_ok (k := 0) hd ends_nil
  rw [List.append_nil] at this
  rw [this]; rfl
theorem quad_bad0 {a b c d : List Int} (ha : badO a) : dotted (join4 a b c d) = false := by
  unfold join4
  rw [dotted_bad ha (ends_dot _)]
theorem quad_bad1 {a b c d : List Int} (ha : okO a) (hb : badO b) : dotted (join4 a b c d) = false := by
  unfold join4
  rw [dotted_ok ha (ends_dot _), tail_bad hb (ends_dot _)]
theorem quad_bad2 {a b c d : List Int} (ha : okO a) (hb : okO b) (hc : badO c) : dotted (join4 a b c d) = false := by
  unfold join4
  rw [dotted_ok ha (ends_dot _), tail_ok hb (ends_dot _), tail_bad hc (ends_dot _)]
theorem quad_bad3 {a b c d : List Int} (ha : okO a) (hb : okO b) (hc : okO c) (hd : badO d) : dotted (join4 a b c d) = false := by
  unfold join4
  rw [dotted_ok ha (ends_dot _), tail_ok hb (ends_dot _), tail_ok hc (ends_dot _)]
  have := tail_bad (k := 0) hd ends_nil
  rw [List.append_nil] at this
  exact this
theorem quad_five {a b c d : List Int} (ha : okO a) (hb : okO b) (hc : okO c) (hd : okO d) (r : List Int) : dotted (join4 a b c d ++ 46 :: r) = false := by
  have e : join4 a b c d ++ 46 :: r = a ++ 46 :: (b ++ 46 :: (c ++ 46 :: (d ++ 46 :: r))) := by simp [join4]
  rw [e, dotted_ok ha (ends_dot _), tail_ok hb (ends_dot _), tail_ok hc (ends_dot _), tail_ok hd (ends_dot _)]; rfl
theorem quad_three {a b c : List Int} (ha : okO a) (hb : okO b) (hc : okO c) : dotted (a ++ 46 :: (b ++ 46 :: c)) = false := by
  rw [dotted_ok ha (ends_dot _), tail_ok hb (ends_dot _)]
  have := tail_ok (k := 1) hc ends_nil
  rw [List.append_nil] at this
  rw [this]; rfl
end Go.Proofs.Qxb6602093a.Plain
