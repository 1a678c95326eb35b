/-
  THE PLAIN LAWS OF THE SEAT b6602093a, FOURTH PART: no Go in sight: the reader of an IPv6 address against its grammar.
-/
import Derived.Test.Qxb6602093aRend
namespace Go.Proofs.Qxb6602093a.Plain

/-! ### a quad is four canonical numbers -/
theorem dig_nat {c : Int} (h : isd c = true) : ∃ d : Nat, d < 10 ∧ c = 48 + (d : Int) := by
  have := (isd_iff c).1 h
  exact ⟨(c - 48).toNat, by omega, by omega⟩
theorem not_isd {c : Int} (h : ¬ isd c = true) : isd c = false := by simpa using h

/-- what is left of a list of digits -/
theorem octL_inv {f : Bool} {s0 n : Int} {l y : List Int} (h : octL f s0 n l = some y) :
    (l = y ∧ (y = [] ∨ ∃ c r, y = c :: r ∧ isd c = false)) ∨
    (∃ c r, l = c :: r ∧ isd c = true ∧ ¬ (f = false ∧ s0 = 48) ∧ n * 10 + (c - 48) ≤ 255 ∧ octL false s0 (n * 10 + (c - 48)) r = some y) := by
  cases l with
  | nil => left; simp [octL] at h; subst h; exact ⟨rfl, .inl rfl⟩
  | cons c r =>
    by_cases hc : isd c = true
    · right
      rw [octL, if_pos hc] at h
      by_cases hz : f = false ∧ s0 = 48
      · rw [if_pos hz] at h; cases h
      · rw [if_neg hz] at h
        by_cases hb : 255 < n * 10 + (c - 48)
        · rw [if_pos hb] at h; cases h
        · rw [if_neg hb] at h
          exact ⟨c, r, rfl, hc, hz, by omega, h⟩
    · left
      rw [octL, if_neg hc] at h
      cases h
      exact ⟨rfl, .inr ⟨c, r, rfl, not_isd hc⟩⟩
theorem utoa_lt10 {n : Nat} (h : n < 10) : utoa n = [48 + (n : Int)] := by simp [utoa, h]
theorem utoa_lt100 {a b : Nat} (ha : 0 < a) (ha' : a < 10) (hb : b < 10) : utoa (a * 10 + b) = [48 + (a : Int), 48 + (b : Int)] := by
  rw [utoa, if_neg (by omega), if_pos (by omega)]
  have e1 : (a * 10 + b) / 10 = a := by omega
  have e2 : (a * 10 + b) % 10 = b := by omega
  rw [e1, e2]
theorem utoa_lt1000 {a b c : Nat} (ha : 0 < a) (ha' : a < 10) (hb : b < 10) (hc : c < 10) : utoa ((a * 10 + b) * 10 + c) = [48 + (a : Int), 48 + (b : Int), 48 + (c : Int)] := by
  rw [utoa, if_neg (by omega), if_neg (by omega)]
  have e1 : ((a * 10 + b) * 10 + c) / 100 = a := by omega
  have e2 : ((a * 10 + b) * 10 + c) / 10 % 10 = b := by omega
  have e3 : ((a * 10 + b) * 10 + c) % 10 = c := by omega
  rw [e1, e2, e3]
theorem oct_inv {l y : List Int} (h : oct l = some y) : ∃ n : Nat, n < 256 ∧ l = utoa n ++ y := by
  cases l with
  | nil => cases h
  | cons c r =>
    by_cases hc : isd c = true
    · rw [oct, if_pos hc] at h
      obtain ⟨a, ha, rfl⟩ := dig_nat hc
      rcases octL_inv h with ⟨e, hy⟩ | ⟨c', r', e, _, _, hv, h1⟩
      · exfalso
        rcases hy with rfl | ⟨c2, r2, rfl, hc2⟩
        · cases e
        · cases e; rw [hc] at hc2; cases hc2
      · cases e
        have e0 : (0 : Int) * 10 + (48 + (a : Int) - 48) = (a : Int) := by omega
        rw [e0] at h1
        rcases octL_inv h1 with ⟨rfl, _⟩ | ⟨c2, r2, rfl, hc2, hz2, hv2, h2⟩
        · exact ⟨a, by omega, by rw [utoa_lt10 ha]; rfl⟩
        · obtain ⟨b, hb, rfl⟩ := dig_nat hc2
          have ha0 : 0 < a := by
            apply Classical.byContradiction
            intro h0
            exact hz2 ⟨rfl, by omega⟩
          have e1 : (a : Int) * 10 + (48 + (b : Int) - 48) = ((a * 10 + b : Nat) : Int) := by omega
          rw [e1] at h2 hv2
          rcases octL_inv h2 with ⟨rfl, _⟩ | ⟨c3, r3, rfl, hc3, _, hv3, h3⟩
          · exact ⟨a * 10 + b, by omega, by rw [utoa_lt100 ha0 ha hb]; rfl⟩
          · obtain ⟨d, hd, rfl⟩ := dig_nat hc3
            have e2 : ((a * 10 + b : Nat) : Int) * 10 + (48 + (d : Int) - 48) = (((a * 10 + b) * 10 + d : Nat) : Int) := by omega
            rw [e2] at h3 hv3
            rcases octL_inv h3 with ⟨rfl, _⟩ | ⟨c4, r4, rfl, hc4, _, hv4, h4⟩
            · exact ⟨(a * 10 + b) * 10 + d, by omega, by rw [utoa_lt1000 ha0 ha hb hd]; rfl⟩
            · obtain ⟨g, hg, rfl⟩ := dig_nat hc4
              omega
    · rw [oct, if_neg hc] at h; cases h
theorem tailB_inv {k : Nat} {l : List Int} (h : tailB (k + 1) l = true) : ∃ (n : Nat) (y : List Int), n < 256 ∧ l = 46 :: (utoa n ++ y) ∧ tailB k y = true := by
  unfold tailB at h
  split at h
  · rename_i e; cases e
  · rename_i k' r e
    cases e
    cases ho : oct r with
    | none => rw [ho] at h; cases h
    | some y =>
      rw [ho] at h
      obtain ⟨n, hn, rfl⟩ := oct_inv ho
      exact ⟨n, y, hn, rfl, h⟩
  · cases h
theorem dotted_iff (l : List Int) : dotted l = true ↔ ∃ a b c d : Nat, a < 256 ∧ b < 256 ∧ c < 256 ∧ d < 256 ∧ l = join4 (utoa a) (utoa b) (utoa c) (utoa d) := by
  constructor
  · intro h
    unfold dotted at h
    cases ho : oct l with
    | none => rw [ho] at h; cases h
    | some y =>
      rw [ho] at h
      obtain ⟨a, ha, rfl⟩ := oct_inv ho
      obtain ⟨b, y1, hb, rfl, h1⟩ := tailB_inv h
      obtain ⟨c, y2, hc, rfl, h2⟩ := tailB_inv h1
      obtain ⟨d, y3, hd, rfl, h3⟩ := tailB_inv h2
      have : y3 = [] := by simpa [tailB] using h3
      subst this
      exact ⟨a, b, c, d, ha, hb, hc, hd, by simp [join4]⟩
  · rintro ⟨a, b, c, d, ha, hb, hc, hd, rfl⟩
    exact quad_ok (ok_utoa ha) (ok_utoa hb) (ok_utoa hc) (ok_utoa hd)

/-! ### the model of a quad: fields parted by dots, read leniently, written anew -/
/-- the first field, and what stands behind the mark, if there is one -/
def cut (d : Int) : List Int → List Int × Option (List Int)
  | [] => ([], none)
  | c :: r => if c = d then ([], some r) else (c :: (cut d r).1, (cut d r).2)
theorem cut_app {d : Int} {f : List Int} (hf : ∀ c ∈ f, c ≠ d) (r : List Int) : cut d (f ++ d :: r) = (f, some r) := by
  induction f with
  | nil => simp [cut]
  | cons c f ih =>
    have hc := hf c (by simp)
    rw [List.cons_append, cut, if_neg hc, ih (fun x hx => hf x (by simp [hx]))]
theorem cut_all {d : Int} {f : List Int} (hf : ∀ c ∈ f, c ≠ d) : cut d f = (f, none) := by
  induction f with
  | nil => rfl
  | cons c f ih =>
    have hc := hf c (by simp)
    rw [cut, if_neg hc, ih (fun x hx => hf x (by simp [hx]))]
theorem cut_inv (d : Int) (l : List Int) : (∃ f, cut d l = (f, none) ∧ l = f ∧ ∀ c ∈ f, c ≠ d) ∨ (∃ f r, cut d l = (f, some r) ∧ l = f ++ d :: r ∧ ∀ c ∈ f, c ≠ d) := by
  induction l with
  | nil => left; exact ⟨[], rfl, rfl, by simp⟩
  | cons c r ih =>
    by_cases hc : c = d
    · subst hc; right; exact ⟨[], r, by simp [cut], rfl, by simp⟩
    · rcases ih with ⟨f, e, rfl, hf⟩ | ⟨f, r', e, rfl, hf⟩
      · left; exact ⟨c :: r, by rw [cut, if_neg hc, e], rfl, by intro x hx; simp at hx; rcases hx with rfl | hx; exact hc; exact hf x hx⟩
      · right; exact ⟨c :: f, r', by rw [cut, if_neg hc, e], rfl, by intro x hx; simp at hx; rcases hx with rfl | hx; exact hc; exact hf x hx⟩

/-- digits read leniently -/
def pv : Nat → List Int → Option Nat
  | a, [] => some a
  | a, c :: r => if isd c = true then pv (a * 10 + (c - 48).toNat) r else none
def fld (l : List Int) : Option Nat :=
  if 1 ≤ l.length ∧ l.length ≤ 3 then (match pv 0 l with | some v => if v ≤ 255 then some v else none | none => none) else none
/-- the four numbers written anew -/
def render : List Nat → List Int
  | [a, b, c, d] => join4 (utoa a) (utoa b) (utoa c) (utoa d)
  | _ => []
/-- the model: k fields more, the numbers so far, what is left; 'full': the whole text -/
def quadM (full : List Int) : Nat → List Nat → List Int → Bool
  | 0, _, _ => false
  | k + 1, vs, l =>
    match fld (cut 46 l).1 with
    | none => false
    | some v =>
      match (cut 46 l).2 with
      | none => decide (k = 0) && decide (render (vs ++ [v]) = full)
      | some r => quadM full k (vs ++ [v]) r

theorem pv_utoa {n : Nat} (h : n < 256) : pv 0 (utoa n) = some n := by
  unfold utoa
  split
  · rw [pv, if_pos (dig_isd (by omega)), pv]; congr 1; omega
  · split
    · rw [pv, if_pos (dig_isd (by omega)), pv, if_pos (dig_isd (by omega)), pv]; congr 1; omega
    · rw [pv, if_pos (dig_isd (by omega)), pv, if_pos (dig_isd (by omega)), pv, if_pos (dig_isd (by omega)), pv]; congr 1; omega
theorem utoa_len {n : Nat} : 1 ≤ (utoa n).length ∧ (utoa n).length ≤ 3 := by
  unfold utoa
  split
  · simp
  · split <;> simp
theorem fld_utoa {n : Nat} (h : n < 256) : fld (utoa n) = some n := by
  rw [fld, if_pos utoa_len, pv_utoa h]
  simp; omega
theorem fld_le {l : List Int} {v : Nat} (h : fld l = some v) : v ≤ 255 := by
  unfold fld at h
  split at h
  · split at h
    · split at h
      · cases h; assumption
      · cases h
    · cases h
  · cases h
theorem utoa_isd {n : Nat} (h : n < 1000) : ∀ c ∈ utoa n, isd c = true := by
  unfold utoa
  split
  · intro c hc; simp at hc; subst hc; exact dig_isd (by omega)
  · split
    · intro c hc; simp only [List.mem_cons, List.not_mem_nil, or_false] at hc
      rcases hc with rfl | rfl <;> exact dig_isd (by omega)
    · intro c hc; simp only [List.mem_cons, List.not_mem_nil, or_false] at hc
      rcases hc with rfl | rfl | rfl <;> exact dig_isd (by omega)
theorem isd_ne {c : Int} (h : isd c = true) : c ≠ 46 ∧ c ≠ 58 := by
  have := (isd_iff c).1 h
  omega
theorem quadM_step (full : List Int) {k n : Nat} (hn : n < 256) (vs : List Nat) (r : List Int) : quadM full (k + 1) vs (utoa n ++ 46 :: r) = quadM full k (vs ++ [n]) r := by
  rw [quadM, cut_app (fun c hc => (isd_ne (utoa_isd (by omega) c hc)).1)]
  simp only [fld_utoa hn]
theorem quadM_last (full : List Int) {n : Nat} (hn : n < 256) (vs : List Nat) : quadM full 1 vs (utoa n) = decide (render (vs ++ [n]) = full) := by
  rw [quadM, cut_all (fun c hc => (isd_ne (utoa_isd (by omega) c hc)).1)]
  simp only [fld_utoa hn]
  simp
theorem quadM_sound (full : List Int) : ∀ (k : Nat) (vs : List Nat) (l : List Int), vs.length + k = 4 → (∀ v ∈ vs, v ≤ 255) → quadM full k vs l = true → ∃ ws : List Nat, ws.length = 4 ∧ (∀ v ∈ ws, v ≤ 255) ∧ render ws = full := by
  intro k
  induction k with
  | zero => intro vs l _ _ h; cases h
  | succ k ih =>
    intro vs l hl hv h
    rw [quadM] at h
    cases hf : fld (cut 46 l).1 with
    | none => rw [hf] at h; cases h
    | some v =>
      rw [hf] at h
      have hv' : ∀ x ∈ vs ++ [v], x ≤ 255 := by
        intro x hx; simp at hx; rcases hx with hx | rfl
        · exact hv x hx
        · exact fld_le hf
      cases hc : (cut 46 l).2 with
      | none =>
        rw [hc] at h
        simp at h
        exact ⟨vs ++ [v], by simp; omega, hv', h.2⟩
      | some r =>
        rw [hc] at h
        exact ih (vs ++ [v]) r (by simp; omega) hv' h
theorem quadM_dotted (l : List Int) : quadM l 4 [] l = dotted l := by
  rw [Bool.eq_iff_iff, dotted_iff]
  constructor
  · intro h
    obtain ⟨ws, hl, hv, he⟩ := quadM_sound l 4 [] l rfl (by simp) h
    match ws, hl with
    | [a, b, c, d], _ => exact ⟨a, b, c, d, by have := hv a (by simp); omega, by have := hv b (by simp); omega, by have := hv c (by simp); omega, by have := hv d (by simp); omega, he.symm⟩
  · rintro ⟨a, b, c, d, ha, hb, hc, hd, e⟩
    have : quadM l 4 [] (join4 (utoa a) (utoa b) (utoa c) (utoa d)) = true := by
      rw [join4, quadM_step l ha, quadM_step l hb, quadM_step l hc, quadM_last l hd]
      simp [render, e]
    rw [← e] at this
    exact this

/-! ### the grammar -/
def hasDot : List Int → Bool
  | [] => false
  | c :: r => if c = 46 then true else hasDot r
def allH : List Int → Bool
  | [] => true
  | c :: r => if ish c = true then allH r else false
def h16 (l : List Int) : Bool := decide (1 ≤ l.length ∧ l.length ≤ 4) && allH l
/-- the groups of a text that is not empty: fuel; may the last field be a quad? -/
def grpC : Nat → Bool → List Int → Option Nat
  | 0, _, _ => none
  | g + 1, tail, l =>
    match (cut 58 l).2 with
    | none => if (tail && hasDot (cut 58 l).1) = true then (if dotted (cut 58 l).1 = true then some 2 else none) else if h16 (cut 58 l).1 = true then some 1 else none
    | some r => if h16 (cut 58 l).1 = true then (grpC g tail r).map (· + 1) else none
def groupsG (tail : Bool) (l : List Int) : Option Nat := if l = [] then some 0 else grpC (l.length + 1) tail l
/-- where the first double colon stands -/
def findCC : List Int → Option Nat
  | [] => none
  | [_] => none
  | c :: d :: r => if c = 58 ∧ d = 58 then some 0 else (findCC (d :: r)).map (· + 1)
def both : Option Nat → Option Nat → Bool
  | some a, some b => decide (a + b ≤ 7)
  | _, _ => false
def is8 : Option Nat → Bool
  | some n => decide (n = 8)
  | none => false
def gram (l : List Int) : Bool :=
  match findCC l with
  | none => if l = [] then false else is8 (groupsG true l)
  | some k => both (groupsG false (l.take k)) (groupsG true (l.drop (k + 2)))

theorem grpC_fuel : ∀ (g g' : Nat) (tail : Bool) (l : List Int), l.length < g → l.length < g' → grpC g tail l = grpC g' tail l := by
  intro g
  induction g with
  | zero => intro g' tail l h; omega
  | succ g ih =>
    intro g' tail l h h'
    cases g' with
    | zero => omega
    | succ g' =>
      rcases cut_inv 58 l with ⟨f, e, rfl, _⟩ | ⟨f, r, e, rfl, _⟩
      · simp only [grpC, e]
      · simp only [grpC, e]
        rw [ih g' tail r (by simp at h; omega) (by simp at h'; omega)]
theorem grpC_pos : ∀ (g : Nat) (tail : Bool) (l : List Int) (n : Nat), grpC g tail l = some n → 1 ≤ n := by
  intro g
  induction g with
  | zero => intro tail l n h; cases h
  | succ g ih =>
    intro tail l n h
    rcases cut_inv 58 l with ⟨f, e, rfl, _⟩ | ⟨f, r, e, rfl, _⟩
    · simp only [grpC, e] at h
      split at h
      · split at h
        · cases h; omega
        · cases h
      · split at h
        · cases h; omega
        · cases h
    · simp only [grpC, e] at h
      split at h
      · obtain ⟨m, hm, rfl⟩ := Option.map_eq_some_iff.1 h
        omega
      · cases h

theorem allH_iff (l : List Int) : allH l = true ↔ ∀ c ∈ l, ish c = true := by
  induction l with
  | nil => simp [allH]
  | cons c r ih =>
    by_cases h : ish c = true
    · simp [allH, h, ih]
    · simp [allH, h]
theorem h16_iff (l : List Int) : h16 l = true ↔ Hx l := by
  simp [h16, Hx, allH_iff, and_assoc]
theorem hasDot_iff (l : List Int) : hasDot l = true ↔ (46 : Int) ∈ l := by
  induction l with
  | nil => simp [hasDot]
  | cons c r ih =>
    by_cases h : c = 46
    · simp [hasDot, h]
    · simp [hasDot, h, ih]; omega
theorem hx_nodot {l : List Int} (h : Hx l) : hasDot l = false := by
  cases hd : hasDot l with
  | false => rfl
  | true => exact absurd rfl (ish_ne_dot (h.2.2 46 ((hasDot_iff l).1 hd)))

/-- the hex digits at a text's head -/
theorem hexN_split : ∀ (k : Nat) (l : List Int), ∃ h t, l = h ++ t ∧ h.length = hexN k l ∧ (∀ c ∈ h, ish c = true) ∧ (h.length = k ∨ t = [] ∨ ∃ y r, t = y :: r ∧ ish y = false) := by
  intro k
  induction k with
  | zero => intro l; exact ⟨[], l, rfl, rfl, by simp, .inl rfl⟩
  | succ k ih =>
    intro l
    cases l with
    | nil => exact ⟨[], [], rfl, rfl, by simp, .inr (.inl rfl)⟩
    | cons c r =>
      by_cases hc : ish c = true
      · obtain ⟨h, t, e, hl, hh, ht⟩ := ih r
        refine ⟨c :: h, t, by rw [e]; rfl, by simp [hexN, hc, hl], ?_, ?_⟩
        · intro x hx; simp at hx; rcases hx with rfl | hx; exact hc; exact hh x hx
        · rcases ht with ht | ht | ht
          · left; simp [ht]
          · right; left; exact ht
          · right; right; exact ht
      · exact ⟨[], c :: r, rfl, by simp [hexN, hc], by simp, .inr (.inr ⟨c, r, rfl, by simpa using hc⟩)⟩

theorem dotted_parts {l : List Int} (h : dotted l = true) : (∀ c ∈ l, c ≠ 58) ∧ ∃ u t, l = u ++ 46 :: t ∧ Hx u ∧ u.length ≤ 3 := by
  obtain ⟨a, b, c, d, ha, hb, hc, hd, rfl⟩ := (dotted_iff l).1 h
  refine ⟨?_, utoa a, _, rfl, hx_utoa (by omega), utoa_len.2⟩
  intro x hx
  simp only [join4, List.mem_append, List.mem_cons] at hx
  have k : ∀ n : Nat, n < 256 → x ∈ utoa n → x ≠ 58 := fun n hn hx => (isd_ne (utoa_isd (by omega) x hx)).2
  rcases hx with hx | rfl | hx | rfl | hx | rfl | hx
  · exact k a ha hx
  · omega
  · exact k b hb hx
  · omega
  · exact k c hc hx
  · omega
  · exact k d hd hx

/-- a field that is no group, and what the reader does with it: 't': what stands behind the field -/
theorem field_other {f p : Nat} {c : Bool} {fl t : List Int} (hfl : fl ≠ []) (hno : ∀ x ∈ fl, x ≠ 58) (hx : ¬ Hx fl) (ht : t = [] ∨ ∃ r, t = 58 :: r) (hp : p ≠ 8) :
    ip6F (f + 1) p c (fl ++ t) = (decide (t = []) && (decide (p ≤ 6) && (dotted fl && (c || decide (p + 2 = 8))))) := by
  obtain ⟨x, fr, rfl⟩ : ∃ x fr, fl = x :: fr := by
    cases fl with
    | nil => exact absurd rfl hfl
    | cons x fr => exact ⟨x, fr, rfl⟩
  have hx58 := hno x (by simp)
  obtain ⟨h, u, e, hl, hh, hu⟩ := hexN_split 4 (x :: fr ++ t)
  have hl4 : h.length ≤ 4 := by
    have : ∀ (k : Nat) (l : List Int), hexN k l ≤ k := by
      intro k
      induction k with
      | zero => intro l; simp [hexN]
      | succ k ih =>
        intro l
        cases l with
        | nil => simp [hexN]
        | cons c r => simp only [hexN]; split
                      · have := ih r; omega
                      · omega
    rw [hl]; exact this 4 _
  -- the digits end inside the field
  have hin : ∃ y v, x :: fr = h ++ y :: v ∧ u = y :: (v ++ t) := by
    have e' : (x :: fr) ++ t = h ++ u := e
    rcases List.append_eq_append_iff.1 e' with ⟨as, h1, h2⟩ | ⟨bs, h1, h2⟩
    · -- h = field ++ as, t = as ++ u
      exfalso
      have has : as = [] := by
        cases as with
        | nil => rfl
        | cons z zs =>
          rcases ht with rfl | ⟨r, rfl⟩
          · simp at h2
          · simp at h2
            have := hh z (by rw [h1]; simp)
            exact absurd h2.1.symm (ish_ne_colon this)
      subst has
      simp at h1
      apply hx
      refine ⟨by simp, by rw [← h1]; exact hl4, fun c hc => hh c (by rw [h1]; exact hc)⟩
    · cases bs with
      | nil =>
        exfalso
        simp at h1
        apply hx
        refine ⟨by simp, by rw [h1]; exact hl4, fun c hc => hh c (by rw [← h1]; exact hc)⟩
      | cons y v => exact ⟨y, v, h1, h2⟩
  obtain ⟨y, v, e1, rfl⟩ := hin
  have hy58 : y ≠ 58 := hno y (by rw [e1]; simp)
  rw [List.cons_append, ip6F_cons hp hx58]
  have hdrop : (x :: (fr ++ t)).drop (hexN 4 (x :: (fr ++ t))) = y :: (v ++ t) := by
    have hl' : hexN 4 (x :: (fr ++ t)) = h.length := hl.symm
    rw [hl']
    have e2 : x :: (fr ++ t) = h ++ y :: (v ++ t) := e
    rw [e2, List.drop_left]
  rw [behind, hdrop]
  simp only
  by_cases hy : y = 46
  · subst hy
    rw [if_pos rfl]
    have hK : hexN 4 (x :: (fr ++ t)) = h.length := hl.symm
    rw [hK]
    by_cases hh0 : h.length = 0
    · have : h = [] := List.eq_nil_of_length_eq_zero hh0
      subst this
      rw [if_pos (.inl hh0)]
      have hd : dotted (x :: fr) = false := by
        cases hd : dotted (x :: fr) with
        | false => rfl
        | true =>
          obtain ⟨_, u, t', eu, hux, _⟩ := dotted_parts hd
          obtain ⟨c0, r0, rfl, _⟩ := hx_cons hux
          rw [e1] at eu
          simp at eu
          have := hux.2.2 c0 (by simp)
          rw [← eu.1] at this
          exact absurd rfl (ish_ne_dot this)
      rw [hd]; simp
    · by_cases hp6 : 6 < p
      · rw [if_pos (.inr hp6)]
        have : decide (p ≤ 6) = false := decide_eq_false (by omega)
        rw [this]; simp
      · rw [if_neg (by omega)]
        have : decide (p ≤ 6) = true := decide_eq_true (by omega)
        rw [this]
        rcases ht with rfl | ⟨r, rfl⟩
        · simp
        · have hd : dotted (x :: (fr ++ 58 :: r)) = false := by
            cases hd : dotted (x :: (fr ++ 58 :: r)) with
            | false => rfl
            | true => exact absurd rfl ((dotted_parts hd).1 58 (by simp))
          rw [hd]; simp
  · rw [if_neg hy, if_neg hy58]
    -- a quad's digits end at a dot
    have hd : dotted (x :: fr) = false := by
      cases hd : dotted (x :: fr) with
      | false => rfl
      | true =>
        exfalso
        obtain ⟨_, w, t', ew, hwx, hw3⟩ := dotted_parts hd
        have hn := hexN_app 4 w (46 :: (t' ++ t)) (by omega) hwx.2.2 (.inr ⟨46, _, rfl, ish_dot⟩)
        have ew' : w ++ 46 :: (t' ++ t) = x :: (fr ++ t) := by rw [show x :: (fr ++ t) = (x :: fr) ++ t from rfl, ew]; simp
        rw [ew'] at hn
        rw [hn, ← ew', List.drop_left] at hdrop
        simp at hdrop
        exact hy hdrop.1.symm
    rw [hd]; simp

/-- a group, a colon, nothing more -/
theorem step_colon_end {f p : Nat} {c : Bool} {h : List Int} (hh : Hx h) (hp : p ≠ 8) : ip6F (f + 1) p c (h ++ [58]) = false := by
  obtain ⟨x, r, e, hx⟩ := hx_cons hh
  have hn := hexN_app 4 h [58] hh.2.1 hh.2.2 (.inr ⟨58, [], rfl, ish_colon⟩)
  rw [e] at hn ⊢
  rw [List.cons_append] at hn ⊢
  rw [ip6F_cons hp hx, hn]
  have hd : (x :: (r ++ [58])).drop (x :: r).length = [58] := by
    rw [← List.cons_append, List.drop_left]
  rw [behind, hd]
  simp

def optLe (p : Nat) : Option Nat → Bool
  | some n => decide (p + n ≤ 8)
  | none => false
def optEq (p : Nat) : Option Nat → Bool
  | some n => decide (p + n = 8)
  | none => false
theorem optLe_succ (p : Nat) (o : Option Nat) : optLe p (o.map (· + 1)) = optLe (p + 1) o := by
  cases o with
  | none => rfl
  | some n => simp only [optLe, Option.map_some]; congr 1; simp; omega
theorem optEq_succ (p : Nat) (o : Option Nat) : optEq p (o.map (· + 1)) = optEq (p + 1) o := by
  cases o with
  | none => rfl
  | some n => simp only [optEq, Option.map_some]; congr 1; simp; omega
theorem grpC_nil (g : Nat) (tail : Bool) : grpC g tail [] = none := by
  cases g with
  | zero => rfl
  | succ g => simp [grpC, cut, hasDot, h16]

/-- the reader behind a double colon -/
theorem read_true : ∀ (f p : Nat) (l : List Int), l ≠ [] → l.length ≤ f → p ≤ 8 → ∀ g, l.length < g → ip6F f p true l = optLe p (grpC g true l) := by
  intro f
  induction f with
  | zero => intro p l hl hf; exact absurd (List.eq_nil_of_length_eq_zero (by omega)) hl
  | succ f ih =>
    intro p l hl hf hp g hg
    obtain ⟨g, rfl⟩ : ∃ k, g = k + 1 := ⟨g - 1, by omega⟩
    by_cases hp8 : p = 8
    · subst hp8
      rw [ip6F_full true hl hf]
      cases ho : grpC (g + 1) true l with
      | none => rfl
      | some n =>
        have := grpC_pos _ _ _ _ ho
        simp only [optLe]
        exact (decide_eq_false (by omega)).symm
    · rcases cut_inv 58 l with ⟨fl, e, rfl, hno⟩ | ⟨fl, r, e, rfl, hno⟩
      · -- one field
        simp only [grpC, e]
        by_cases hx : Hx l
        · rw [step_end hx hp8, hx_nodot hx, (h16_iff l).2 hx]
          simp [optLe]; omega
        · have := field_other (f := f) (p := p) (c := true) hl hno hx (.inl rfl) hp8
          rw [List.append_nil] at this
          rw [this]
          have h16f : h16 l = false := by cases h : h16 l with | false => rfl | true => exact absurd ((h16_iff l).1 h) hx
          rw [h16f]
          cases hd : hasDot l with
          | false =>
            have hdd : dotted l = false := by
              cases h : dotted l with
              | false => rfl
              | true =>
                obtain ⟨_, u, t, rfl, _⟩ := dotted_parts h
                have := (hasDot_iff (u ++ 46 :: t)).2 (by simp)
                rw [hd] at this; cases this
            rw [hdd]; simp [optLe]
          | true =>
            cases h : dotted l with
            | false => simp [optLe]
            | true => simp [optLe]
      · -- more
        simp only [grpC, e]
        by_cases hfl : fl = []
        · subst hfl
          rw [List.nil_append, ip6F_colon2]
          simp [h16, optLe]
        · by_cases hx : Hx fl
          · rw [(h16_iff fl).2 hx]
            by_cases hr : r = []
            · subst hr
              rw [step_colon_end hx hp8, grpC_nil]; rfl
            · rw [step_colon hx hr hp8, ih (p + 1) r hr (by simp at hf; omega) (by omega) g (by simp at hg; omega)]
              simp only [if_true]
              rw [optLe_succ]
          · rw [field_other hfl hno hx (.inr ⟨r, rfl⟩) hp8]
            have h16f : h16 fl = false := by cases h : h16 fl with | false => rfl | true => exact absurd ((h16_iff fl).1 h) hx
            rw [h16f]; simp [optLe]

/-! ### where the double colon stands -/
theorem findCC_none {fl : List Int} (h : ∀ x ∈ fl, x ≠ 58) : findCC fl = none := by
  induction fl with
  | nil => rfl
  | cons c r ih =>
    cases r with
    | nil => rfl
    | cons d s =>
      have hc := h c (by simp)
      rw [findCC, if_neg (by intro ⟨h1, _⟩; exact hc h1), ih (fun x hx => h x (by simp [hx]))]; rfl
theorem findCC_app {fl : List Int} (h : ∀ x ∈ fl, x ≠ 58) (r : List Int) : findCC (fl ++ 58 :: r) = (findCC (58 :: r)).map (· + fl.length) := by
  induction fl with
  | nil => simp
  | cons c s ih =>
    have hc := h c (by simp)
    have ih' := ih (fun x hx => h x (by simp [hx]))
    cases s with
    | nil =>
      show findCC (c :: 58 :: r) = _
      rw [findCC, if_neg (by intro ⟨h1, _⟩; exact hc h1)]; rfl
    | cons d t =>
      show findCC (c :: d :: (t ++ 58 :: r)) = _
      rw [findCC, if_neg (by intro ⟨h1, _⟩; exact hc h1)]
      have e : d :: (t ++ 58 :: r) = (d :: t) ++ 58 :: r := rfl
      rw [e, ih', Option.map_map]
      congr 1
theorem findCC_one : findCC [58] = none := rfl
theorem findCC_two (r : List Int) : findCC (58 :: 58 :: r) = some 0 := by simp [findCC]
theorem findCC_next {y : Int} (hy : y ≠ 58) (r : List Int) : findCC (58 :: y :: r) = (findCC (y :: r)).map (· + 1) := by
  rw [findCC, if_neg (by intro ⟨_, h2⟩; exact hy h2)]

def both8 (p : Nat) : Option Nat → Option Nat → Bool
  | some a, some b => decide (p + a + b ≤ 7)
  | _, _ => false
/-- the grammar's word on what is left, p groups read -/
def rest (p g : Nat) (l : List Int) : Bool :=
  match findCC l with
  | none => optEq p (grpC g true l)
  | some k => both8 p (grpC g false (l.take k)) (groupsG true (l.drop (k + 2)))
theorem both8_none (p : Nat) (o : Option Nat) : both8 p none o = false := by cases o <;> rfl
theorem both8_succ (p : Nat) (o o' : Option Nat) : both8 p (o.map (· + 1)) o' = both8 (p + 1) o o' := by
  cases o with
  | none => rw [Option.map_none, both8_none, both8_none]
  | some n =>
    cases o' with
    | none => rfl
    | some m => simp only [both8, Option.map_some]; congr 1; simp; omega

/-- the reader ahead of a double colon -/
theorem read_false : ∀ (f p : Nat) (x : Int) (r : List Int), x ≠ 58 → (x :: r).length ≤ f → p ≤ 8 → ∀ g, (x :: r).length < g → ip6F f p false (x :: r) = rest p g (x :: r) := by
  intro f
  induction f with
  | zero => intro p x r _ hf; simp at hf
  | succ f ih =>
    intro p x r hx58 hf hp g hg
    obtain ⟨g, rfl⟩ : ∃ k, g = k + 1 := ⟨g - 1, by omega⟩
    have hpos : ∀ (tail : Bool) (l : List Int) (n : Nat), grpC (g + 1) tail l = some n → 1 ≤ n := fun tail l n h => grpC_pos _ _ _ _ h
    by_cases hp8 : p = 8
    · subst hp8
      rw [ip6F_full false (by simp) hf, rest]
      split
      · cases ho : grpC (g + 1) true (x :: r) with
        | none => rfl
        | some n => have := hpos _ _ _ ho; simp only [optEq]; exact (decide_eq_false (by omega)).symm
      · rename_i k _
        cases ho : grpC (g + 1) false ((x :: r).take k) with
        | none => rw [both8_none]
        | some n =>
          cases groupsG true ((x :: r).drop (k + 2)) with
          | none => rfl
          | some m => simp only [both8]; exact (decide_eq_false (by omega)).symm
    · rcases cut_inv 58 (x :: r) with ⟨fl, e, el, hno⟩ | ⟨fl, r', e, el, hno⟩
      · -- one field
        subst el
        rw [rest, findCC_none hno]
        simp only [grpC, e]
        by_cases hx : Hx (x :: r)
        · rw [step_end hx hp8, hx_nodot hx, (h16_iff _).2 hx]
          simp [optEq]
        · have := field_other (f := f) (p := p) (c := false) (by simp) hno hx (.inl rfl) hp8
          rw [List.append_nil] at this
          rw [this]
          have h16f : h16 (x :: r) = false := by cases h : h16 (x :: r) with | false => rfl | true => exact absurd ((h16_iff _).1 h) hx
          rw [h16f]
          cases hd : hasDot (x :: r) with
          | false =>
            have hdd : dotted (x :: r) = false := by
              cases h : dotted (x :: r) with
              | false => rfl
              | true =>
                obtain ⟨_, u, t, eu, _⟩ := dotted_parts h
                have := (hasDot_iff (x :: r)).2 (by rw [eu]; simp)
                rw [hd] at this; cases this
            rw [hdd]; simp [optEq]
          | true =>
            cases h : dotted (x :: r) with
            | false => simp [optEq]
            | true =>
              simp only [optEq, Bool.and_self, if_true, Bool.true_and, Bool.false_or, decide_true]
              rw [Bool.eq_iff_iff]; simp; omega
      · -- more
        have hfl : fl ≠ [] := by
          intro h; subst h; simp at el; exact hx58 el.1
        rw [el]
        rw [el] at hf hg
        have hlen : (fl ++ 58 :: r').length = fl.length + 1 + r'.length := by simp; omega
        have hflp : 0 < fl.length := List.length_pos_iff.2 hfl
        have ecut : cut 58 (fl ++ 58 :: r') = (fl, some r') := cut_app hno r'
        by_cases hx : Hx fl
        · have h16t := (h16_iff fl).2 hx
          cases r' with
          | nil =>
            rw [step_colon_end hx hp8, rest, findCC_app hno, findCC_one]
            simp only [Option.map_none, grpC, ecut, h16t, if_true, grpC_nil]
            rfl
          | cons y s =>
            rw [step_colon hx (by simp) hp8]
            by_cases hy : y = 58
            · subst hy
              have eF : findCC (fl ++ 58 :: 58 :: s) = some fl.length := by rw [findCC_app hno, findCC_two]; simp
              have eT : (fl ++ 58 :: 58 :: s).take fl.length = fl := by simp
              have eD : (fl ++ 58 :: 58 :: s).drop (fl.length + 2) = s := by
                rw [List.drop_append]; simp
              rw [rest, eF]
              simp only [eT, eD]
              have eG : grpC (g + 1) false fl = some 1 := by
                simp only [grpC, cut_all hno]
                simp [h16t]
              rw [eG]
              obtain ⟨f, rfl⟩ : ∃ k, f = k + 1 := ⟨f - 1, by simp at hf; omega⟩
              by_cases hp7 : p + 1 = 8
              · rw [hp7, ip6F_full false (by simp) (by simp at hf ⊢; omega)]
                cases groupsG true s with
                | none => rfl
                | some m => simp only [both8]; exact (decide_eq_false (by omega)).symm
              · rw [ip6F_colon hp7]
                by_cases hs : s = []
                · subst hs
                  rw [ip6F_nil]
                  simp only [groupsG, if_true, both8, Bool.true_or]
                  exact (decide_eq_true (by omega)).symm
                · rw [read_true f (p + 1 + 1) s hs (by simp at hf; omega) (by omega) (s.length + 1) (by omega), groupsG, if_neg hs]
                  cases grpC (s.length + 1) true s with
                  | none => rfl
                  | some m => simp only [optLe, both8]; rw [Bool.eq_iff_iff]; simp; omega
            · rw [ih (p + 1) y s hy (by simp at hf ⊢; omega) (by omega) g (by simp at hg ⊢; omega), rest, rest, findCC_app hno, findCC_next hy]
              cases hk : findCC (y :: s) with
              | none =>
                simp only [Option.map_none, grpC, ecut, h16t, if_true]
                rw [optEq_succ]
              | some k =>
                simp only [Option.map_some]
                have eT : (fl ++ 58 :: y :: s).take (k + 1 + fl.length) = fl ++ 58 :: (y :: s).take k := by
                  rw [List.take_append, List.take_of_length_le (by omega)]
                  have : k + 1 + fl.length - fl.length = k + 1 := by omega
                  rw [this]; rfl
                have eD : (fl ++ 58 :: y :: s).drop (k + 1 + fl.length + 2) = (y :: s).drop (k + 2) := by
                  rw [List.drop_append, List.drop_of_length_le (by omega)]
                  have : k + 1 + fl.length + 2 - fl.length = (k + 2) + 1 := by omega
                  rw [this]; rfl
                rw [eT, eD]
                have eC : grpC (g + 1) false (fl ++ 58 :: (y :: s).take k) = (grpC g false ((y :: s).take k)).map (· + 1) := by
                  simp only [grpC, cut_app hno, h16t, if_true]
                rw [eC, both8_succ]
        · rw [field_other hfl hno hx (.inr ⟨r', rfl⟩) hp8]
          have h16f : h16 fl = false := by cases h : h16 fl with | false => rfl | true => exact absurd ((h16_iff fl).1 h) hx
          rw [rest]
          split
          · simp only [grpC, ecut, h16f]
            simp [optEq]
          · rename_i k hk
            -- the part ahead of the mark opens with the same field
            have hkge : fl.length ≤ k := by
              rw [findCC_app hno] at hk
              obtain ⟨m, _, rfl⟩ := Option.map_eq_some_iff.1 hk
              omega
            have eG : grpC (g + 1) false ((fl ++ 58 :: r').take k) = none := by
              rw [List.take_append, List.take_of_length_le hkge]
              cases hm : k - fl.length with
              | zero =>
                simp only [List.take_zero, List.append_nil, grpC, cut_all hno]
                simp [h16f]
              | succ m =>
                simp only [List.take_succ_cons, grpC, cut_app hno, h16f]
                simp
            rw [eG, both8_none]; simp

/-- THE LAW: the reader is the grammar -/
theorem six_gram (l : List Int) : six l = gram l := by
  have both_eq : ∀ o o', both8 0 o o' = both o o' := by
    intro o o'
    cases o <;> cases o' <;> simp [both8, both]
  match l with
  | [] => rfl
  | [c] =>
    by_cases hc : c = 58
    · subst hc; decide
    · rw [six_open hc, read_false _ 0 c [] hc (Nat.le_refl _) (by omega) ([c].length + 1) (by simp), rest, gram]
      show optEq 0 (grpC 2 true [c]) = (if [c] = [] then false else is8 (groupsG true [c]))
      rw [if_neg (by simp), groupsG, if_neg (by simp)]
      show optEq 0 (grpC 2 true [c]) = is8 (grpC 2 true [c])
      cases grpC 2 true [c] with
      | none => rfl
      | some n => simp [optEq, is8]
  | c :: d :: r =>
    by_cases hc : c = 58
    · subst hc
      by_cases hd : d = 58
      · subst hd
        show ip6F r.length 1 true r = _
        rw [gram, findCC_two]
        show _ = both (groupsG false []) (groupsG true r)
        by_cases hr : r = []
        · subst hr; rfl
        · rw [read_true _ 1 r hr (Nat.le_refl _) (by omega) (r.length + 1) (by omega), groupsG, groupsG, if_pos rfl, if_neg hr]
          cases grpC (r.length + 1) true r with
          | none => rfl
          | some n => simp only [optLe, both]; rw [Bool.eq_iff_iff]; simp; omega
      · have hs : six (58 :: d :: r) = false := by
          unfold six
          split
          · rename_i h; cases h; exact absurd rfl hd
          · rfl
          · rename_i h1 h2; exact absurd rfl (h2 _)
        rw [hs, gram, findCC_next hd]
        have hz : ∀ (g : Nat) (tail : Bool) (t : List Int), grpC g tail (58 :: t) = none := by
          intro g tail t
          cases g with
          | zero => rfl
          | succ g => simp [grpC, cut, h16]
        cases hk : findCC (d :: r) with
        | none =>
          simp only [Option.map_none]
          rw [if_neg (by simp), groupsG, if_neg (by simp), hz]; rfl
        | some k =>
          simp only [Option.map_some]
          rw [List.take_succ_cons, groupsG, if_neg (by simp), hz]
          cases groupsG true ((58 :: d :: r).drop (k + 1 + 2)) <;> rfl
    · rw [six_open hc, read_false _ 0 c (d :: r) hc (Nat.le_refl _) (by omega) ((c :: d :: r).length + 1) (by omega), rest, gram]
      cases hk : findCC (c :: d :: r) with
      | none =>
        simp only
        rw [if_neg (by simp), groupsG, if_neg (by simp)]
        cases grpC ((c :: d :: r).length + 1) true (c :: d :: r) with
        | none => rfl
        | some n => simp [optEq, is8]
      | some k =>
        simp only
        rw [← both_eq]
        congr 1
        -- the part ahead of the mark is not empty
        have hk0 : 0 < k := by
          rw [findCC, if_neg (by intro ⟨h1, _⟩; exact hc h1)] at hk
          obtain ⟨m, _, rfl⟩ := Option.map_eq_some_iff.1 hk
          omega
        have hne : (c :: d :: r).take k ≠ [] := by
          obtain ⟨m, rfl⟩ : ∃ m, k = m + 1 := ⟨k - 1, by omega⟩
          simp
        rw [groupsG, if_neg hne]
        apply grpC_fuel
        · have := List.length_take_le k (c :: d :: r)
          have h2 : ((c :: d :: r).take k).length ≤ (c :: d :: r).length := by rw [List.length_take]; omega
          omega
        · omega
end Go.Proofs.Qxb6602093a.Plain
