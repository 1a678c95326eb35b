/-
  THE PLAIN LAWS OF THE SEAT b6602093a, SECOND PART: no Go in sight: the reader of an IPv6 address.
-/
import Derived.Test.Qxb6602093aPlain
namespace Go.Proofs.Qxb6602093a.Plain

/-- how many hex digits a text opens with, k at most -/
def hexN : Nat → List Int → Nat
  | 0, _ => 0
  | _ + 1, [] => 0
  | k + 1, c :: r => if ish c = true then hexN k r + 1 else 0
/-- what follows a group's digits: 'l': from the group's start on; 'k': its digits; 'go': the reader from there on -/
def behind (p : Nat) (c : Bool) (l : List Int) (k : Nat) (go : List Int → Bool) : Bool :=
  match l.drop k with
  | [] => go []
  | y :: t =>
    if y = 46 then (if k = 0 ∨ 6 < p then false else dotted l && (c || decide (p + 2 = 8)))
    else if y = 58 then (if t = [] then false else go t)
    else false
/-- the reader: fuel, pieces, compressed -/
def ip6F : Nat → Nat → Bool → List Int → Bool
  | 0, p, c, _ => c || decide (p = 8)
  | _ + 1, p, c, [] => c || decide (p = 8)
  | f + 1, p, c, x :: r =>
    if p = 8 then false
    else if x = 58 then (if c = true then false else ip6F f (p + 1) true r)
    else behind p c (x :: r) (hexN 4 (x :: r)) (ip6F f (p + 1) c)
/-- an IPv6 address -/
def six (l : List Int) : Bool :=
  match l with
  | 58 :: 58 :: t => ip6F t.length 1 true t
  | 58 :: _ => false
  | l => ip6F l.length 0 false l

theorem ip6F_nil (f p : Nat) (c : Bool) : ip6F f p c [] = (c || decide (p = 8)) := by
  cases f <;> rfl
theorem ip6F_full {f : Nat} (c : Bool) {l : List Int} (h : l ≠ []) (hf : l.length ≤ f) : ip6F f 8 c l = false := by
  cases f with
  | zero => simp at hf; exact absurd hf h
  | succ f =>
    cases l with
    | nil => exact absurd rfl h
    | cons x r => simp [ip6F]
theorem ip6F_cons {f p : Nat} {c : Bool} {x : Int} {r : List Int} (hp : p ≠ 8) (hx : x ≠ 58) :
    ip6F (f + 1) p c (x :: r) = behind p c (x :: r) (hexN 4 (x :: r)) (ip6F f (p + 1) c) := by
  rw [ip6F, if_neg hp, if_neg hx]
theorem ip6F_colon {f p : Nat} {r : List Int} (hp : p ≠ 8) : ip6F (f + 1) p false (58 :: r) = ip6F f (p + 1) true r := by
  rw [ip6F, if_neg hp, if_pos rfl]; rfl
theorem ip6F_colon2 {f p : Nat} {r : List Int} : ip6F (f + 1) p true (58 :: r) = false := by
  simp [ip6F]

theorem ish_colon : ish 58 = false := by decide
theorem ish_dot : ish 46 = false := by decide
theorem ish_ne_colon {c : Int} (h : ish c = true) : c ≠ 58 := by
  intro e; rw [e, ish_colon] at h; cases h
theorem ish_ne_dot {c : Int} (h : ish c = true) : c ≠ 46 := by
  intro e; rw [e, ish_dot] at h; cases h
theorem isd_ish {c : Int} (h : isd c = true) : ish c = true := by simp [ish, h]

/-- a group: one to four hex digits -/
def Hx (h : List Int) : Prop := 1 ≤ h.length ∧ h.length ≤ 4 ∧ ∀ c ∈ h, ish c = true

theorem hexN_app : ∀ (k : Nat) (h t : List Int), h.length ≤ k → (∀ c ∈ h, ish c = true) → (t = [] ∨ ∃ y r, t = y :: r ∧ ish y = false) → hexN k (h ++ t) = h.length := by
  intro k
  induction k with
  | zero =>
    intro h t hl _ _
    have : h = [] := List.eq_nil_of_length_eq_zero (by omega)
    subst this; rfl
  | succ k ih =>
    intro h t hl hh ht
    cases h with
    | nil =>
      rcases ht with rfl | ⟨y, r, rfl, hy⟩
      · rfl
      · simp [hexN, hy]
    | cons c h =>
      have hc := hh c (by simp)
      simp only [List.cons_append, hexN, hc, if_true, List.length_cons]
      rw [ih h t (by simp at hl; omega) (fun c hc => hh c (by simp [hc])) ht]

theorem hx_cons {h : List Int} (hh : Hx h) : ∃ c r, h = c :: r ∧ c ≠ 58 := by
  obtain ⟨h1, _, h3⟩ := hh
  cases h with
  | nil => simp at h1
  | cons c r => exact ⟨c, r, rfl, ish_ne_colon (h3 c (by simp))⟩

/-- a group, a colon, more -/
theorem step_colon {f p : Nat} {c : Bool} {h t : List Int} (hh : Hx h) (ht : t ≠ []) (hp : p ≠ 8) :
    ip6F (f + 1) p c (h ++ 58 :: t) = ip6F f (p + 1) c t := by
  obtain ⟨x, r, e, hx⟩ := hx_cons hh
  have hn := hexN_app 4 h (58 :: t) hh.2.1 hh.2.2 (.inr ⟨58, t, rfl, ish_colon⟩)
  rw [e] at hn ⊢
  rw [List.cons_append] at hn ⊢
  rw [ip6F_cons hp hx, hn]
  have hd : (x :: (r ++ 58 :: t)).drop (x :: r).length = 58 :: t := by
    rw [← List.cons_append, List.drop_left]
  rw [behind, hd]
  simp [ht]
/-- a group, nothing more -/
theorem step_end {f p : Nat} {c : Bool} {h : List Int} (hh : Hx h) (hp : p ≠ 8) : ip6F (f + 1) p c h = (c || decide (p + 1 = 8)) := by
  obtain ⟨x, r, e, hx⟩ := hx_cons hh
  have hn := hexN_app 4 h [] hh.2.1 hh.2.2 (.inl rfl)
  rw [List.append_nil] at hn
  rw [e] at hn ⊢
  rw [ip6F_cons hp hx, hn, behind, List.drop_length]
  exact ip6F_nil _ _ _
/-- a group that opens with 1 to 4 hex digits and goes on with a dot -/
theorem step_dot {f p : Nat} {c : Bool} {h t : List Int} (hh : Hx h) (hp : p ≤ 6) :
    ip6F (f + 1) p c (h ++ 46 :: t) = (dotted (h ++ 46 :: t) && (c || decide (p + 2 = 8))) := by
  obtain ⟨x, r, e, hx⟩ := hx_cons hh
  have hn := hexN_app 4 h (46 :: t) hh.2.1 hh.2.2 (.inr ⟨46, t, rfl, ish_dot⟩)
  rw [e] at hn ⊢
  rw [List.cons_append] at hn ⊢
  rw [ip6F_cons (by omega) hx, hn]
  have hd : (x :: (r ++ 46 :: t)).drop (x :: r).length = 46 :: t := by
    rw [← List.cons_append, List.drop_left]
  rw [behind, hd]
  simp; intro h; omega
end Go.Proofs.Qxb6602093a.Plain
