/-
  WALKS OF THE SEAT b6602093a: texts as lists of bytes; 'zzB1Utoa'; the digits' tests.
-/
import Derived.Test.Qxb6602093aRows
import Derived.Test.Qxb6602093aPlain
import Derived.WalkKit
import Derived.Below
import Derived.WalkLawsBesides
import Derived.Laws.BytesArg
namespace Go.Proofs.Qxb6602093a
open Go.RowKit Plain

/-- a text's bytes -/
def bl (s : ByteArray) : List Int := s.data.toList.map fun b => (b.toNat : Int)
theorem bl_length (s : ByteArray) : (bl s).length = s.size := by
  show (s.data.toList.map _).length = s.data.size
  simp
theorem bl_append (s t : ByteArray) : bl (s ++ t) = bl s ++ bl t := by simp [bl]
theorem bl_get (s : ByteArray) (k : Nat) (h : k < s.size) : (bl s)[k]? = some ((s[k]).toNat : Int) := by
  have h' : k < s.data.size := h
  show (s.data.toList.map _)[k]? = some ((s.data[k]'h').toNat : Int)
  rw [List.getElem?_map, List.getElem?_eq_getElem (by simpa using h')]; rfl
theorem bl_nums {l : List Int} (h : ∀ z ∈ l, 0 ≤ z ∧ z < 256) : bl (strOfNums l) = l := by
  simp only [bl, strOfNums_data, List.map_map]
  conv => rhs; rw [← List.map_id l]
  apply List.map_congr_left
  intro z hz
  have := h z hz
  simp only [Function.comp, UInt8.toNat_ofNat', id]
  omega

theorem ret_bool {a b : Bool} (h : a = b) : Ending.returned (.bool a) = .returned (.bool b) := by rw [h]

theorem utoa_0 (w : World) :
    Calls Try.prog 21 #[.int .u64 0] w fun e w' => ∃ t, e = .returned (.string t) ∧ bl t = utoa 0 ∧ Below w.heap.size w w' := by
  go_enter Try.func21, Try.ntmps21
  go_wp2
  go_ret
  exact ⟨_, rfl, rfl, Below.refl _ _⟩

theorem utoa_1 (n : Nat) (h0 : 0 < n) (h : n < 10) (w : World) :
    Calls Try.prog 21 #[.int .u64 n] w fun e w' => ∃ t, e = .returned (.string t) ∧ bl t = utoa n ∧ Below w.heap.size w w' := by
  have hz : ((n : Int) == 0) = false := by simp; omega
  have hn0 : (0 : Int) < (n : Int) := by omega
  have hn1 : ¬ (0 : Int) < (n : Int) / 10 := by omega
  have e1 : (48 : Int) + (n : Int) % 10 = 48 + (n : Int) := by omega
  have HU : Hid (utoa n = [48 + (n : Int)]) := by show _ = _; simp [utoa, h]
  have hcv : (convert 38 9 (.slice (some ⟨w.heap.size, 19, none⟩) 1 1)).run Try.prog (w.alloc (.cells #[.int .u8 0, .int .u8 0, .int .u8 0, .int .u8 0, .int .u8 0, .int .u8 0, .int .u8 0, .int .u8 0, .int .u8 0, .int .u8 0, .int .u8 0, .int .u8 0, .int .u8 0, .int .u8 0, .int .u8 0, .int .u8 0, .int .u8 0, .int .u8 0, .int .u8 0, .int .u8 (48 + (n : Int))] 40)) = .ok (.string (strOfNums (utoa n))) (w.alloc (.cells #[.int .u8 0, .int .u8 0, .int .u8 0, .int .u8 0, .int .u8 0, .int .u8 0, .int .u8 0, .int .u8 0, .int .u8 0, .int .u8 0, .int .u8 0, .int .u8 0, .int .u8 0, .int .u8 0, .int .u8 0, .int .u8 0, .int .u8 0, .int .u8 0, .int .u8 0, .int .u8 (48 + (n : Int))] 40)) :=
    run_convert_bytes_arg (P := Try.prog) _ 38 5 Try.underlying38 Try.underlying5 w.heap.size 19 1 1 (utoa n) (by rw [HU.out]; rfl) (by
      intro i hi
      rw [HU.out]
      match i, hi with
      | 0, _ => simp) 9 Try.underlying9
  go_enter Try.func21, Try.ntmps21
  go_wp2
  refine wp_loop_rounds 2 ?_
  rw [rounds_succ]
  go_wp2
  rw [rounds_succ]
  go_wp2
  go_ret
  refine ⟨_, rfl, bl_nums ?_, (Below.refl _ _).alloc (Nat.le_refl _) _⟩
  rw [HU.out]; intro z hz; simp at hz; omega

theorem utoa_2 (n : Nat) (h0 : 10 ≤ n) (h : n < 100) (w : World) :
    Calls Try.prog 21 #[.int .u64 n] w fun e w' => ∃ t, e = .returned (.string t) ∧ bl t = utoa n ∧ Below w.heap.size w w' := by
  have hz : ((n : Int) == 0) = false := by simp; omega
  have hn0 : (0 : Int) < (n : Int) := by omega
  have hn1 : (0 : Int) < (n : Int) / 10 := by omega
  have hn2 : ¬ (0 : Int) < (n : Int) / 10 / 10 := by omega
  have HU : Hid (utoa n = [48 + (n : Int) / 10 % 10, 48 + (n : Int) % 10]) := by
    show _ = _
    rw [utoa, if_neg (by omega), if_pos h]
    have a1 : ((n / 10 : Nat) : Int) = (n : Int) / 10 % 10 := by omega
    have a2 : ((n % 10 : Nat) : Int) = (n : Int) % 10 := by omega
    rw [a1, a2]
  have hcv : (convert 38 9 (.slice (some ⟨w.heap.size, 18, none⟩) 2 2)).run Try.prog (w.alloc (.cells #[.int .u8 0, .int .u8 0, .int .u8 0, .int .u8 0, .int .u8 0, .int .u8 0, .int .u8 0, .int .u8 0, .int .u8 0, .int .u8 0, .int .u8 0, .int .u8 0, .int .u8 0, .int .u8 0, .int .u8 0, .int .u8 0, .int .u8 0, .int .u8 0, .int .u8 (48 + (n : Int) / 10 % 10), .int .u8 (48 + (n : Int) % 10)] 40)) = .ok (.string (strOfNums (utoa n))) (w.alloc (.cells #[.int .u8 0, .int .u8 0, .int .u8 0, .int .u8 0, .int .u8 0, .int .u8 0, .int .u8 0, .int .u8 0, .int .u8 0, .int .u8 0, .int .u8 0, .int .u8 0, .int .u8 0, .int .u8 0, .int .u8 0, .int .u8 0, .int .u8 0, .int .u8 0, .int .u8 (48 + (n : Int) / 10 % 10), .int .u8 (48 + (n : Int) % 10)] 40)) :=
    run_convert_bytes_arg (P := Try.prog) _ 38 5 Try.underlying38 Try.underlying5 w.heap.size 18 2 2 (utoa n) (by rw [HU.out]; rfl) (by
      intro i hi
      rw [HU.out]
      match i, hi with
      | 0, _ => simp
      | 1, _ => simp) 9 Try.underlying9
  go_enter Try.func21, Try.ntmps21
  go_wp2
  refine wp_loop_rounds 3 ?_
  rw [rounds_succ]
  go_wp2
  rw [rounds_succ]
  go_wp2
  rw [rounds_succ]
  go_wp2
  go_ret
  refine ⟨_, rfl, bl_nums ?_, (Below.refl _ _).alloc (Nat.le_refl _) _⟩
  rw [HU.out]; intro z hz; simp at hz; omega

theorem utoa_3 (n : Nat) (h0 : 100 ≤ n) (h : n < 1000) (w : World) :
    Calls Try.prog 21 #[.int .u64 n] w fun e w' => ∃ t, e = .returned (.string t) ∧ bl t = utoa n ∧ Below w.heap.size w w' := by
  have hz : ((n : Int) == 0) = false := by simp; omega
  have hn0 : (0 : Int) < (n : Int) := by omega
  have hn1 : (0 : Int) < (n : Int) / 10 := by omega
  have hn2 : (0 : Int) < (n : Int) / 10 / 10 := by omega
  have hn3 : ¬ (0 : Int) < (n : Int) / 10 / 10 / 10 := by omega
  have HU : Hid (utoa n = [48 + (n : Int) / 10 / 10 % 10, 48 + (n : Int) / 10 % 10, 48 + (n : Int) % 10]) := by
    show _ = _
    rw [utoa, if_neg (by omega), if_neg (by omega)]
    have a1 : ((n / 100 : Nat) : Int) = (n : Int) / 10 / 10 % 10 := by omega
    have a2 : ((n / 10 % 10 : Nat) : Int) = (n : Int) / 10 % 10 := by omega
    have a3 : ((n % 10 : Nat) : Int) = (n : Int) % 10 := by omega
    rw [a1, a2, a3]
  have hcv : (convert 38 9 (.slice (some ⟨w.heap.size, 17, none⟩) 3 3)).run Try.prog (w.alloc (.cells #[.int .u8 0, .int .u8 0, .int .u8 0, .int .u8 0, .int .u8 0, .int .u8 0, .int .u8 0, .int .u8 0, .int .u8 0, .int .u8 0, .int .u8 0, .int .u8 0, .int .u8 0, .int .u8 0, .int .u8 0, .int .u8 0, .int .u8 0, .int .u8 (48 + (n : Int) / 10 / 10 % 10), .int .u8 (48 + (n : Int) / 10 % 10), .int .u8 (48 + (n : Int) % 10)] 40)) = .ok (.string (strOfNums (utoa n))) (w.alloc (.cells #[.int .u8 0, .int .u8 0, .int .u8 0, .int .u8 0, .int .u8 0, .int .u8 0, .int .u8 0, .int .u8 0, .int .u8 0, .int .u8 0, .int .u8 0, .int .u8 0, .int .u8 0, .int .u8 0, .int .u8 0, .int .u8 0, .int .u8 0, .int .u8 (48 + (n : Int) / 10 / 10 % 10), .int .u8 (48 + (n : Int) / 10 % 10), .int .u8 (48 + (n : Int) % 10)] 40)) :=
    run_convert_bytes_arg (P := Try.prog) _ 38 5 Try.underlying38 Try.underlying5 w.heap.size 17 3 3 (utoa n) (by rw [HU.out]; rfl) (by
      intro i hi
      rw [HU.out]
      match i, hi with
      | 0, _ => simp
      | 1, _ => simp
      | 2, _ => simp) 9 Try.underlying9
  go_enter Try.func21, Try.ntmps21
  go_wp2
  refine wp_loop_rounds 4 ?_
  rw [rounds_succ]
  go_wp2
  rw [rounds_succ]
  go_wp2
  rw [rounds_succ]
  go_wp2
  rw [rounds_succ]
  go_wp2
  go_ret
  refine ⟨_, rfl, bl_nums ?_, (Below.refl _ _).alloc (Nat.le_refl _) _⟩
  rw [HU.out]; intro z hz; simp at hz; omega

/-- 'zzB1Utoa' below 1000 -/
theorem utoa_any (z : Int) (n : Nat) (hz : z = (n : Int)) (h : n < 1000) (w : World) :
    Calls Try.prog 21 #[.int .u64 z] w fun e w' => ∃ t, e = .returned (.string t) ∧ bl t = utoa n ∧ Below w.heap.size w w' := by
  subst hz
  by_cases h0 : n = 0
  · subst h0; exact utoa_0 w
  · by_cases h1 : n < 10
    · exact utoa_1 n (by omega) h1 w
    · by_cases h2 : n < 100
      · exact utoa_2 n (by omega) h2 w
      · exact utoa_3 n (by omega) h w

/-! ### the digits' tests -/
theorem isdigit_any (c : Int) (w : World) :
    Calls Try.prog 29 #[.int .u8 c] w fun e w' => e = .returned (.bool (isd c)) ∧ w = w' := by
  go_enter Try.func29, Try.ntmps29
  go_wp2
  all_goals (go_ret; refine ⟨ret_bool ?_, rfl⟩)
  all_goals (rw [Bool.eq_iff_iff]; simp [isd]; try omega)
theorem ishex_any (c : Int) (w : World) :
    Calls Try.prog 27 #[.int .u8 c] w fun e w' => e = .returned (.bool (ish c)) ∧ w = w' := by
  by_cases h : isd c = true
  · have hh : ish c = true := by simp [ish, h]
    rw [hh]
    go_enter Try.func27, Try.ntmps27
    go_wp2_with (go_at_call 29; refine (isdigit_any _ _).mono ?_; rintro e w' ⟨rfl, rfl⟩)
    go_ret
    exact ⟨rfl, rfl⟩
  · have h' : isd c = false := by simpa using h
    go_enter Try.func27, Try.ntmps27
    go_wp2_with (go_at_call 29; refine (isdigit_any _ _).mono ?_; rintro e w' ⟨rfl, rfl⟩)
    all_goals (go_ret; refine ⟨ret_bool ?_, rfl⟩)
    all_goals (rw [Bool.eq_iff_iff]; simp [ish, h']; try omega)
theorem hexdigit_any (c : Int) (w : World) :
    Calls Try.prog 15 #[.int .u8 c] w fun e w' => e = .returned (.bool (ish c)) ∧ w = w' := by
  go_enter Try.func15, Try.ntmps15
  go_wp2
  all_goals (go_ret; refine ⟨ret_bool ?_, rfl⟩)
  all_goals (rw [Bool.eq_iff_iff]; simp [ish, isd]; try omega)
end Go.Proofs.Qxb6602093a
