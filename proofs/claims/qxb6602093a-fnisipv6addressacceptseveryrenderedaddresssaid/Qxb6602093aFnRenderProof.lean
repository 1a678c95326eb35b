/-
  A PROOF OF 'Rows.FnIsIPv6AddressAcceptsEveryRenderedAddressSaid': the frame after the kit's skeleton for slices and its worked array by value; the walk is ours.
-/
import Derived.Test.Qxb6602093aRows
import Derived.WalkKit
import Derived.ProofKit
import Derived.OpenShut
import Derived.ShutString
import Derived.ChangeOld
import Derived.Below
import Derived.Test.Qxb6602093aRender
namespace Go.Proofs.Qxb6602093a.fnRender
open Go.ChangeShapes Go.WideShapes Go.ChangeAt Go.RowKit
set_option linter.unusedVariables false

theorem own : ownKnob Try.prog.godebug = none := by kernel_rfl
theorem cells23 : Try.prog.cellsOf 23 = 1 := by kernel_rfl
theorem cells24 : Try.prog.cellsOf 24 = 8 := by kernel_rfl
theorem list8 {α : Type} (l : List α) (h : l.length = 8) : ∃ a0 a1 a2 a3 a4 a5 a6 a7, l = [a0, a1, a2, a3, a4, a5, a6, a7] := by
  match l, h with
  | [a0, a1, a2, a3, a4, a5, a6, a7], _ => exact ⟨a0, a1, a2, a3, a4, a5, a6, a7, rfl⟩

/-- an array of eight one-cell elements, taken apart -/
theorem trod_array8 {H : Type} {enc : TypeId × Value → H} {P : Program} {w : World} {base : Nat} {spare : Nat → Bool} {held : Bool} {t e : TypeId} {fuel : Nat} {c0 c1 c2 c3 c4 c5 c6 c7 : Value} {x : DataW H × List MemPlace}
    (ht : P.underlying t = some (.array 8 e)) (hce : P.cellsOf e = 1) (h : DataW.trod enc P w base spare held fuel t [c0, c1, c2, c3, c4, c5, c6, c7] = some x) :
    ∃ y0 y1 y2 y3 y4 y5 y6 y7 n, x = (.agg [y0.1, y1.1, y2.1, y3.1, y4.1, y5.1, y6.1, y7.1], y0.2 ++ (y1.2 ++ (y2.2 ++ (y3.2 ++ (y4.2 ++ (y5.2 ++ (y6.2 ++ y7.2))))))) ∧
      DataW.trod enc P w base spare held n e [c0] = some y0 ∧ DataW.trod enc P w base spare held n e [c1] = some y1 ∧ DataW.trod enc P w base spare held n e [c2] = some y2 ∧ DataW.trod enc P w base spare held n e [c3] = some y3 ∧
      DataW.trod enc P w base spare held n e [c4] = some y4 ∧ DataW.trod enc P w base spare held n e [c5] = some y5 ∧ DataW.trod enc P w base spare held n e [c6] = some y6 ∧ DataW.trod enc P w base spare held n e [c7] = some y7 := by
  obtain ⟨xs, m, _, hx, _, hlen, hel⟩ := DataW.trod_array ht h
  obtain ⟨y0, y1, y2, y3, y4, y5, y6, y7, rfl⟩ := list8 xs hlen
  refine ⟨y0, y1, y2, y3, y4, y5, y6, y7, m, ?_, ?_, ?_, ?_, ?_, ?_, ?_, ?_, ?_⟩
  · rw [hx]; simp
  · simpa [hce] using hel 0 (by omega)
  · simpa [hce] using hel 1 (by omega)
  · simpa [hce] using hel 2 (by omega)
  · simpa [hce] using hel 3 (by omega)
  · simpa [hce] using hel 4 (by omega)
  · simpa [hce] using hel 5 (by omega)
  · simpa [hce] using hel 6 (by omega)
  · simpa [hce] using hel 7 (by omega)
theorem fit16 {n : Int} (h : (Lit.int .u16 n).wf = true) : 0 ≤ n ∧ n < 65536 := by
  have := bounds_u16 h
  omega

set_option maxHeartbeats 800000 in
set_option maxRecDepth 100000 in
theorem lifted (os : Os) (started : os.Started) (H : Type) (enc : TypeId × Value → H) :
    ReturnsInHanded {} Try.checked os 4 .any (Rows.fnIsIPv6AddressAcceptsEveryRenderedAddressSpec.pre6 enc Try.prog Try.f4 Rows.fnIsIPv6AddressAcceptsEveryRenderedAddressRow.domain false) (Rows.fnIsIPv6AddressAcceptsEveryRenderedAddressSpec.post enc Try.prog Try.f4 false true false false) := by
  refine returnsInHanded_of_change (C := Try.checked) own started (by kernel_rfl) Try.func4
    (ChangeSpec.witness6 (enc := enc) (C := Try.checked) false ⟨#[], #[.agg #[.int .u16 0, .int .u16 0, .int .u16 0, .int .u16 0, .int .u16 0, .int .u16 0, .int .u16 0, .int .u16 0], .int .i64 0, .int .i64 0, .bool false, .bool false, .bool false], []⟩ 8 (by kernel_rfl) (by kernel_rfl) (by kernel_rfl) (by kernel_rfl)) ?_
  intro W base args ds gs before hval0 hW hcnd _
  have hval : ∀ (j : Nat) t v, Try.f4.params[j]? = some t → args[j]? = some v → Value.okWide Try.prog W .any base t v := hval0
  have hW' := hW
  obtain ⟨p, q, hA0, hV, rfl, hfz, hnd⟩ := hW
  have hA : DataW.TrodAll enc Try.prog W 0 (fun _ => true) true Try.f4.params.toList args.toList ds p := hA0
  rw [Try.params4] at hA hval
  obtain ⟨v0, vs0, d0, ds0, p0, q0, hargs, rfl, rfl, h0, r0⟩ := trodAll_cons hA
  obtain ⟨v1, vs1, d1, ds1, p1, q1, rfl, rfl, rfl, h1, r1⟩ := trodAll_cons r0
  obtain ⟨v2, vs2, d2, ds2, p2, q2, rfl, rfl, rfl, h2, r2⟩ := trodAll_cons r1
  obtain ⟨v3, vs3, d3, ds3, p3, q3, rfl, rfl, rfl, h3, r3⟩ := trodAll_cons r2
  obtain ⟨v4, vs4, d4, ds4, p4, q4, rfl, rfl, rfl, h4, r4⟩ := trodAll_cons r3
  obtain ⟨v5, vs5, d5, ds5, p5, q5, rfl, rfl, rfl, h5, r5⟩ := trodAll_cons r4
  obtain ⟨rfl, rfl, rfl⟩ := trodAll_nil r5
  obtain rfl : args = #[v0, v1, v2, v3, v4, v5] := by cases args; simp_all
  obtain ⟨rfl, rfl⟩ := trodVars_none hV
  obtain ⟨cs, rfl, hsz, _⟩ : ∃ cs, v0 = .agg cs ∧ cs.size = Try.prog.cellsOf 24 ∧ Row.okWide Try.prog W .any base 24 cs := by
    have := hval 0 24 v0 rfl rfl
    simpa [Value.okWide, Try.underlying24] using this
  rw [cells24] at hsz
  obtain ⟨l⟩ := cs
  obtain ⟨c0, c1, c2, c3, c4, c5, c6, c7, rfl⟩ := list8 l hsz
  obtain ⟨fuel, hf⟩ := h0
  obtain ⟨y0, y1, y2, y3, y4, y5, y6, y7, m, hx, hy0, hy1, hy2, hy3, hy4, hy5, hy6, hy7⟩ := trod_array8 Try.underlying24 cells23 hf
  obtain ⟨x0, e0, rfl, w0⟩ := DataW.trod_int Try.underlying23 hy0
  obtain ⟨x1, e1, rfl, w1⟩ := DataW.trod_int Try.underlying23 hy1
  obtain ⟨x2, e2, rfl, w2⟩ := DataW.trod_int Try.underlying23 hy2
  obtain ⟨x3, e3, rfl, w3⟩ := DataW.trod_int Try.underlying23 hy3
  obtain ⟨x4, e4, rfl, w4⟩ := DataW.trod_int Try.underlying23 hy4
  obtain ⟨x5, e5, rfl, w5⟩ := DataW.trod_int Try.underlying23 hy5
  obtain ⟨x6, e6, rfl, w6⟩ := DataW.trod_int Try.underlying23 hy6
  obtain ⟨x7, e7, rfl, w7⟩ := DataW.trod_int Try.underlying23 hy7
  simp at e0 e1 e2 e3 e4 e5 e6 e7
  subst e0 e1 e2 e3 e4 e5 e6 e7
  simp only [Prod.mk.injEq] at hx
  obtain ⟨rfl, rfl⟩ := hx
  obtain ⟨a1, rfl, rfl, rfl, k1⟩ := open_int Try.underlying3 (hval 1 3 v1 rfl rfl) h1
  obtain ⟨a2, rfl, rfl, rfl, k2⟩ := open_int Try.underlying3 (hval 2 3 v2 rfl rfl) h2
  obtain ⟨a3, rfl, rfl, rfl⟩ := open_bool Try.underlying4 (hval 3 4 v3 rfl rfl) h3
  obtain ⟨a4, rfl, rfl, rfl⟩ := open_bool Try.underlying4 (hval 4 4 v4 rfl rfl) h4
  obtain ⟨a5, rfl, rfl, rfl⟩ := open_bool Try.underlying4 (hval 5 4 v5 rfl rfl) h5
  clear hA0 hval0
  refine (render_any x0 x1 x2 x3 x4 x5 x6 x7 a1 a2 ⟨fit16 w0, fit16 w1, fit16 w2, fit16 w3, fit16 w4, fit16 w5, fit16 w6, fit16 w7⟩ a3 a4 a5 W).mono fun e W' ⟨he, bel⟩ => ?_
  subst he
  have rdA : ∀ sp : Nat → Bool, DataW.Trod enc Try.prog W' 0 sp true 24 (.agg #[.int .u16 x0, .int .u16 x1, .int .u16 x2, .int .u16 x3, .int .u16 x4, .int .u16 x5, .int .u16 x6, .int .u16 x7]) (DataW.agg [.lit (.int .u16 x0), .lit (.int .u16 x1), .lit (.int .u16 x2), .lit (.int .u16 x3), .lit (.int .u16 x4), .lit (.int .u16 x5), .lit (.int .u16 x6), .lit (.int .u16 x7)]) [] :=
    fun sp => ⟨2, by simp [DataW.trod, Value.cells, Try.underlying24, Try.underlying23, cells24, cells23, w0, w1, w2, w3, w4, w5, w6, w7, show List.range 8 = [0, 1, 2, 3, 4, 5, 6, 7] from rfl]⟩
  exact ⟨_, rfl, _, _, _, [], _, [], hW', trodAll_mk1 (shut_bool Try.underlying4 _), (trodAll_cons_mk (rdA _) (trodAll_cons_mk (shut_int Try.underlying3 k1) (trodAll_cons_mk (shut_int Try.underlying3 k2) (trodAll_cons_mk (shut_bool Try.underlying4 _) (trodAll_cons_mk (shut_bool Try.underlying4 _) (trodAll_cons_mk (shut_bool Try.underlying4 _) trodAll_mk0)))))), rfl, bel.frame _, fun h => by cases h⟩

theorem over : Rows.fnIsIPv6AddressAcceptsEveryRenderedAddressRow.holds Try.pinned (OpenSpec.ofChange Rows.fnIsIPv6AddressAcceptsEveryRenderedAddressSpec) :=
  OpenClaim.holds_of_wide 4 Try.f4 rfl rfl rfl rfl rfl rfl rfl ⟨rfl, rfl, rfl, rfl, rfl⟩ rfl rfl rfl rfl rfl (by kernel_rfl) Try.func4 (by kernel_rfl)
    (of_decide_eq_true (by kernel_rfl)) (by unfold Func.isWrapper; first | (rw [if_pos (by decide +kernel)]; kernel_rfl) | (rw [if_neg (by decide +kernel)]; exact ⟨rfl, rfl⟩))
    (fun os started H enc _ => lifted os started H enc)

/-- THE STATEMENT -/
theorem proved : Rows.FnIsIPv6AddressAcceptsEveryRenderedAddressSaid := over
#print axioms proved
end Go.Proofs.Qxb6602093a.fnRender
