/-
  No cell of these rows narrows 'for every input' (looked for: loops, veiled, ifaces, maps, wideKeys, modest, calm, conditions, laid).
  DERIVED. THE GIVEN ROWS OF THIS SEAT. 6 by the template 'for every input the law returns true; each argument reads behind the call as it read before'; 0 by the template 'total and deterministic' (their statements: Qxb6602093aTotals.lean).
  GIVEN WITH THE SEED: the statements are not yours to turn. If you find one false, say at which input.
  Laid BY PROGRAM, IN A SANDBOX (cutbox-rows.mjs): the forced cells as the released guide's own fill.sh prints them over the translation 3f74de2e0c82d656… (all of the seat's roots in one cut). By AI agents, Wed Nov 11 2026. No macro, syntax, notation, axiom, sorry.
-/
import Derived.Test.Qxb6602093aChecked
import GoSem.Claim
import GoSem.ClaimJoined
import GoSem.ClaimMapViews
import Derived.JoinedTies
import Derived.KernelRfl
namespace Go.Proofs.Qxb6602093a
/- THE CELL 'sum', in the pinned program and in every row, IS THE sha256 OF THE DUMP (.gsa) THAT Qxb6602093aProg.lean LOADS. Nothing in Lean hashes anything: it is a label: what it is worth is what the hold of that sum in a sandbox is worth. -/
noncomputable def Try.pinned : Pinned := { name := "qxb6602093a", sum := "3f74de2e0c82d656d40300e3ccbc987d59746934bb8603b3f9f67443d4e6c9c1", checked := Try.checked }
namespace Rows
def none {H : Type} : Left H := { results := [], args := [] }

/-- 'zzlaws_firefox_b1.FnIsIPv6AddressMatchesGrammarModel': WHATEVER THE INPUT: true; the input reads as it did. -/
def fnIsIPv6AddressMatchesGrammarModelSpec : ChangeSpec := { name := "fnIsIPv6AddressMatchesGrammarModel", fn := fun _ => fun
  | [d] => { results := [.lit (.bool true)], args := [d] }
  | _ => none }
def fnIsIPv6AddressMatchesGrammarModelRow : OpenClaim := { program := "qxb6602093a", sum := "3f74de2e0c82d656d40300e3ccbc987d59746934bb8603b3f9f67443d4e6c9c1", func := "example.com/upkeep/upkeep/zzlaws_firefox_b1.FnIsIPv6AddressMatchesGrammarModel", spec := "fnIsIPv6AddressMatchesGrammarModel", apart := false }
def FnIsIPv6AddressMatchesGrammarModelSaid : Prop := fnIsIPv6AddressMatchesGrammarModelRow.holds Try.pinned (OpenSpec.ofChange fnIsIPv6AddressMatchesGrammarModelSpec)

/-- ITS FALSE NEIGHBOUR: 'it returns false'. Refute it at one input. -/
def fnIsIPv6AddressMatchesGrammarModelWrong : ChangeSpec := { name := "fnIsIPv6AddressMatchesGrammarModel", fn := fun _ => fun
  | [d] => { results := [.lit (.bool false)], args := [d] }
  | _ => none }
def FnIsIPv6AddressMatchesGrammarModelWrongFalsely : Prop := fnIsIPv6AddressMatchesGrammarModelRow.holds Try.pinned (OpenSpec.ofChange fnIsIPv6AddressMatchesGrammarModelWrong)

/-- 'zzlaws_firefox_b1.FnIsIPv6AddressAcceptsEveryRenderedAddress': WHATEVER THE INPUT: true; the input reads as it did. -/
def fnIsIPv6AddressAcceptsEveryRenderedAddressSpec : ChangeSpec := { name := "fnIsIPv6AddressAcceptsEveryRenderedAddress", fn := fun _ => fun
  | [d1, d2, d3, d4, d5, d6] => { results := [.lit (.bool true)], args := [d1, d2, d3, d4, d5, d6] }
  | _ => none }
def fnIsIPv6AddressAcceptsEveryRenderedAddressRow : OpenClaim := { program := "qxb6602093a", sum := "3f74de2e0c82d656d40300e3ccbc987d59746934bb8603b3f9f67443d4e6c9c1", func := "example.com/upkeep/upkeep/zzlaws_firefox_b1.FnIsIPv6AddressAcceptsEveryRenderedAddress", spec := "fnIsIPv6AddressAcceptsEveryRenderedAddress", apart := false }
def FnIsIPv6AddressAcceptsEveryRenderedAddressSaid : Prop := fnIsIPv6AddressAcceptsEveryRenderedAddressRow.holds Try.pinned (OpenSpec.ofChange fnIsIPv6AddressAcceptsEveryRenderedAddressSpec)

/-- ITS FALSE NEIGHBOUR: 'it returns false'. Refute it at one input. -/
def fnIsIPv6AddressAcceptsEveryRenderedAddressWrong : ChangeSpec := { name := "fnIsIPv6AddressAcceptsEveryRenderedAddress", fn := fun _ => fun
  | [d1, d2, d3, d4, d5, d6] => { results := [.lit (.bool false)], args := [d1, d2, d3, d4, d5, d6] }
  | _ => none }
def FnIsIPv6AddressAcceptsEveryRenderedAddressWrongFalsely : Prop := fnIsIPv6AddressAcceptsEveryRenderedAddressRow.holds Try.pinned (OpenSpec.ofChange fnIsIPv6AddressAcceptsEveryRenderedAddressWrong)

/-- 'zzlaws_firefox_b1.FnIsIPv6AddressAcceptsOnlyShortTextsOfItsAlphabet': WHATEVER THE INPUT: true; the input reads as it did. -/
def fnIsIPv6AddressAcceptsOnlyShortTextsOfItsAlphabetSpec : ChangeSpec := { name := "fnIsIPv6AddressAcceptsOnlyShortTextsOfItsAlphabet", fn := fun _ => fun
  | [d] => { results := [.lit (.bool true)], args := [d] }
  | _ => none }
def fnIsIPv6AddressAcceptsOnlyShortTextsOfItsAlphabetRow : OpenClaim := { program := "qxb6602093a", sum := "3f74de2e0c82d656d40300e3ccbc987d59746934bb8603b3f9f67443d4e6c9c1", func := "example.com/upkeep/upkeep/zzlaws_firefox_b1.FnIsIPv6AddressAcceptsOnlyShortTextsOfItsAlphabet", spec := "fnIsIPv6AddressAcceptsOnlyShortTextsOfItsAlphabet", apart := false }
def FnIsIPv6AddressAcceptsOnlyShortTextsOfItsAlphabetSaid : Prop := fnIsIPv6AddressAcceptsOnlyShortTextsOfItsAlphabetRow.holds Try.pinned (OpenSpec.ofChange fnIsIPv6AddressAcceptsOnlyShortTextsOfItsAlphabetSpec)

/-- ITS FALSE NEIGHBOUR: 'it returns false'. Refute it at one input. -/
def fnIsIPv6AddressAcceptsOnlyShortTextsOfItsAlphabetWrong : ChangeSpec := { name := "fnIsIPv6AddressAcceptsOnlyShortTextsOfItsAlphabet", fn := fun _ => fun
  | [d] => { results := [.lit (.bool false)], args := [d] }
  | _ => none }
def FnIsIPv6AddressAcceptsOnlyShortTextsOfItsAlphabetWrongFalsely : Prop := fnIsIPv6AddressAcceptsOnlyShortTextsOfItsAlphabetRow.holds Try.pinned (OpenSpec.ofChange fnIsIPv6AddressAcceptsOnlyShortTextsOfItsAlphabetWrong)

/-- 'zzlaws_firefox_b1.FnIsIPv6AddressTailAgreesWithIsDottedIPv4': WHATEVER THE INPUT: true; the input reads as it did. -/
def fnIsIPv6AddressTailAgreesWithIsDottedIPv4Spec : ChangeSpec := { name := "fnIsIPv6AddressTailAgreesWithIsDottedIPv4", fn := fun _ => fun
  | [d] => { results := [.lit (.bool true)], args := [d] }
  | _ => none }
def fnIsIPv6AddressTailAgreesWithIsDottedIPv4Row : OpenClaim := { program := "qxb6602093a", sum := "3f74de2e0c82d656d40300e3ccbc987d59746934bb8603b3f9f67443d4e6c9c1", func := "example.com/upkeep/upkeep/zzlaws_firefox_b1.FnIsIPv6AddressTailAgreesWithIsDottedIPv4", spec := "fnIsIPv6AddressTailAgreesWithIsDottedIPv4", apart := false }
def FnIsIPv6AddressTailAgreesWithIsDottedIPv4Said : Prop := fnIsIPv6AddressTailAgreesWithIsDottedIPv4Row.holds Try.pinned (OpenSpec.ofChange fnIsIPv6AddressTailAgreesWithIsDottedIPv4Spec)

/-- ITS FALSE NEIGHBOUR: 'it returns false'. Refute it at one input. -/
def fnIsIPv6AddressTailAgreesWithIsDottedIPv4Wrong : ChangeSpec := { name := "fnIsIPv6AddressTailAgreesWithIsDottedIPv4", fn := fun _ => fun
  | [d] => { results := [.lit (.bool false)], args := [d] }
  | _ => none }
def FnIsIPv6AddressTailAgreesWithIsDottedIPv4WrongFalsely : Prop := fnIsIPv6AddressTailAgreesWithIsDottedIPv4Row.holds Try.pinned (OpenSpec.ofChange fnIsIPv6AddressTailAgreesWithIsDottedIPv4Wrong)

/-- 'zzlaws_firefox_b1.FnIsDottedIPv4MatchesCanonicalQuadModel': WHATEVER THE INPUT: true; the input reads as it did. -/
def fnIsDottedIPv4MatchesCanonicalQuadModelSpec : ChangeSpec := { name := "fnIsDottedIPv4MatchesCanonicalQuadModel", fn := fun _ => fun
  | [d] => { results := [.lit (.bool true)], args := [d] }
  | _ => none }
def fnIsDottedIPv4MatchesCanonicalQuadModelRow : OpenClaim := { program := "qxb6602093a", sum := "3f74de2e0c82d656d40300e3ccbc987d59746934bb8603b3f9f67443d4e6c9c1", func := "example.com/upkeep/upkeep/zzlaws_firefox_b1.FnIsDottedIPv4MatchesCanonicalQuadModel", spec := "fnIsDottedIPv4MatchesCanonicalQuadModel", apart := false }
def FnIsDottedIPv4MatchesCanonicalQuadModelSaid : Prop := fnIsDottedIPv4MatchesCanonicalQuadModelRow.holds Try.pinned (OpenSpec.ofChange fnIsDottedIPv4MatchesCanonicalQuadModelSpec)

/-- ITS FALSE NEIGHBOUR: 'it returns false'. Refute it at one input. -/
def fnIsDottedIPv4MatchesCanonicalQuadModelWrong : ChangeSpec := { name := "fnIsDottedIPv4MatchesCanonicalQuadModel", fn := fun _ => fun
  | [d] => { results := [.lit (.bool false)], args := [d] }
  | _ => none }
def FnIsDottedIPv4MatchesCanonicalQuadModelWrongFalsely : Prop := fnIsDottedIPv4MatchesCanonicalQuadModelRow.holds Try.pinned (OpenSpec.ofChange fnIsDottedIPv4MatchesCanonicalQuadModelWrong)

/-- 'zzlaws_firefox_b1.FnIsDottedIPv4AcceptsEveryQuadAndRefusesItsNeighbours': WHATEVER THE INPUT: true; the input reads as it did. -/
def fnIsDottedIPv4AcceptsEveryQuadAndRefusesItsNeighboursSpec : ChangeSpec := { name := "fnIsDottedIPv4AcceptsEveryQuadAndRefusesItsNeighbours", fn := fun _ => fun
  | [d1, d2] => { results := [.lit (.bool true)], args := [d1, d2] }
  | _ => none }
def fnIsDottedIPv4AcceptsEveryQuadAndRefusesItsNeighboursRow : OpenClaim := { program := "qxb6602093a", sum := "3f74de2e0c82d656d40300e3ccbc987d59746934bb8603b3f9f67443d4e6c9c1", func := "example.com/upkeep/upkeep/zzlaws_firefox_b1.FnIsDottedIPv4AcceptsEveryQuadAndRefusesItsNeighbours", spec := "fnIsDottedIPv4AcceptsEveryQuadAndRefusesItsNeighbours", apart := false }
def FnIsDottedIPv4AcceptsEveryQuadAndRefusesItsNeighboursSaid : Prop := fnIsDottedIPv4AcceptsEveryQuadAndRefusesItsNeighboursRow.holds Try.pinned (OpenSpec.ofChange fnIsDottedIPv4AcceptsEveryQuadAndRefusesItsNeighboursSpec)

/-- ITS FALSE NEIGHBOUR: 'it returns false'. Refute it at one input. -/
def fnIsDottedIPv4AcceptsEveryQuadAndRefusesItsNeighboursWrong : ChangeSpec := { name := "fnIsDottedIPv4AcceptsEveryQuadAndRefusesItsNeighbours", fn := fun _ => fun
  | [d1, d2] => { results := [.lit (.bool false)], args := [d1, d2] }
  | _ => none }
def FnIsDottedIPv4AcceptsEveryQuadAndRefusesItsNeighboursWrongFalsely : Prop := fnIsDottedIPv4AcceptsEveryQuadAndRefusesItsNeighboursRow.holds Try.pinned (OpenSpec.ofChange fnIsDottedIPv4AcceptsEveryQuadAndRefusesItsNeighboursWrong)

end Rows
end Go.Proofs.Qxb6602093a
