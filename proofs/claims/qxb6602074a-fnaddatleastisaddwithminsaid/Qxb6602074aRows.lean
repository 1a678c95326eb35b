/-
  No cell of these rows narrows 'for every input' (looked for: loops, veiled, ifaces, maps, wideKeys, modest, calm, conditions, laid).
  DERIVED. THE GIVEN ROWS OF THIS SEAT. 2 by the template 'for every input the law returns true; each argument reads behind the call as it read before'; 0 by the template 'total and deterministic' (their statements: Qxb6602074aTotals.lean).
  GIVEN WITH THE SEED: the statements are not yours to turn. If you find one false, say at which input.
  Laid BY PROGRAM, IN A SANDBOX (cutbox-rows.mjs): the forced cells as the released guide's own fill.sh prints them over the translation 740c4b5b5d29b678… (all of the seat's roots in one cut). By AI agents, Wed Nov 11 2026. No macro, syntax, notation, axiom, sorry.
-/
import Derived.Test.Qxb6602074aChecked
import GoSem.Claim
import GoSem.ClaimJoined
import GoSem.ClaimMapViews
import Derived.JoinedTies
import Derived.KernelRfl
namespace Go.Proofs.Qxb6602074a
/- THE CELL 'sum', in the pinned program and in every row, IS THE sha256 OF THE DUMP (.gsa) THAT Qxb6602074aProg.lean LOADS. Nothing in Lean hashes anything: it is a label: what it is worth is what the hold of that sum in a sandbox is worth. -/
noncomputable def Try.pinned : Pinned := { name := "qxb6602074a", sum := "740c4b5b5d29b678c4eddb828a7ceffd8706cd33de1242aff23fa6d3e46156cb", checked := Try.checked }
namespace Rows
def none {H : Type} : Left H := { results := [], args := [] }

/-- 'zzlaws_root_b1.FnScanRequestsShareNoMemory': WHATEVER THE INPUT: true; the input reads as it did. -/
def fnScanRequestsShareNoMemorySpec : ChangeSpec := { name := "fnScanRequestsShareNoMemory", fn := fun _ => fun
  | [d1, d2, d3] => { results := [.lit (.bool true)], args := [d1, d2, d3] }
  | _ => none }
def fnScanRequestsShareNoMemoryRow : OpenClaim := { program := "qxb6602074a", sum := "740c4b5b5d29b678c4eddb828a7ceffd8706cd33de1242aff23fa6d3e46156cb", func := "example.com/cohort/cohort/zzlaws_root_b1.FnScanRequestsShareNoMemory", spec := "fnScanRequestsShareNoMemory", apart := false }
def FnScanRequestsShareNoMemorySaid : Prop := fnScanRequestsShareNoMemoryRow.holds Try.pinned (OpenSpec.ofChange fnScanRequestsShareNoMemorySpec)

/-- ITS FALSE NEIGHBOUR: 'it returns false'. Refute it at one input. -/
def fnScanRequestsShareNoMemoryWrong : ChangeSpec := { name := "fnScanRequestsShareNoMemory", fn := fun _ => fun
  | [d1, d2, d3] => { results := [.lit (.bool false)], args := [d1, d2, d3] }
  | _ => none }
def FnScanRequestsShareNoMemoryWrongFalsely : Prop := fnScanRequestsShareNoMemoryRow.holds Try.pinned (OpenSpec.ofChange fnScanRequestsShareNoMemoryWrong)

/-- 'zzlaws_root_b1.FnAddAtLeastIsAddWithMin': WHATEVER THE INPUT: true; the input reads as it did. -/
def fnAddAtLeastIsAddWithMinSpec : ChangeSpec := { name := "fnAddAtLeastIsAddWithMin", fn := fun _ => fun
  | [d1, d2, d3] => { results := [.lit (.bool true)], args := [d1, d2, d3] }
  | _ => none }
def fnAddAtLeastIsAddWithMinRow : OpenClaim := { program := "qxb6602074a", sum := "740c4b5b5d29b678c4eddb828a7ceffd8706cd33de1242aff23fa6d3e46156cb", func := "example.com/cohort/cohort/zzlaws_root_b1.FnAddAtLeastIsAddWithMin", spec := "fnAddAtLeastIsAddWithMin", apart := false }
def FnAddAtLeastIsAddWithMinSaid : Prop := fnAddAtLeastIsAddWithMinRow.holds Try.pinned (OpenSpec.ofChange fnAddAtLeastIsAddWithMinSpec)

/-- ITS FALSE NEIGHBOUR: 'it returns false'. Refute it at one input. -/
def fnAddAtLeastIsAddWithMinWrong : ChangeSpec := { name := "fnAddAtLeastIsAddWithMin", fn := fun _ => fun
  | [d1, d2, d3] => { results := [.lit (.bool false)], args := [d1, d2, d3] }
  | _ => none }
def FnAddAtLeastIsAddWithMinWrongFalsely : Prop := fnAddAtLeastIsAddWithMinRow.holds Try.pinned (OpenSpec.ofChange fnAddAtLeastIsAddWithMinWrong)

end Rows
end Go.Proofs.Qxb6602074a
