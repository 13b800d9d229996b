/-
  No cell of these rows narrows 'for every input' (looked for: loops, veiled, ifaces, maps, wideKeys, modest, calm, conditions, laid).
  DERIVED. THE GIVEN ROWS OF THIS SEAT. 2 by the template 'for every input the law returns true; each argument reads behind the call as it read before'; 0 by the template 'total and deterministic' (their statements: Qxb6630289aTotals.lean).
  GIVEN WITH THE SEED: the statements are not yours to turn. If you find one false, say at which input.
  Laid BY PROGRAM, IN A SANDBOX (cutbox-rows.mjs): the forced cells as the released guide's own fill.sh prints them over the translation b701043138abdabd… (all of the seat's roots in one cut). By AI agents, Wed Nov 11 2026. No macro, syntax, notation, axiom, sorry.
-/
import Derived.Test.Qxb6630289aChecked
import GoSem.Claim
import GoSem.ClaimJoined
import GoSem.ClaimMapViews
import Derived.JoinedTies
import Derived.KernelRfl
namespace Go.Proofs.Qxb6630289a
/- THE CELL 'sum', in the pinned program and in every row, IS THE sha256 OF THE DUMP (.gsa) THAT Qxb6630289aProg.lean LOADS. Nothing in Lean hashes anything: it is a label: what it is worth is what the hold of that sum in a sandbox is worth. -/
noncomputable def Try.pinned : Pinned := { name := "qxb6630289a", sum := "b701043138abdabde688b66522b0295b468bee0398c3148b3510ea2ead8720b6", checked := Try.checked }
namespace Rows
def none {H : Type} : Left H := { results := [], args := [] }

/-- 'zzlaws_pkg_txn_b1.FnValueEndMatchesScanModel': WHATEVER THE INPUT: true; the input reads as it did. -/
def fnValueEndMatchesScanModelSpec : ChangeSpec := { name := "fnValueEndMatchesScanModel", fn := fun _ => fun
  | [d1, d2] => { results := [.lit (.bool true)], args := [d1, d2] }
  | _ => none }
def fnValueEndMatchesScanModelRow : OpenClaim := { program := "qxb6630289a", sum := "b701043138abdabde688b66522b0295b468bee0398c3148b3510ea2ead8720b6", func := "example.com/ledgerwright/ledgerwright/zzlaws_pkg_txn_b1.FnValueEndMatchesScanModel", spec := "fnValueEndMatchesScanModel", apart := false }
def FnValueEndMatchesScanModelSaid : Prop := fnValueEndMatchesScanModelRow.holds Try.pinned (OpenSpec.ofChange fnValueEndMatchesScanModelSpec)

/-- ITS FALSE NEIGHBOUR: 'it returns false'. Refute it at one input. -/
def fnValueEndMatchesScanModelWrong : ChangeSpec := { name := "fnValueEndMatchesScanModel", fn := fun _ => fun
  | [d1, d2] => { results := [.lit (.bool false)], args := [d1, d2] }
  | _ => none }
def FnValueEndMatchesScanModelWrongFalsely : Prop := fnValueEndMatchesScanModelRow.holds Try.pinned (OpenSpec.ofChange fnValueEndMatchesScanModelWrong)

/-- 'zzlaws_pkg_txn_b1.FnValueEndCutAtAnyPoint': WHATEVER THE INPUT: true; the input reads as it did. -/
def fnValueEndCutAtAnyPointSpec : ChangeSpec := { name := "fnValueEndCutAtAnyPoint", fn := fun _ => fun
  | [d1, d2, d3] => { results := [.lit (.bool true)], args := [d1, d2, d3] }
  | _ => none }
def fnValueEndCutAtAnyPointRow : OpenClaim := { program := "qxb6630289a", sum := "b701043138abdabde688b66522b0295b468bee0398c3148b3510ea2ead8720b6", func := "example.com/ledgerwright/ledgerwright/zzlaws_pkg_txn_b1.FnValueEndCutAtAnyPoint", spec := "fnValueEndCutAtAnyPoint", apart := false }
def FnValueEndCutAtAnyPointSaid : Prop := fnValueEndCutAtAnyPointRow.holds Try.pinned (OpenSpec.ofChange fnValueEndCutAtAnyPointSpec)

/-- ITS FALSE NEIGHBOUR: 'it returns false'. Refute it at one input. -/
def fnValueEndCutAtAnyPointWrong : ChangeSpec := { name := "fnValueEndCutAtAnyPoint", fn := fun _ => fun
  | [d1, d2, d3] => { results := [.lit (.bool false)], args := [d1, d2, d3] }
  | _ => none }
def FnValueEndCutAtAnyPointWrongFalsely : Prop := fnValueEndCutAtAnyPointRow.holds Try.pinned (OpenSpec.ofChange fnValueEndCutAtAnyPointWrong)

end Rows
end Go.Proofs.Qxb6630289a
