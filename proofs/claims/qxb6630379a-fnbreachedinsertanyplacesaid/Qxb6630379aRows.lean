/-
  No cell of these rows narrows 'for every input' (looked for: loops, veiled, ifaces, maps, wideKeys, modest, calm, conditions, laid).
  DERIVED. THE GIVEN ROWS OF THIS SEAT. 2 by the template 'for every input the law returns true; each argument reads behind the call as it read before'; 0 by the template 'total and deterministic' (their statements: Qxb6630379aTotals.lean).
  GIVEN WITH THE SEED: the statements are not yours to turn. If you find one false, say at which input.
  Laid BY PROGRAM, IN A SANDBOX (cutbox-rows.mjs): the forced cells as the released guide's own fill.sh prints them over the translation 703e7af2574a028c… (all of the seat's roots in one cut). By AI agents, Wed Nov 11 2026. No macro, syntax, notation, axiom, sorry.
-/
import Derived.Test.Qxb6630379aChecked
import GoSem.Claim
import GoSem.ClaimJoined
import GoSem.ClaimMapViews
import Derived.JoinedTies
import Derived.KernelRfl
namespace Go.Proofs.Qxb6630379a
/- THE CELL 'sum', in the pinned program and in every row, IS THE sha256 OF THE DUMP (.gsa) THAT Qxb6630379aProg.lean LOADS. Nothing in Lean hashes anything: it is a label: what it is worth is what the hold of that sum in a sandbox is worth. -/
noncomputable def Try.pinned : Pinned := { name := "qxb6630379a", sum := "703e7af2574a028ce0b607fedeb6fca58be3f904dba4a229293b6418cc041bd2", checked := Try.checked }
namespace Rows
def none {H : Type} : Left H := { results := [], args := [] }

/-- 'zzlaws_check_b1.FnBreachedSplitAnyCut': WHATEVER THE INPUT: true; the input reads as it did. -/
def fnBreachedSplitAnyCutSpec : ChangeSpec := { name := "fnBreachedSplitAnyCut", fn := fun _ => fun
  | [d1, d2, d3, d4] => { results := [.lit (.bool true)], args := [d1, d2, d3, d4] }
  | _ => none }
def fnBreachedSplitAnyCutRow : OpenClaim := { program := "qxb6630379a", sum := "703e7af2574a028ce0b607fedeb6fca58be3f904dba4a229293b6418cc041bd2", func := "example.com/vestbook/vestbook/zzlaws_check_b1.FnBreachedSplitAnyCut", spec := "fnBreachedSplitAnyCut", apart := false }
def FnBreachedSplitAnyCutSaid : Prop := fnBreachedSplitAnyCutRow.holds Try.pinned (OpenSpec.ofChange fnBreachedSplitAnyCutSpec)

/-- ITS FALSE NEIGHBOUR: 'it returns false'. Refute it at one input. -/
def fnBreachedSplitAnyCutWrong : ChangeSpec := { name := "fnBreachedSplitAnyCut", fn := fun _ => fun
  | [d1, d2, d3, d4] => { results := [.lit (.bool false)], args := [d1, d2, d3, d4] }
  | _ => none }
def FnBreachedSplitAnyCutWrongFalsely : Prop := fnBreachedSplitAnyCutRow.holds Try.pinned (OpenSpec.ofChange fnBreachedSplitAnyCutWrong)

/-- 'zzlaws_check_b1.FnBreachedInsertAnyPlace': WHATEVER THE INPUT: true; the input reads as it did. -/
def fnBreachedInsertAnyPlaceSpec : ChangeSpec := { name := "fnBreachedInsertAnyPlace", fn := fun _ => fun
  | [d1, d2, d3, d4, d5, d6, d7] => { results := [.lit (.bool true)], args := [d1, d2, d3, d4, d5, d6, d7] }
  | _ => none }
def fnBreachedInsertAnyPlaceRow : OpenClaim := { program := "qxb6630379a", sum := "703e7af2574a028ce0b607fedeb6fca58be3f904dba4a229293b6418cc041bd2", func := "example.com/vestbook/vestbook/zzlaws_check_b1.FnBreachedInsertAnyPlace", spec := "fnBreachedInsertAnyPlace", apart := false }
def FnBreachedInsertAnyPlaceSaid : Prop := fnBreachedInsertAnyPlaceRow.holds Try.pinned (OpenSpec.ofChange fnBreachedInsertAnyPlaceSpec)

/-- ITS FALSE NEIGHBOUR: 'it returns false'. Refute it at one input. -/
def fnBreachedInsertAnyPlaceWrong : ChangeSpec := { name := "fnBreachedInsertAnyPlace", fn := fun _ => fun
  | [d1, d2, d3, d4, d5, d6, d7] => { results := [.lit (.bool false)], args := [d1, d2, d3, d4, d5, d6, d7] }
  | _ => none }
def FnBreachedInsertAnyPlaceWrongFalsely : Prop := fnBreachedInsertAnyPlaceRow.holds Try.pinned (OpenSpec.ofChange fnBreachedInsertAnyPlaceWrong)

end Rows
end Go.Proofs.Qxb6630379a
