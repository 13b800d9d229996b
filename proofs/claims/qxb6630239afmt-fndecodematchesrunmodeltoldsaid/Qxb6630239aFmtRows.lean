/-
  No cell of these rows narrows 'for every input' (looked for: loops, veiled, ifaces, maps, wideKeys, modest, calm, conditions, laid).
  DERIVED. THE GIVEN ROWS OF THIS SEAT. 2 by the template 'for every input the law returns true; each argument reads behind the call as it read before'; 0 by the template 'total and deterministic' (their statements: Qxb6630239aFmtTotals.lean).
  GIVEN WITH THE SEED: the statements are not yours to turn. If you find one false, say at which input.
  Laid BY PROGRAM, IN A SANDBOX (cutbox-rows.mjs): the forced cells as the released guide's own fill.sh prints them over the translation 306ae9456cd565ef… (all of the seat's roots in one cut). By AI agents, Wed Nov 11 2026. No macro, syntax, notation, axiom, sorry.
-/
import Derived.Test.Qxb6630239aFmtChecked
import GoSem.Claim
import GoSem.ClaimJoined
import GoSem.ClaimMapViews
import Derived.JoinedTies
import Derived.KernelRfl
namespace Go.Proofs.Qxb6630239aFmt
/- THE CELL 'sum', in the pinned program and in every row, IS THE sha256 OF THE DUMP (.gsa) THAT Qxb6630239aFmtProg.lean LOADS. Nothing in Lean hashes anything: it is a label: what it is worth is what the hold of that sum in a sandbox is worth. -/
noncomputable def Tryf.pinned : Pinned := { name := "qxb6630239afmt", sum := "306ae9456cd565efdbf88d2d813f35183cb884b74e5a27699370fa1a50b622c0", checked := Tryf.checked }
namespace Rows
def none {H : Type} : Left H := { results := [], args := [] }

/-- 'zzlaws_internal_hextext_b1.FnDecodeMatchesRunModel': WHATEVER THE INPUT: true; the input reads as it did. -/
def fnDecodeMatchesRunModelSpec : ChangeSpec := { name := "fnDecodeMatchesRunModel", fn := fun _ => fun
  | [d] => { results := [.lit (.bool true)], args := [d] }
  | _ => none }
def fnDecodeMatchesRunModelRow : OpenClaim := { program := "qxb6630239afmt", sum := "306ae9456cd565efdbf88d2d813f35183cb884b74e5a27699370fa1a50b622c0", func := "example.com/rowmap/rowmap/zzlaws_internal_hextext_b1.FnDecodeMatchesRunModel", spec := "fnDecodeMatchesRunModel", stops := ["fmt.Sprintf"], inPlace := ["fmt.Sprintf"], apart := false }
/-- NO THEOREM (fmt's text is open here; it may be false): for the released tool's asking of the row's closed facts alone. THE STATEMENT IS 'FnDecodeMatchesRunModelToldSaid' (Qxb6630239aFmtCards.lean). -/
def FnDecodeMatchesRunModelFormAsk : Prop := fnDecodeMatchesRunModelRow.holds Tryf.pinned (OpenSpec.ofChange fnDecodeMatchesRunModelSpec)

/-- ITS FALSE NEIGHBOUR: 'it returns false'. Refute it at one input. -/
def fnDecodeMatchesRunModelWrong : ChangeSpec := { name := "fnDecodeMatchesRunModel", fn := fun _ => fun
  | [d] => { results := [.lit (.bool false)], args := [d] }
  | _ => none }
def FnDecodeMatchesRunModelWrongFormAsk : Prop := fnDecodeMatchesRunModelRow.holds Tryf.pinned (OpenSpec.ofChange fnDecodeMatchesRunModelWrong)

/-- 'zzlaws_internal_hextext_b1.FnDecodeSplitsAtBlank': WHATEVER THE INPUT: true; the input reads as it did. -/
def fnDecodeSplitsAtBlankSpec : ChangeSpec := { name := "fnDecodeSplitsAtBlank", fn := fun _ => fun
  | [d1, d2, d3] => { results := [.lit (.bool true)], args := [d1, d2, d3] }
  | _ => none }
def fnDecodeSplitsAtBlankRow : OpenClaim := { program := "qxb6630239afmt", sum := "306ae9456cd565efdbf88d2d813f35183cb884b74e5a27699370fa1a50b622c0", func := "example.com/rowmap/rowmap/zzlaws_internal_hextext_b1.FnDecodeSplitsAtBlank", spec := "fnDecodeSplitsAtBlank", stops := ["fmt.Sprintf"], inPlace := ["fmt.Sprintf"], apart := false }
/-- NO THEOREM (fmt's text is open here; it may be false): for the released tool's asking of the row's closed facts alone. THE STATEMENT IS 'FnDecodeSplitsAtBlankToldSaid' (Qxb6630239aFmtCards.lean). -/
def FnDecodeSplitsAtBlankFormAsk : Prop := fnDecodeSplitsAtBlankRow.holds Tryf.pinned (OpenSpec.ofChange fnDecodeSplitsAtBlankSpec)

/-- ITS FALSE NEIGHBOUR: 'it returns false'. Refute it at one input. -/
def fnDecodeSplitsAtBlankWrong : ChangeSpec := { name := "fnDecodeSplitsAtBlank", fn := fun _ => fun
  | [d1, d2, d3] => { results := [.lit (.bool false)], args := [d1, d2, d3] }
  | _ => none }
def FnDecodeSplitsAtBlankWrongFormAsk : Prop := fnDecodeSplitsAtBlankRow.holds Tryf.pinned (OpenSpec.ofChange fnDecodeSplitsAtBlankWrong)

end Rows
end Go.Proofs.Qxb6630239aFmt
