/-
  No cell of these rows narrows 'for every input' (looked for: loops, veiled, ifaces, maps, wideKeys, modest, calm, conditions, laid).
  DERIVED. THE GIVEN ROWS OF THIS SEAT. 2 by the template 'for every input the law returns true; each argument reads behind the call as it read before'; 0 by the template 'total and deterministic' (their statements: Qxb6630340aTotals.lean).
  GIVEN WITH THE SEED: the statements are not yours to turn. If you find one false, say at which input.
  Laid BY PROGRAM, IN A SANDBOX (cutbox-rows.mjs): the forced cells as the released guide's own fill.sh prints them over the translation 586bc7f9a9eda575… (all of the seat's roots in one cut). By AI agents, Wed Nov 11 2026. No macro, syntax, notation, axiom, sorry.
-/
import Derived.Test.Qxb6630340aChecked
import GoSem.Claim
import GoSem.ClaimJoined
import GoSem.ClaimMapViews
import Derived.JoinedTies
import Derived.KernelRfl
namespace Go.Proofs.Qxb6630340a
/- THE CELL 'sum', in the pinned program and in every row, IS THE sha256 OF THE DUMP (.gsa) THAT Qxb6630340aProg.lean LOADS. Nothing in Lean hashes anything: it is a label: what it is worth is what the hold of that sum in a sandbox is worth. -/
noncomputable def Try.pinned : Pinned := { name := "qxb6630340a", sum := "586bc7f9a9eda575b1889a598399d76a9635959bed3f4c7ae0046d68ab7a0102", checked := Try.checked }
namespace Rows
def none {H : Type} : Left H := { results := [], args := [] }

/-- 'zzlaws_internal_clickhouse_b1.FnStringLiteralSplitsAtAnyCut': WHATEVER THE INPUT: true; the input reads as it did. -/
def fnStringLiteralSplitsAtAnyCutSpec : ChangeSpec := { name := "fnStringLiteralSplitsAtAnyCut", fn := fun _ => fun
  | [d1, d2] => { results := [.lit (.bool true)], args := [d1, d2] }
  | _ => none }
def fnStringLiteralSplitsAtAnyCutRow : OpenClaim := { program := "qxb6630340a", sum := "586bc7f9a9eda575b1889a598399d76a9635959bed3f4c7ae0046d68ab7a0102", func := "example.com/oxbow/oxbow/zzlaws_internal_clickhouse_b1.FnStringLiteralSplitsAtAnyCut", spec := "fnStringLiteralSplitsAtAnyCut", inPlace := ["internal/abi.NoEscape"], apart := false }
def FnStringLiteralSplitsAtAnyCutSaid : Prop := fnStringLiteralSplitsAtAnyCutRow.holds Try.pinned (OpenSpec.ofChange fnStringLiteralSplitsAtAnyCutSpec)

/-- ITS FALSE NEIGHBOUR: 'it returns false'. Refute it at one input. -/
def fnStringLiteralSplitsAtAnyCutWrong : ChangeSpec := { name := "fnStringLiteralSplitsAtAnyCut", fn := fun _ => fun
  | [d1, d2] => { results := [.lit (.bool false)], args := [d1, d2] }
  | _ => none }
def FnStringLiteralSplitsAtAnyCutWrongFalsely : Prop := fnStringLiteralSplitsAtAnyCutRow.holds Try.pinned (OpenSpec.ofChange fnStringLiteralSplitsAtAnyCutWrong)

/-- 'zzlaws_internal_clickhouse_b1.FnStringLiteralTwoLiteralsTokenizeApart': WHATEVER THE INPUT: true; the input reads as it did. -/
def fnStringLiteralTwoLiteralsTokenizeApartSpec : ChangeSpec := { name := "fnStringLiteralTwoLiteralsTokenizeApart", fn := fun _ => fun
  | [d1, d2] => { results := [.lit (.bool true)], args := [d1, d2] }
  | _ => none }
def fnStringLiteralTwoLiteralsTokenizeApartRow : OpenClaim := { program := "qxb6630340a", sum := "586bc7f9a9eda575b1889a598399d76a9635959bed3f4c7ae0046d68ab7a0102", func := "example.com/oxbow/oxbow/zzlaws_internal_clickhouse_b1.FnStringLiteralTwoLiteralsTokenizeApart", spec := "fnStringLiteralTwoLiteralsTokenizeApart", inPlace := ["internal/abi.NoEscape"], apart := false }
def FnStringLiteralTwoLiteralsTokenizeApartSaid : Prop := fnStringLiteralTwoLiteralsTokenizeApartRow.holds Try.pinned (OpenSpec.ofChange fnStringLiteralTwoLiteralsTokenizeApartSpec)

/-- ITS FALSE NEIGHBOUR: 'it returns false'. Refute it at one input. -/
def fnStringLiteralTwoLiteralsTokenizeApartWrong : ChangeSpec := { name := "fnStringLiteralTwoLiteralsTokenizeApart", fn := fun _ => fun
  | [d1, d2] => { results := [.lit (.bool false)], args := [d1, d2] }
  | _ => none }
def FnStringLiteralTwoLiteralsTokenizeApartWrongFalsely : Prop := fnStringLiteralTwoLiteralsTokenizeApartRow.holds Try.pinned (OpenSpec.ofChange fnStringLiteralTwoLiteralsTokenizeApartWrong)

end Rows
end Go.Proofs.Qxb6630340a
