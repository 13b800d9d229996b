/-
  DERIVED. GIVEN WITH THE SEED: THE CARDS: each row of Qxb6630239aFmtRows.lean that lists a variable, with what it lists TIED to the program's text (the seventh form; the later family's looks); each row that meets fmt, with fmt's text TOLD by the authors' own Lean function (tested against real Go, not proved from fmt's source: count such statements apart). THE CARD IS WHAT COUNTS. Prove the row's statement (the work); the ties are given (Qxb6630239aFmtTie.lean); close each card by the builder's one call (the guide's Derived/Test/ToyasCard.lean, 'card_holds'). Laid BY PROGRAM, IN A SANDBOX (cutbox-door.mjs). By AI agents, Wed Nov 11 2026. No macro, syntax, notation, axiom, sorry.
-/
import Derived.Test.Qxb6630239aFmtRows
import GoSem.ClaimSeven
namespace Go.Proofs.Qxb6630239aFmt
namespace Rows

/-- THE TOLD CARD OF 'zzlaws_internal_hextext_b1.FnDecodeMatchesRunModel'. -/
def fnDecodeMatchesRunModelCard : Claim7 := { stood := { row := fnDecodeMatchesRunModelRow, standIns := [], harness := (true, "60a52059b93c6980f38e38553040cb43775fbc0564d36e539a92165eaf1745ce"), looks := false }, told := true, goes := false }
def FnDecodeMatchesRunModelToldSaid : Prop := Claim7.holds Tryf.pinned (.plain (OpenSpec.ofChange fnDecodeMatchesRunModelSpec)) fnDecodeMatchesRunModelCard
/-- ITS FALSE NEIGHBOUR. Refute it at one input. -/
def FnDecodeMatchesRunModelToldWrongFalsely : Prop := Claim7.holds Tryf.pinned (.plain (OpenSpec.ofChange fnDecodeMatchesRunModelWrong)) fnDecodeMatchesRunModelCard

/-- THE TOLD CARD OF 'zzlaws_internal_hextext_b1.FnDecodeSplitsAtBlank'. -/
def fnDecodeSplitsAtBlankCard : Claim7 := { stood := { row := fnDecodeSplitsAtBlankRow, standIns := [], harness := (true, "60a52059b93c6980f38e38553040cb43775fbc0564d36e539a92165eaf1745ce"), looks := false }, told := true, goes := false }
def FnDecodeSplitsAtBlankToldSaid : Prop := Claim7.holds Tryf.pinned (.plain (OpenSpec.ofChange fnDecodeSplitsAtBlankSpec)) fnDecodeSplitsAtBlankCard
/-- ITS FALSE NEIGHBOUR. Refute it at one input. -/
def FnDecodeSplitsAtBlankToldWrongFalsely : Prop := Claim7.holds Tryf.pinned (.plain (OpenSpec.ofChange fnDecodeSplitsAtBlankWrong)) fnDecodeSplitsAtBlankCard
end Rows
end Go.Proofs.Qxb6630239aFmt
