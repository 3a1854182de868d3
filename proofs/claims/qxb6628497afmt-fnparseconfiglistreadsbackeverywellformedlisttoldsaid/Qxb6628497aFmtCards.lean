/-
  DERIVED. GIVEN WITH THE SEED: THE CARDS: each row of Qxb6628497aFmtRows.lean that lists a variable, with what it lists TIED to the program's text (the seventh form; the later family's looks); each row that meets fmt, with fmt's text TOLD by the authors' own Lean function (tested against real Go, not proved from fmt's source: count such statements apart). THE CARD IS WHAT COUNTS. Prove the row's statement (the work); the ties are given (Qxb6628497aFmtTie.lean); close each card by the builder's one call (the guide's Derived/Test/ToyasCard.lean, 'card_holds'). Laid BY PROGRAM, IN A SANDBOX (cutbox-door.mjs). By AI agents, Wed Nov 11 2026. No macro, syntax, notation, axiom, sorry.
-/
import Derived.Test.Qxb6628497aFmtRows
import GoSem.ClaimSeven
namespace Go.Proofs.Qxb6628497aFmt
namespace Rows

/-- THE TOLD CARD OF 'zzlaws_pkg_ech_b1.FnParseConfigListIsInverseOfEncoding'. -/
def fnParseConfigListIsInverseOfEncodingCard : Claim7 := { stood := { row := fnParseConfigListIsInverseOfEncodingRow, standIns := [], harness := (true, "01608a97bbc429cc463871fe53c84cc06f60a6a3b6358e350c475deb0c0c9361"), looks := false }, told := true, goes := false }
def FnParseConfigListIsInverseOfEncodingToldSaid : Prop := Claim7.holds Tryf.pinned (.plain (OpenSpec.ofChange fnParseConfigListIsInverseOfEncodingSpec)) fnParseConfigListIsInverseOfEncodingCard
/-- ITS FALSE NEIGHBOUR. Refute it at one input. -/
def FnParseConfigListIsInverseOfEncodingToldWrongFalsely : Prop := Claim7.holds Tryf.pinned (.plain (OpenSpec.ofChange fnParseConfigListIsInverseOfEncodingWrong)) fnParseConfigListIsInverseOfEncodingCard

/-- THE TOLD CARD OF 'zzlaws_pkg_ech_b1.FnParseConfigListReadsBackEveryWellFormedList'. -/
def fnParseConfigListReadsBackEveryWellFormedListCard : Claim7 := { stood := { row := fnParseConfigListReadsBackEveryWellFormedListRow, standIns := [], harness := (true, "01608a97bbc429cc463871fe53c84cc06f60a6a3b6358e350c475deb0c0c9361"), looks := false }, told := true, goes := false }
def FnParseConfigListReadsBackEveryWellFormedListToldSaid : Prop := Claim7.holds Tryf.pinned (.plain (OpenSpec.ofChange fnParseConfigListReadsBackEveryWellFormedListSpec)) fnParseConfigListReadsBackEveryWellFormedListCard
/-- ITS FALSE NEIGHBOUR. Refute it at one input. -/
def FnParseConfigListReadsBackEveryWellFormedListToldWrongFalsely : Prop := Claim7.holds Tryf.pinned (.plain (OpenSpec.ofChange fnParseConfigListReadsBackEveryWellFormedListWrong)) fnParseConfigListReadsBackEveryWellFormedListCard
end Rows
end Go.Proofs.Qxb6628497aFmt
