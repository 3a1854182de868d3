/-
  No cell of these rows narrows 'for every input' (looked for: loops, veiled, ifaces, maps, wideKeys, modest, calm, conditions, laid).
  DERIVED. THE GIVEN ROWS OF THIS SEAT. 2 by the template 'for every input the law returns true; each argument reads behind the call as it read before'; 0 by the template 'total and deterministic' (their statements: Qxb6628497aFmtTotals.lean).
  GIVEN WITH THE SEED: the statements are not yours to turn. If you find one false, say at which input.
  Laid BY PROGRAM, IN A SANDBOX (cutbox-rows.mjs): the forced cells as the released guide's own fill.sh prints them over the translation f9101fac95fe5649… (all of the seat's roots in one cut). By AI agents, Wed Nov 11 2026. No macro, syntax, notation, axiom, sorry.
-/
import Derived.Test.Qxb6628497aFmtChecked
import GoSem.Claim
import GoSem.ClaimJoined
import GoSem.ClaimMapViews
import Derived.JoinedTies
import Derived.KernelRfl
namespace Go.Proofs.Qxb6628497aFmt
/- THE CELL 'sum', in the pinned program and in every row, IS THE sha256 OF THE DUMP (.gsa) THAT Qxb6628497aFmtProg.lean LOADS. Nothing in Lean hashes anything: it is a label: what it is worth is what the hold of that sum in a sandbox is worth. -/
noncomputable def Tryf.pinned : Pinned := { name := "qxb6628497afmt", sum := "f9101fac95fe5649342f6ffc0f090ffc68029d463afe643cf999df01ea732c5b", checked := Tryf.checked }
namespace Rows
def none {H : Type} : Left H := { results := [], args := [] }

/-- 'zzlaws_pkg_ech_b1.FnParseConfigListIsInverseOfEncoding': WHATEVER THE INPUT: true; the input reads as it did. -/
def fnParseConfigListIsInverseOfEncodingSpec : ChangeSpec := { name := "fnParseConfigListIsInverseOfEncoding", fn := fun _ => fun
  | [d] => { results := [.lit (.bool true)], args := [d] }
  | _ => none }
def fnParseConfigListIsInverseOfEncodingRow : OpenClaim := { program := "qxb6628497afmt", sum := "f9101fac95fe5649342f6ffc0f090ffc68029d463afe643cf999df01ea732c5b", func := "example.com/hushwire/hushwire/zzlaws_pkg_ech_b1.FnParseConfigListIsInverseOfEncoding", spec := "fnParseConfigListIsInverseOfEncoding", stops := ["fmt.errorf"], inPlace := ["fmt.errorf"], named := ["encoding/binary.BigEndian"], apart := false }
/-- NO THEOREM (fmt's text is open here; it may be false): for the released tool's asking of the row's closed facts alone. THE STATEMENT IS 'FnParseConfigListIsInverseOfEncodingToldSaid' (Qxb6628497aFmtCards.lean). -/
def FnParseConfigListIsInverseOfEncodingFormAsk : Prop := fnParseConfigListIsInverseOfEncodingRow.holds Tryf.pinned (OpenSpec.ofChange fnParseConfigListIsInverseOfEncodingSpec)

/-- ITS FALSE NEIGHBOUR: 'it returns false'. Refute it at one input. -/
def fnParseConfigListIsInverseOfEncodingWrong : ChangeSpec := { name := "fnParseConfigListIsInverseOfEncoding", fn := fun _ => fun
  | [d] => { results := [.lit (.bool false)], args := [d] }
  | _ => none }
def FnParseConfigListIsInverseOfEncodingWrongFormAsk : Prop := fnParseConfigListIsInverseOfEncodingRow.holds Tryf.pinned (OpenSpec.ofChange fnParseConfigListIsInverseOfEncodingWrong)

/-- 'zzlaws_pkg_ech_b1.FnParseConfigListReadsBackEveryWellFormedList': WHATEVER THE INPUT: true; the input reads as it did. -/
def fnParseConfigListReadsBackEveryWellFormedListSpec : ChangeSpec := { name := "fnParseConfigListReadsBackEveryWellFormedList", fn := fun _ => fun
  | [d] => { results := [.lit (.bool true)], args := [d] }
  | _ => none }
def fnParseConfigListReadsBackEveryWellFormedListRow : OpenClaim := { program := "qxb6628497afmt", sum := "f9101fac95fe5649342f6ffc0f090ffc68029d463afe643cf999df01ea732c5b", func := "example.com/hushwire/hushwire/zzlaws_pkg_ech_b1.FnParseConfigListReadsBackEveryWellFormedList", spec := "fnParseConfigListReadsBackEveryWellFormedList", stops := ["fmt.errorf"], inPlace := ["fmt.errorf"], named := ["encoding/binary.BigEndian"], apart := false }
/-- NO THEOREM (fmt's text is open here; it may be false): for the released tool's asking of the row's closed facts alone. THE STATEMENT IS 'FnParseConfigListReadsBackEveryWellFormedListToldSaid' (Qxb6628497aFmtCards.lean). -/
def FnParseConfigListReadsBackEveryWellFormedListFormAsk : Prop := fnParseConfigListReadsBackEveryWellFormedListRow.holds Tryf.pinned (OpenSpec.ofChange fnParseConfigListReadsBackEveryWellFormedListSpec)

/-- ITS FALSE NEIGHBOUR: 'it returns false'. Refute it at one input. -/
def fnParseConfigListReadsBackEveryWellFormedListWrong : ChangeSpec := { name := "fnParseConfigListReadsBackEveryWellFormedList", fn := fun _ => fun
  | [d] => { results := [.lit (.bool false)], args := [d] }
  | _ => none }
def FnParseConfigListReadsBackEveryWellFormedListWrongFormAsk : Prop := fnParseConfigListReadsBackEveryWellFormedListRow.holds Tryf.pinned (OpenSpec.ofChange fnParseConfigListReadsBackEveryWellFormedListWrong)

end Rows
end Go.Proofs.Qxb6628497aFmt
