/-
  No cell of these rows narrows 'for every input' (looked for: loops, veiled, ifaces, maps, wideKeys, modest, calm, conditions, laid).
  DERIVED. THE GIVEN ROWS OF THIS SEAT. 2 by the template 'for every input the law returns true; each argument reads behind the call as it read before'; 0 by the template 'total and deterministic' (their statements: Qxb6628986aTotals.lean).
  GIVEN WITH THE SEED: the statements are not yours to turn. If you find one false, say at which input.
  Laid BY PROGRAM, IN A SANDBOX (cutbox-rows.mjs): the forced cells as the released guide's own fill.sh prints them over the translation 7fca2d3f8f0e27c1… (all of the seat's roots in one cut). By AI agents, Wed Nov 11 2026. No macro, syntax, notation, axiom, sorry.
-/
import Derived.Test.Qxb6628986aChecked
import GoSem.Claim
import GoSem.ClaimJoined
import GoSem.ClaimMapViews
import Derived.JoinedTies
import Derived.KernelRfl
namespace Go.Proofs.Qxb6628986a
/- THE CELL 'sum', in the pinned program and in every row, IS THE sha256 OF THE DUMP (.gsa) THAT Qxb6628986aProg.lean LOADS. Nothing in Lean hashes anything: it is a label: what it is worth is what the hold of that sum in a sandbox is worth. -/
noncomputable def Try.pinned : Pinned := { name := "qxb6628986a", sum := "7fca2d3f8f0e27c145db321e3a88de12500af8afaeef20571a004b32b7f450ce", checked := Try.checked }
namespace Rows
def none {H : Type} : Left H := { results := [], args := [] }

/-- 'zzlaws_base58_b1.FnEncodeMatchesLongDivision': WHATEVER THE INPUT: true; the input reads as it did. -/
def fnEncodeMatchesLongDivisionSpec : ChangeSpec := { name := "fnEncodeMatchesLongDivision", fn := fun _ => fun
  | [d] => { results := [.lit (.bool true)], args := [d] }
  | _ => none }
def fnEncodeMatchesLongDivisionRow : OpenClaim := { program := "qxb6628986a", sum := "7fca2d3f8f0e27c145db321e3a88de12500af8afaeef20571a004b32b7f450ce", func := "example.com/cairnstore/cairnstore/zzlaws_base58_b1.FnEncodeMatchesLongDivision", spec := "fnEncodeMatchesLongDivision", apart := false }
def FnEncodeMatchesLongDivisionSaid : Prop := fnEncodeMatchesLongDivisionRow.holds Try.pinned (OpenSpec.ofChange fnEncodeMatchesLongDivisionSpec)

/-- ITS FALSE NEIGHBOUR: 'it returns false'. Refute it at one input. -/
def fnEncodeMatchesLongDivisionWrong : ChangeSpec := { name := "fnEncodeMatchesLongDivision", fn := fun _ => fun
  | [d] => { results := [.lit (.bool false)], args := [d] }
  | _ => none }
def FnEncodeMatchesLongDivisionWrongFalsely : Prop := fnEncodeMatchesLongDivisionRow.holds Try.pinned (OpenSpec.ofChange fnEncodeMatchesLongDivisionWrong)

/-- 'zzlaws_base58_b1.FnEncodeDecodesBack': WHATEVER THE INPUT: true; the input reads as it did. -/
def fnEncodeDecodesBackSpec : ChangeSpec := { name := "fnEncodeDecodesBack", fn := fun _ => fun
  | [d] => { results := [.lit (.bool true)], args := [d] }
  | _ => none }
def fnEncodeDecodesBackRow : OpenClaim := { program := "qxb6628986a", sum := "7fca2d3f8f0e27c145db321e3a88de12500af8afaeef20571a004b32b7f450ce", func := "example.com/cairnstore/cairnstore/zzlaws_base58_b1.FnEncodeDecodesBack", spec := "fnEncodeDecodesBack", apart := false }
def FnEncodeDecodesBackSaid : Prop := fnEncodeDecodesBackRow.holds Try.pinned (OpenSpec.ofChange fnEncodeDecodesBackSpec)

/-- ITS FALSE NEIGHBOUR: 'it returns false'. Refute it at one input. -/
def fnEncodeDecodesBackWrong : ChangeSpec := { name := "fnEncodeDecodesBack", fn := fun _ => fun
  | [d] => { results := [.lit (.bool false)], args := [d] }
  | _ => none }
def FnEncodeDecodesBackWrongFalsely : Prop := fnEncodeDecodesBackRow.holds Try.pinned (OpenSpec.ofChange fnEncodeDecodesBackWrong)

end Rows
end Go.Proofs.Qxb6628986a
