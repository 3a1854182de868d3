/-
  No cell of these rows narrows 'for every input' (looked for: loops, veiled, ifaces, maps, wideKeys, modest, calm, conditions, laid).
  DERIVED. THE GIVEN ROWS OF THIS SEAT. 2 by the template 'for every input the law returns true; each argument reads behind the call as it read before'; 0 by the template 'total and deterministic' (their statements: Qxb6629059aTotals.lean).
  GIVEN WITH THE SEED: the statements are not yours to turn. If you find one false, say at which input.
  Laid BY PROGRAM, IN A SANDBOX (cutbox-rows.mjs): the forced cells as the released guide's own fill.sh prints them over the translation 6e2989039dc551d3… (all of the seat's roots in one cut). By AI agents, Wed Nov 11 2026. No macro, syntax, notation, axiom, sorry.
-/
import Derived.Test.Qxb6629059aChecked
import GoSem.Claim
import GoSem.ClaimJoined
import GoSem.ClaimMapViews
import Derived.JoinedTies
import Derived.KernelRfl
namespace Go.Proofs.Qxb6629059a
/- THE CELL 'sum', in the pinned program and in every row, IS THE sha256 OF THE DUMP (.gsa) THAT Qxb6629059aProg.lean LOADS. Nothing in Lean hashes anything: it is a label: what it is worth is what the hold of that sum in a sandbox is worth. -/
noncomputable def Try.pinned : Pinned := { name := "qxb6629059a", sum := "6e2989039dc551d36e78fcb08da7f4b9314e6c5640791b084eff07e9439db470", checked := Try.checked }
namespace Rows
def none {H : Type} : Left H := { results := [], args := [] }

/-- 'zzlaws_internal_voxel_b1.FnBlockBoxIsExactlyTheVoxelsWhoseBlockIsC': WHATEVER THE INPUT: true; the input reads as it did. -/
def fnBlockBoxIsExactlyTheVoxelsWhoseBlockIsCSpec : ChangeSpec := { name := "fnBlockBoxIsExactlyTheVoxelsWhoseBlockIsC", fn := fun _ => fun
  | [d1, d2, d3] => { results := [.lit (.bool true)], args := [d1, d2, d3] }
  | _ => none }
def fnBlockBoxIsExactlyTheVoxelsWhoseBlockIsCRow : OpenClaim := { program := "qxb6629059a", sum := "6e2989039dc551d36e78fcb08da7f4b9314e6c5640791b084eff07e9439db470", func := "example.com/lamina/lamina/zzlaws_internal_voxel_b1.FnBlockBoxIsExactlyTheVoxelsWhoseBlockIsC", spec := "fnBlockBoxIsExactlyTheVoxelsWhoseBlockIsC", apart := false }
def FnBlockBoxIsExactlyTheVoxelsWhoseBlockIsCSaid : Prop := fnBlockBoxIsExactlyTheVoxelsWhoseBlockIsCRow.holds Try.pinned (OpenSpec.ofChange fnBlockBoxIsExactlyTheVoxelsWhoseBlockIsCSpec)

/-- ITS FALSE NEIGHBOUR: 'it returns false'. Refute it at one input. -/
def fnBlockBoxIsExactlyTheVoxelsWhoseBlockIsCWrong : ChangeSpec := { name := "fnBlockBoxIsExactlyTheVoxelsWhoseBlockIsC", fn := fun _ => fun
  | [d1, d2, d3] => { results := [.lit (.bool false)], args := [d1, d2, d3] }
  | _ => none }
def FnBlockBoxIsExactlyTheVoxelsWhoseBlockIsCWrongFalsely : Prop := fnBlockBoxIsExactlyTheVoxelsWhoseBlockIsCRow.holds Try.pinned (OpenSpec.ofChange fnBlockBoxIsExactlyTheVoxelsWhoseBlockIsCWrong)

/-- 'zzlaws_internal_voxel_b1.FnBlockBoxNeighboursTileWithoutGapOrOverlap': WHATEVER THE INPUT: true; the input reads as it did. -/
def fnBlockBoxNeighboursTileWithoutGapOrOverlapSpec : ChangeSpec := { name := "fnBlockBoxNeighboursTileWithoutGapOrOverlap", fn := fun _ => fun
  | [d1, d2, d3] => { results := [.lit (.bool true)], args := [d1, d2, d3] }
  | _ => none }
def fnBlockBoxNeighboursTileWithoutGapOrOverlapRow : OpenClaim := { program := "qxb6629059a", sum := "6e2989039dc551d36e78fcb08da7f4b9314e6c5640791b084eff07e9439db470", func := "example.com/lamina/lamina/zzlaws_internal_voxel_b1.FnBlockBoxNeighboursTileWithoutGapOrOverlap", spec := "fnBlockBoxNeighboursTileWithoutGapOrOverlap", apart := false }
def FnBlockBoxNeighboursTileWithoutGapOrOverlapSaid : Prop := fnBlockBoxNeighboursTileWithoutGapOrOverlapRow.holds Try.pinned (OpenSpec.ofChange fnBlockBoxNeighboursTileWithoutGapOrOverlapSpec)

/-- ITS FALSE NEIGHBOUR: 'it returns false'. Refute it at one input. -/
def fnBlockBoxNeighboursTileWithoutGapOrOverlapWrong : ChangeSpec := { name := "fnBlockBoxNeighboursTileWithoutGapOrOverlap", fn := fun _ => fun
  | [d1, d2, d3] => { results := [.lit (.bool false)], args := [d1, d2, d3] }
  | _ => none }
def FnBlockBoxNeighboursTileWithoutGapOrOverlapWrongFalsely : Prop := fnBlockBoxNeighboursTileWithoutGapOrOverlapRow.holds Try.pinned (OpenSpec.ofChange fnBlockBoxNeighboursTileWithoutGapOrOverlapWrong)

end Rows
end Go.Proofs.Qxb6629059a
