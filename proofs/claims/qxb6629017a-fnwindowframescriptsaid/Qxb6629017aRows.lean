/-
  No cell of these rows narrows 'for every input' (looked for: loops, veiled, ifaces, maps, wideKeys, modest, calm, conditions, laid).
  DERIVED. THE GIVEN ROWS OF THIS SEAT. 2 by the template 'for every input the law returns true; each argument reads behind the call as it read before'; 0 by the template 'total and deterministic' (their statements: Qxb6629017aTotals.lean).
  GIVEN WITH THE SEED: the statements are not yours to turn. If you find one false, say at which input.
  Laid BY PROGRAM, IN A SANDBOX (cutbox-rows.mjs): the forced cells as the released guide's own fill.sh prints them over the translation ac6637c1fd1e64cf… (all of the seat's roots in one cut). By AI agents, Wed Nov 11 2026. No macro, syntax, notation, axiom, sorry.
-/
import Derived.Test.Qxb6629017aChecked
import GoSem.Claim
import GoSem.ClaimJoined
import GoSem.ClaimMapViews
import Derived.JoinedTies
import Derived.KernelRfl
namespace Go.Proofs.Qxb6629017a
/- THE CELL 'sum', in the pinned program and in every row, IS THE sha256 OF THE DUMP (.gsa) THAT Qxb6629017aProg.lean LOADS. Nothing in Lean hashes anything: it is a label: what it is worth is what the hold of that sum in a sandbox is worth. -/
noncomputable def Try.pinned : Pinned := { name := "qxb6629017a", sum := "ac6637c1fd1e64cf91579e1e73500c6655196862247d7abae21045befc7e7493", checked := Try.checked }
namespace Rows
def none {H : Type} : Left H := { results := [], args := [] }

/-- 'zzlaws_pkg_format_b1.FnWindowFrameScript': WHATEVER THE INPUT: true; the input reads as it did. -/
def fnWindowFrameScriptSpec : ChangeSpec := { name := "fnWindowFrameScript", fn := fun _ => fun
  | [d1, d2] => { results := [.lit (.bool true)], args := [d1, d2] }
  | _ => none }
def fnWindowFrameScriptRow : OpenClaim := { program := "qxb6629017a", sum := "ac6637c1fd1e64cf91579e1e73500c6655196862247d7abae21045befc7e7493", func := "example.com/varvestone/varvestone/zzlaws_pkg_format_b1.FnWindowFrameScript", spec := "fnWindowFrameScript", apart := false }
def FnWindowFrameScriptSaid : Prop := fnWindowFrameScriptRow.holds Try.pinned (OpenSpec.ofChange fnWindowFrameScriptSpec)

/-- ITS FALSE NEIGHBOUR: 'it returns false'. Refute it at one input. -/
def fnWindowFrameScriptWrong : ChangeSpec := { name := "fnWindowFrameScript", fn := fun _ => fun
  | [d1, d2] => { results := [.lit (.bool false)], args := [d1, d2] }
  | _ => none }
def FnWindowFrameScriptWrongFalsely : Prop := fnWindowFrameScriptRow.holds Try.pinned (OpenSpec.ofChange fnWindowFrameScriptWrong)

/-- 'zzlaws_pkg_format_b1.FnWindowFrameOnce': WHATEVER THE INPUT: true; the input reads as it did. -/
def fnWindowFrameOnceSpec : ChangeSpec := { name := "fnWindowFrameOnce", fn := fun _ => fun
  | [d1, d2] => { results := [.lit (.bool true)], args := [d1, d2] }
  | _ => none }
def fnWindowFrameOnceRow : OpenClaim := { program := "qxb6629017a", sum := "ac6637c1fd1e64cf91579e1e73500c6655196862247d7abae21045befc7e7493", func := "example.com/varvestone/varvestone/zzlaws_pkg_format_b1.FnWindowFrameOnce", spec := "fnWindowFrameOnce", apart := false }
def FnWindowFrameOnceSaid : Prop := fnWindowFrameOnceRow.holds Try.pinned (OpenSpec.ofChange fnWindowFrameOnceSpec)

/-- ITS FALSE NEIGHBOUR: 'it returns false'. Refute it at one input. -/
def fnWindowFrameOnceWrong : ChangeSpec := { name := "fnWindowFrameOnce", fn := fun _ => fun
  | [d1, d2] => { results := [.lit (.bool false)], args := [d1, d2] }
  | _ => none }
def FnWindowFrameOnceWrongFalsely : Prop := fnWindowFrameOnceRow.holds Try.pinned (OpenSpec.ofChange fnWindowFrameOnceWrong)

end Rows
end Go.Proofs.Qxb6629017a
