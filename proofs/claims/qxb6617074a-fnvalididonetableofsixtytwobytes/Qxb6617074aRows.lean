/-
  No cell of these rows narrows 'for every input' (looked for: loops, veiled, ifaces, maps, wideKeys, modest, calm, conditions, laid).
  DERIVED. THE GIVEN ROWS OF THIS SEAT. 1 by the template 'for every input the law returns true; each argument reads behind the call as it read before'; 0 by the template 'total and deterministic' (their statements: Qxb6617074aTotals.lean).
  GIVEN WITH THE SEED: the statements are not yours to turn. If you find one false, say at which input.
  Laid BY PROGRAM, IN A SANDBOX (cutbox-rows.mjs): the forced cells as the released guide's own fill.sh prints them over the translation eb2d2b1d3f918de8… (all of the seat's roots in one cut). By AI agents, Wed Nov 11 2026. No macro, syntax, notation, axiom, sorry.
-/
import Derived.Test.Qxb6617074aChecked
import GoSem.Claim
import GoSem.ClaimJoined
import GoSem.ClaimMapViews
import Derived.JoinedTies
import Derived.KernelRfl
namespace Go.Proofs.Qxb6617074a
/- THE CELL 'sum', in the pinned program and in every row, IS THE sha256 OF THE DUMP (.gsa) THAT Qxb6617074aProg.lean LOADS. Nothing in Lean hashes anything: it is a label: what it is worth is what the hold of that sum in a sandbox is worth. -/
noncomputable def Try.pinned : Pinned := { name := "qxb6617074a", sum := "eb2d2b1d3f918de8219f32ba32a3b896876388dae0d4e0523d21b3948e38a021", checked := Try.checked }
namespace Rows
def none {H : Type} : Left H := { results := [], args := [] }

/-- 'zzlaws_pkg_work_b1.FnValidIDOneTableOfSixtyTwoBytes': WHATEVER THE INPUT: true; the input reads as it did. -/
def fnValidIDOneTableOfSixtyTwoBytesSpec : ChangeSpec := { name := "fnValidIDOneTableOfSixtyTwoBytes", fn := fun _ => fun
  | [d] => { results := [.lit (.bool true)], args := [d] }
  | _ => none }
def fnValidIDOneTableOfSixtyTwoBytesRow : OpenClaim := { program := "qxb6617074a", sum := "eb2d2b1d3f918de8219f32ba32a3b896876388dae0d4e0523d21b3948e38a021", func := "example.com/workmesh/workmesh/zzlaws_pkg_work_b1.FnValidIDOneTableOfSixtyTwoBytes", spec := "fnValidIDOneTableOfSixtyTwoBytes", inPlace := ["internal/bytealg.IndexByteString", "internal/bytealg.IndexString"], named := ["internal/bytealg.MaxLen"], apart := false }
def FnValidIDOneTableOfSixtyTwoBytesSaid : Prop := fnValidIDOneTableOfSixtyTwoBytesRow.holds Try.pinned (OpenSpec.ofChange fnValidIDOneTableOfSixtyTwoBytesSpec)

/-- ITS FALSE NEIGHBOUR: 'it returns false'. Refute it at one input. -/
def fnValidIDOneTableOfSixtyTwoBytesWrong : ChangeSpec := { name := "fnValidIDOneTableOfSixtyTwoBytes", fn := fun _ => fun
  | [d] => { results := [.lit (.bool false)], args := [d] }
  | _ => none }
def FnValidIDOneTableOfSixtyTwoBytesWrongFalsely : Prop := fnValidIDOneTableOfSixtyTwoBytesRow.holds Try.pinned (OpenSpec.ofChange fnValidIDOneTableOfSixtyTwoBytesWrong)

end Rows
end Go.Proofs.Qxb6617074a
