/-
  No cell of these rows narrows 'for every input' (looked for: loops, veiled, ifaces, maps, wideKeys, modest, calm, conditions, laid).
  DERIVED. THE GIVEN ROWS OF THIS SEAT. 2 by the template 'for every input the law returns true; each argument reads behind the call as it read before'; 0 by the template 'total and deterministic' (their statements: Qxb6616410aTotals.lean).
  GIVEN WITH THE SEED: the statements are not yours to turn. If you find one false, say at which input.
  Laid BY PROGRAM, IN A SANDBOX (cutbox-rows.mjs): the forced cells as the released guide's own fill.sh prints them over the translation 18a474b8d06794e2… (all of the seat's roots in one cut). By AI agents, Wed Nov 11 2026. No macro, syntax, notation, axiom, sorry.
-/
import Derived.Test.Qxb6616410aChecked
import GoSem.Claim
import GoSem.ClaimJoined
import GoSem.ClaimMapViews
import Derived.JoinedTies
import Derived.KernelRfl
namespace Go.Proofs.Qxb6616410a
/- THE CELL 'sum', in the pinned program and in every row, IS THE sha256 OF THE DUMP (.gsa) THAT Qxb6616410aProg.lean LOADS. Nothing in Lean hashes anything: it is a label: what it is worth is what the hold of that sum in a sandbox is worth. -/
noncomputable def Try.pinned : Pinned := { name := "qxb6616410a", sum := "18a474b8d06794e2f370bfe5349ea87a7a2a389ea98e25ef162175d03abed975", checked := Try.checked }
namespace Rows
def none {H : Type} : Left H := { results := [], args := [] }

/-- 'zzlaws_strace_b1.FnCallSplitsAtName': WHATEVER THE INPUT: true; the input reads as it did. -/
def fnCallSplitsAtNameSpec : ChangeSpec := { name := "fnCallSplitsAtName", fn := fun _ => fun
  | [d1, d2, d3, d4] => { results := [.lit (.bool true)], args := [d1, d2, d3, d4] }
  | _ => none }
def fnCallSplitsAtNameRow : OpenClaim := { program := "qxb6616410a", sum := "18a474b8d06794e2f370bfe5349ea87a7a2a389ea98e25ef162175d03abed975", func := "example.com/strict-config/strict-config/zzlaws_strace_b1.FnCallSplitsAtName", spec := "fnCallSplitsAtName", inPlace := ["internal/bytealg.IndexByteString"], apart := false }
def FnCallSplitsAtNameSaid : Prop := fnCallSplitsAtNameRow.holds Try.pinned (OpenSpec.ofChange fnCallSplitsAtNameSpec)

/-- ITS FALSE NEIGHBOUR: 'it returns false'. Refute it at one input. -/
def fnCallSplitsAtNameWrong : ChangeSpec := { name := "fnCallSplitsAtName", fn := fun _ => fun
  | [d1, d2, d3, d4] => { results := [.lit (.bool false)], args := [d1, d2, d3, d4] }
  | _ => none }
def FnCallSplitsAtNameWrongFalsely : Prop := fnCallSplitsAtNameRow.holds Try.pinned (OpenSpec.ofChange fnCallSplitsAtNameWrong)

/-- 'zzlaws_strace_b1.FnCallExtendsArgs': WHATEVER THE INPUT: true; the input reads as it did. -/
def fnCallExtendsArgsSpec : ChangeSpec := { name := "fnCallExtendsArgs", fn := fun _ => fun
  | [d1, d2, d3, d4, d5] => { results := [.lit (.bool true)], args := [d1, d2, d3, d4, d5] }
  | _ => none }
def fnCallExtendsArgsRow : OpenClaim := { program := "qxb6616410a", sum := "18a474b8d06794e2f370bfe5349ea87a7a2a389ea98e25ef162175d03abed975", func := "example.com/strict-config/strict-config/zzlaws_strace_b1.FnCallExtendsArgs", spec := "fnCallExtendsArgs", inPlace := ["internal/bytealg.IndexByteString"], apart := false }
def FnCallExtendsArgsSaid : Prop := fnCallExtendsArgsRow.holds Try.pinned (OpenSpec.ofChange fnCallExtendsArgsSpec)

/-- ITS FALSE NEIGHBOUR: 'it returns false'. Refute it at one input. -/
def fnCallExtendsArgsWrong : ChangeSpec := { name := "fnCallExtendsArgs", fn := fun _ => fun
  | [d1, d2, d3, d4, d5] => { results := [.lit (.bool false)], args := [d1, d2, d3, d4, d5] }
  | _ => none }
def FnCallExtendsArgsWrongFalsely : Prop := fnCallExtendsArgsRow.holds Try.pinned (OpenSpec.ofChange fnCallExtendsArgsWrong)

end Rows
end Go.Proofs.Qxb6616410a
