/-
  No cell of these rows narrows 'for every input' (looked for: loops, veiled, ifaces, maps, wideKeys, modest, calm, conditions, laid).
  DERIVED. THE GIVEN ROWS OF THIS SEAT. 3 by the template 'for every input the law returns true; each argument reads behind the call as it read before'; 0 by the template 'total and deterministic' (their statements: Qxb6617117aTotals.lean).
  GIVEN WITH THE SEED: the statements are not yours to turn. If you find one false, say at which input.
  Laid BY PROGRAM, IN A SANDBOX (cutbox-rows.mjs): the forced cells as the released guide's own fill.sh prints them over the translation 572713b8c2062d6d… (all of the seat's roots in one cut). By AI agents, Wed Nov 11 2026. No macro, syntax, notation, axiom, sorry.
-/
import Derived.Test.Qxb6617117aChecked
import GoSem.Claim
import GoSem.ClaimJoined
import GoSem.ClaimMapViews
import Derived.JoinedTies
import Derived.KernelRfl
namespace Go.Proofs.Qxb6617117a
/- THE CELL 'sum', in the pinned program and in every row, IS THE sha256 OF THE DUMP (.gsa) THAT Qxb6617117aProg.lean LOADS. Nothing in Lean hashes anything: it is a label: what it is worth is what the hold of that sum in a sandbox is worth. -/
noncomputable def Try.pinned : Pinned := { name := "qxb6617117a", sum := "572713b8c2062d6df25c631aeb74a733e442e71268ddc14e71a200a697a6086e", checked := Try.checked }
namespace Rows
def none {H : Type} : Left H := { results := [], args := [] }

/-- 'zzlaws_api_b1.FnAppendCompactDropsSpacesOutsideStrings': WHATEVER THE INPUT: true; the input reads as it did. -/
def fnAppendCompactDropsSpacesOutsideStringsSpec : ChangeSpec := { name := "fnAppendCompactDropsSpacesOutsideStrings", fn := fun _ => fun
  | [d1, d2] => { results := [.lit (.bool true)], args := [d1, d2] }
  | _ => none }
def fnAppendCompactDropsSpacesOutsideStringsRow : OpenClaim := { program := "qxb6617117a", sum := "572713b8c2062d6df25c631aeb74a733e442e71268ddc14e71a200a697a6086e", func := "example.com/evenkeel/evenkeel/zzlaws_api_b1.FnAppendCompactDropsSpacesOutsideStrings", spec := "fnAppendCompactDropsSpacesOutsideStrings", inPlace := ["internal/bytealg.IndexByte"], apart := false }
def FnAppendCompactDropsSpacesOutsideStringsSaid : Prop := fnAppendCompactDropsSpacesOutsideStringsRow.holds Try.pinned (OpenSpec.ofChange fnAppendCompactDropsSpacesOutsideStringsSpec)

/-- ITS FALSE NEIGHBOUR: 'it returns false'. Refute it at one input. -/
def fnAppendCompactDropsSpacesOutsideStringsWrong : ChangeSpec := { name := "fnAppendCompactDropsSpacesOutsideStrings", fn := fun _ => fun
  | [d1, d2] => { results := [.lit (.bool false)], args := [d1, d2] }
  | _ => none }
def FnAppendCompactDropsSpacesOutsideStringsWrongFalsely : Prop := fnAppendCompactDropsSpacesOutsideStringsRow.holds Try.pinned (OpenSpec.ofChange fnAppendCompactDropsSpacesOutsideStringsWrong)

/-- 'zzlaws_api_b1.FnAppendCompactStreamsAtAnyCutOutsideStrings': WHATEVER THE INPUT: true; the input reads as it did. -/
def fnAppendCompactStreamsAtAnyCutOutsideStringsSpec : ChangeSpec := { name := "fnAppendCompactStreamsAtAnyCutOutsideStrings", fn := fun _ => fun
  | [d1, d2, d3] => { results := [.lit (.bool true)], args := [d1, d2, d3] }
  | _ => none }
def fnAppendCompactStreamsAtAnyCutOutsideStringsRow : OpenClaim := { program := "qxb6617117a", sum := "572713b8c2062d6df25c631aeb74a733e442e71268ddc14e71a200a697a6086e", func := "example.com/evenkeel/evenkeel/zzlaws_api_b1.FnAppendCompactStreamsAtAnyCutOutsideStrings", spec := "fnAppendCompactStreamsAtAnyCutOutsideStrings", inPlace := ["internal/bytealg.IndexByte"], apart := false }
def FnAppendCompactStreamsAtAnyCutOutsideStringsSaid : Prop := fnAppendCompactStreamsAtAnyCutOutsideStringsRow.holds Try.pinned (OpenSpec.ofChange fnAppendCompactStreamsAtAnyCutOutsideStringsSpec)

/-- ITS FALSE NEIGHBOUR: 'it returns false'. Refute it at one input. -/
def fnAppendCompactStreamsAtAnyCutOutsideStringsWrong : ChangeSpec := { name := "fnAppendCompactStreamsAtAnyCutOutsideStrings", fn := fun _ => fun
  | [d1, d2, d3] => { results := [.lit (.bool false)], args := [d1, d2, d3] }
  | _ => none }
def FnAppendCompactStreamsAtAnyCutOutsideStringsWrongFalsely : Prop := fnAppendCompactStreamsAtAnyCutOutsideStringsRow.holds Try.pinned (OpenSpec.ofChange fnAppendCompactStreamsAtAnyCutOutsideStringsWrong)

/-- 'zzlaws_api_b1.FnPlacedNestsAsOnePath': WHATEVER THE INPUT: true; the input reads as it did. -/
def fnPlacedNestsAsOnePathSpec : ChangeSpec := { name := "fnPlacedNestsAsOnePath", fn := fun _ => fun
  | [d1, d2, d3] => { results := [.lit (.bool true)], args := [d1, d2, d3] }
  | _ => none }
def fnPlacedNestsAsOnePathRow : OpenClaim := { program := "qxb6617117a", sum := "572713b8c2062d6df25c631aeb74a733e442e71268ddc14e71a200a697a6086e", func := "example.com/evenkeel/evenkeel/zzlaws_api_b1.FnPlacedNestsAsOnePath", spec := "fnPlacedNestsAsOnePath", apart := false }
def FnPlacedNestsAsOnePathSaid : Prop := fnPlacedNestsAsOnePathRow.holds Try.pinned (OpenSpec.ofChange fnPlacedNestsAsOnePathSpec)

/-- ITS FALSE NEIGHBOUR: 'it returns false'. Refute it at one input. -/
def fnPlacedNestsAsOnePathWrong : ChangeSpec := { name := "fnPlacedNestsAsOnePath", fn := fun _ => fun
  | [d1, d2, d3] => { results := [.lit (.bool false)], args := [d1, d2, d3] }
  | _ => none }
def FnPlacedNestsAsOnePathWrongFalsely : Prop := fnPlacedNestsAsOnePathRow.holds Try.pinned (OpenSpec.ofChange fnPlacedNestsAsOnePathWrong)

end Rows
end Go.Proofs.Qxb6617117a
