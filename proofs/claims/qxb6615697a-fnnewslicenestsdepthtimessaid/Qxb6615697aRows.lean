/-
  No cell of these rows narrows 'for every input' (looked for: loops, veiled, ifaces, maps, wideKeys, modest, calm, conditions, laid).
  DERIVED. THE GIVEN ROWS OF THIS SEAT. 2 by the template 'for every input the law returns true; each argument reads behind the call as it read before'; 0 by the template 'total and deterministic' (their statements: Qxb6615697aTotals.lean).
  GIVEN WITH THE SEED: the statements are not yours to turn. If you find one false, say at which input.
  Laid BY PROGRAM, IN A SANDBOX (cutbox-rows.mjs): the forced cells as the released guide's own fill.sh prints them over the translation 6ad2c14517584068… (all of the seat's roots in one cut). By AI agents, Wed Nov 11 2026. No macro, syntax, notation, axiom, sorry.
-/
import Derived.Test.Qxb6615697aChecked
import GoSem.Claim
import GoSem.ClaimJoined
import GoSem.ClaimMapViews
import Derived.JoinedTies
import Derived.KernelRfl
namespace Go.Proofs.Qxb6615697a
/- THE CELL 'sum', in the pinned program and in every row, IS THE sha256 OF THE DUMP (.gsa) THAT Qxb6615697aProg.lean LOADS. Nothing in Lean hashes anything: it is a label: what it is worth is what the hold of that sum in a sandbox is worth. -/
noncomputable def Try.pinned : Pinned := { name := "qxb6615697a", sum := "6ad2c14517584068cdd7d44945f54038b6fad1e26a3d3987efd466ccfc1639a6", checked := Try.checked }
namespace Rows
def none {H : Type} : Left H := { results := [], args := [] }

/-- 'zzlaws_internal_types_b1.FnNewSliceNestsDepthTimes': WHATEVER THE INPUT: true; the input reads as it did. -/
def fnNewSliceNestsDepthTimesSpec : ChangeSpec := { name := "fnNewSliceNestsDepthTimes", fn := fun _ => fun
  | [d1, d2, d3, d4, d5] => { results := [.lit (.bool true)], args := [d1, d2, d3, d4, d5] }
  | _ => none }
def fnNewSliceNestsDepthTimesRow : OpenClaim := { program := "qxb6615697a", sum := "6ad2c14517584068cdd7d44945f54038b6fad1e26a3d3987efd466ccfc1639a6", func := "example.com/alder/alder/zzlaws_internal_types_b1.FnNewSliceNestsDepthTimes", spec := "fnNewSliceNestsDepthTimes", unfollowed := true, recurses := true, apart := false }
def FnNewSliceNestsDepthTimesSaid : Prop := fnNewSliceNestsDepthTimesRow.holds Try.pinned (OpenSpec.ofChange fnNewSliceNestsDepthTimesSpec)

/-- ITS FALSE NEIGHBOUR: 'it returns false'. Refute it at one input. -/
def fnNewSliceNestsDepthTimesWrong : ChangeSpec := { name := "fnNewSliceNestsDepthTimes", fn := fun _ => fun
  | [d1, d2, d3, d4, d5] => { results := [.lit (.bool false)], args := [d1, d2, d3, d4, d5] }
  | _ => none }
def FnNewSliceNestsDepthTimesWrongFalsely : Prop := fnNewSliceNestsDepthTimesRow.holds Try.pinned (OpenSpec.ofChange fnNewSliceNestsDepthTimesWrong)

/-- 'zzlaws_internal_types_b1.FnTermTildeAddsOneMark': WHATEVER THE INPUT: true; the input reads as it did. -/
def fnTermTildeAddsOneMarkSpec : ChangeSpec := { name := "fnTermTildeAddsOneMark", fn := fun _ => fun
  | [d1, d2, d3, d4, d5] => { results := [.lit (.bool true)], args := [d1, d2, d3, d4, d5] }
  | _ => none }
def fnTermTildeAddsOneMarkRow : OpenClaim := { program := "qxb6615697a", sum := "6ad2c14517584068cdd7d44945f54038b6fad1e26a3d3987efd466ccfc1639a6", func := "example.com/alder/alder/zzlaws_internal_types_b1.FnTermTildeAddsOneMark", spec := "fnTermTildeAddsOneMark", unfollowed := true, recurses := true, apart := false }
def FnTermTildeAddsOneMarkSaid : Prop := fnTermTildeAddsOneMarkRow.holds Try.pinned (OpenSpec.ofChange fnTermTildeAddsOneMarkSpec)

/-- ITS FALSE NEIGHBOUR: 'it returns false'. Refute it at one input. -/
def fnTermTildeAddsOneMarkWrong : ChangeSpec := { name := "fnTermTildeAddsOneMark", fn := fun _ => fun
  | [d1, d2, d3, d4, d5] => { results := [.lit (.bool false)], args := [d1, d2, d3, d4, d5] }
  | _ => none }
def FnTermTildeAddsOneMarkWrongFalsely : Prop := fnTermTildeAddsOneMarkRow.holds Try.pinned (OpenSpec.ofChange fnTermTildeAddsOneMarkWrong)

end Rows
end Go.Proofs.Qxb6615697a
