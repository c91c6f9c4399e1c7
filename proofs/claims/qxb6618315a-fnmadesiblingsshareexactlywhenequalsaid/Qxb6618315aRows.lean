/-
  No cell of these rows narrows 'for every input' (looked for: loops, veiled, ifaces, maps, wideKeys, modest, calm, conditions, laid).
  DERIVED. THE GIVEN ROWS OF THIS SEAT. 2 by the template 'for every input the law returns true; each argument reads behind the call as it read before'; 0 by the template 'total and deterministic' (their statements: Qxb6618315aTotals.lean).
  GIVEN WITH THE SEED: the statements are not yours to turn. If you find one false, say at which input.
  Laid BY PROGRAM, IN A SANDBOX (cutbox-rows.mjs): the forced cells as the released guide's own fill.sh prints them over the translation 40108abcc14821e9… (all of the seat's roots in one cut). By AI agents, Wed Nov 11 2026. No macro, syntax, notation, axiom, sorry.
-/
import Derived.Test.Qxb6618315aChecked
import GoSem.Claim
import GoSem.ClaimJoined
import GoSem.ClaimMapViews
import Derived.JoinedTies
import Derived.KernelRfl
namespace Go.Proofs.Qxb6618315a
/- THE CELL 'sum', in the pinned program and in every row, IS THE sha256 OF THE DUMP (.gsa) THAT Qxb6618315aProg.lean LOADS. Nothing in Lean hashes anything: it is a label: what it is worth is what the hold of that sum in a sandbox is worth. -/
noncomputable def Try.pinned : Pinned := { name := "qxb6618315a", sum := "40108abcc14821e90ecacaad3b21239f30e293ae1b36a407b0de0c84e906833c", checked := Try.checked }
namespace Rows
def none {H : Type} : Left H := { results := [], args := [] }

/-- 'zzlaws_fieldpath_b1.FnMadeBuildsOneChainAlongPath': WHATEVER THE INPUT: true; the input reads as it did. -/
def fnMadeBuildsOneChainAlongPathSpec : ChangeSpec := { name := "fnMadeBuildsOneChainAlongPath", fn := fun _ => fun
  | [d1, d2] => { results := [.lit (.bool true)], args := [d1, d2] }
  | _ => none }
def fnMadeBuildsOneChainAlongPathRow : OpenClaim := { program := "qxb6618315a", sum := "40108abcc14821e90ecacaad3b21239f30e293ae1b36a407b0de0c84e906833c", func := "example.com/declarant/declarant/zzlaws_fieldpath_b1.FnMadeBuildsOneChainAlongPath", spec := "fnMadeBuildsOneChainAlongPath", recurses := true, plainKeys := false, apart := false }
def FnMadeBuildsOneChainAlongPathSaid : Prop := fnMadeBuildsOneChainAlongPathRow.holds Try.pinned (OpenSpec.ofChange fnMadeBuildsOneChainAlongPathSpec)

/-- ITS FALSE NEIGHBOUR: 'it returns false'. Refute it at one input. -/
def fnMadeBuildsOneChainAlongPathWrong : ChangeSpec := { name := "fnMadeBuildsOneChainAlongPath", fn := fun _ => fun
  | [d1, d2] => { results := [.lit (.bool false)], args := [d1, d2] }
  | _ => none }
def FnMadeBuildsOneChainAlongPathWrongFalsely : Prop := fnMadeBuildsOneChainAlongPathRow.holds Try.pinned (OpenSpec.ofChange fnMadeBuildsOneChainAlongPathWrong)

/-- 'zzlaws_fieldpath_b1.FnMadeSiblingsShareExactlyWhenEqual': WHATEVER THE INPUT: true; the input reads as it did. -/
def fnMadeSiblingsShareExactlyWhenEqualSpec : ChangeSpec := { name := "fnMadeSiblingsShareExactlyWhenEqual", fn := fun _ => fun
  | [d1, d2, d3] => { results := [.lit (.bool true)], args := [d1, d2, d3] }
  | _ => none }
def fnMadeSiblingsShareExactlyWhenEqualRow : OpenClaim := { program := "qxb6618315a", sum := "40108abcc14821e90ecacaad3b21239f30e293ae1b36a407b0de0c84e906833c", func := "example.com/declarant/declarant/zzlaws_fieldpath_b1.FnMadeSiblingsShareExactlyWhenEqual", spec := "fnMadeSiblingsShareExactlyWhenEqual", recurses := true, plainKeys := false, apart := false }
def FnMadeSiblingsShareExactlyWhenEqualSaid : Prop := fnMadeSiblingsShareExactlyWhenEqualRow.holds Try.pinned (OpenSpec.ofChange fnMadeSiblingsShareExactlyWhenEqualSpec)

/-- ITS FALSE NEIGHBOUR: 'it returns false'. Refute it at one input. -/
def fnMadeSiblingsShareExactlyWhenEqualWrong : ChangeSpec := { name := "fnMadeSiblingsShareExactlyWhenEqual", fn := fun _ => fun
  | [d1, d2, d3] => { results := [.lit (.bool false)], args := [d1, d2, d3] }
  | _ => none }
def FnMadeSiblingsShareExactlyWhenEqualWrongFalsely : Prop := fnMadeSiblingsShareExactlyWhenEqualRow.holds Try.pinned (OpenSpec.ofChange fnMadeSiblingsShareExactlyWhenEqualWrong)

end Rows
end Go.Proofs.Qxb6618315a
