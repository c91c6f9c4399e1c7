/-
  No cell of these rows narrows 'for every input' (looked for: loops, veiled, ifaces, maps, wideKeys, modest, calm, conditions, laid).
  DERIVED. THE GIVEN ROWS OF THIS SEAT. 1 by the template 'for every input the law returns true; each argument reads behind the call as it read before'; 0 by the template 'total and deterministic' (their statements: Qxb6617755aTotals.lean).
  GIVEN WITH THE SEED: the statements are not yours to turn. If you find one false, say at which input.
  Laid BY PROGRAM, IN A SANDBOX (cutbox-rows.mjs): the forced cells as the released guide's own fill.sh prints them over the translation 030b5ca96b3adb54… (all of the seat's roots in one cut). By AI agents, Wed Nov 11 2026. No macro, syntax, notation, axiom, sorry.
-/
import Derived.Test.Qxb6617755aChecked
import GoSem.Claim
import GoSem.ClaimJoined
import GoSem.ClaimMapViews
import Derived.JoinedTies
import Derived.KernelRfl
namespace Go.Proofs.Qxb6617755a
/- THE CELL 'sum', in the pinned program and in every row, IS THE sha256 OF THE DUMP (.gsa) THAT Qxb6617755aProg.lean LOADS. Nothing in Lean hashes anything: it is a label: what it is worth is what the hold of that sum in a sandbox is worth. -/
noncomputable def Try.pinned : Pinned := { name := "qxb6617755a", sum := "030b5ca96b3adb540586733e702b1019e36d4f647adfe87d719ca9cf366d6227", checked := Try.checked }
namespace Rows
def none {H : Type} : Left H := { results := [], args := [] }

/-- 'zzlaws_origin_b1.FnNewEscapeInjectiveAndDecodes': WHATEVER THE INPUT: true; the input reads as it did. -/
def fnNewEscapeInjectiveAndDecodesSpec : ChangeSpec := { name := "fnNewEscapeInjectiveAndDecodes", fn := fun _ => fun
  | [d1, d2] => { results := [.lit (.bool true)], args := [d1, d2] }
  | _ => none }
def fnNewEscapeInjectiveAndDecodesRow : OpenClaim := { program := "qxb6617755a", sum := "030b5ca96b3adb540586733e702b1019e36d4f647adfe87d719ca9cf366d6227", func := "example.com/precedence/precedence/zzlaws_origin_b1.FnNewEscapeInjectiveAndDecodes", spec := "fnNewEscapeInjectiveAndDecodes", apart := false }
def FnNewEscapeInjectiveAndDecodesSaid : Prop := fnNewEscapeInjectiveAndDecodesRow.holds Try.pinned (OpenSpec.ofChange fnNewEscapeInjectiveAndDecodesSpec)

/-- ITS FALSE NEIGHBOUR: 'it returns false'. Refute it at one input. -/
def fnNewEscapeInjectiveAndDecodesWrong : ChangeSpec := { name := "fnNewEscapeInjectiveAndDecodes", fn := fun _ => fun
  | [d1, d2] => { results := [.lit (.bool false)], args := [d1, d2] }
  | _ => none }
def FnNewEscapeInjectiveAndDecodesWrongFalsely : Prop := fnNewEscapeInjectiveAndDecodesRow.holds Try.pinned (OpenSpec.ofChange fnNewEscapeInjectiveAndDecodesWrong)

end Rows
end Go.Proofs.Qxb6617755a
