/-
  No cell of these rows narrows 'for every input' (looked for: loops, veiled, ifaces, maps, wideKeys, modest, calm, conditions, laid).
  DERIVED. THE GIVEN ROWS OF THIS SEAT. 2 by the template 'for every input the law returns true; each argument reads behind the call as it read before'; 0 by the template 'total and deterministic' (their statements: Qxb6617752aTotals.lean).
  GIVEN WITH THE SEED: the statements are not yours to turn. If you find one false, say at which input.
  Laid BY PROGRAM, IN A SANDBOX (cutbox-rows.mjs): the forced cells as the released guide's own fill.sh prints them over the translation 42c35d90ef4039ea… (all of the seat's roots in one cut). By AI agents, Wed Nov 11 2026. No macro, syntax, notation, axiom, sorry.
-/
import Derived.Test.Qxb6617752aChecked
import GoSem.Claim
import GoSem.ClaimJoined
import GoSem.ClaimMapViews
import Derived.JoinedTies
import Derived.KernelRfl
namespace Go.Proofs.Qxb6617752a
/- THE CELL 'sum', in the pinned program and in every row, IS THE sha256 OF THE DUMP (.gsa) THAT Qxb6617752aProg.lean LOADS. Nothing in Lean hashes anything: it is a label: what it is worth is what the hold of that sum in a sandbox is worth. -/
noncomputable def Try.pinned : Pinned := { name := "qxb6617752a", sum := "42c35d90ef4039ea9ac43ea971131cdd1f10f6a912ad56ddf9b40f38be4cfcf3", checked := Try.checked }
namespace Rows
def none {H : Type} : Left H := { results := [], args := [] }

/-- 'zzlaws_root_b1.FnProvisioningIndexSplitAndRoot': WHATEVER THE INPUT: true; the input reads as it did. -/
def fnProvisioningIndexSplitAndRootSpec : ChangeSpec := { name := "fnProvisioningIndexSplitAndRoot", fn := fun _ => fun
  | [d1, d2] => { results := [.lit (.bool true)], args := [d1, d2] }
  | _ => none }
def fnProvisioningIndexSplitAndRootRow : OpenClaim := { program := "qxb6617752a", sum := "42c35d90ef4039ea9ac43ea971131cdd1f10f6a912ad56ddf9b40f38be4cfcf3", func := "example.com/keybound/keybound/zzlaws_root_b1.FnProvisioningIndexSplitAndRoot", spec := "fnProvisioningIndexSplitAndRoot", apart := false }
def FnProvisioningIndexSplitAndRootSaid : Prop := fnProvisioningIndexSplitAndRootRow.holds Try.pinned (OpenSpec.ofChange fnProvisioningIndexSplitAndRootSpec)

/-- ITS FALSE NEIGHBOUR: 'it returns false'. Refute it at one input. -/
def fnProvisioningIndexSplitAndRootWrong : ChangeSpec := { name := "fnProvisioningIndexSplitAndRoot", fn := fun _ => fun
  | [d1, d2] => { results := [.lit (.bool false)], args := [d1, d2] }
  | _ => none }
def FnProvisioningIndexSplitAndRootWrongFalsely : Prop := fnProvisioningIndexSplitAndRootRow.holds Try.pinned (OpenSpec.ofChange fnProvisioningIndexSplitAndRootWrong)

/-- 'zzlaws_root_b1.FnProvisioningIndexSetAndClear': WHATEVER THE INPUT: true; the input reads as it did. -/
def fnProvisioningIndexSetAndClearSpec : ChangeSpec := { name := "fnProvisioningIndexSetAndClear", fn := fun _ => fun
  | [d1, d2] => { results := [.lit (.bool true)], args := [d1, d2] }
  | _ => none }
def fnProvisioningIndexSetAndClearRow : OpenClaim := { program := "qxb6617752a", sum := "42c35d90ef4039ea9ac43ea971131cdd1f10f6a912ad56ddf9b40f38be4cfcf3", func := "example.com/keybound/keybound/zzlaws_root_b1.FnProvisioningIndexSetAndClear", spec := "fnProvisioningIndexSetAndClear", apart := false }
def FnProvisioningIndexSetAndClearSaid : Prop := fnProvisioningIndexSetAndClearRow.holds Try.pinned (OpenSpec.ofChange fnProvisioningIndexSetAndClearSpec)

/-- ITS FALSE NEIGHBOUR: 'it returns false'. Refute it at one input. -/
def fnProvisioningIndexSetAndClearWrong : ChangeSpec := { name := "fnProvisioningIndexSetAndClear", fn := fun _ => fun
  | [d1, d2] => { results := [.lit (.bool false)], args := [d1, d2] }
  | _ => none }
def FnProvisioningIndexSetAndClearWrongFalsely : Prop := fnProvisioningIndexSetAndClearRow.holds Try.pinned (OpenSpec.ofChange fnProvisioningIndexSetAndClearWrong)

end Rows
end Go.Proofs.Qxb6617752a
