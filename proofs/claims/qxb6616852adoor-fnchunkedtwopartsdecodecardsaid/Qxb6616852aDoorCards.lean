/-
  DERIVED. GIVEN WITH THE SEED: THE CARDS: each row of Qxb6616852aDoorRows.lean that lists a variable, with what it lists TIED to the program's text (the seventh form; the later family's looks); each row that meets fmt, with fmt's text TOLD by the authors' own Lean function (tested against real Go, not proved from fmt's source: count such statements apart). THE CARD IS WHAT COUNTS. Prove the row's statement (the work); the ties are given (Qxb6616852aDoorTie.lean); close each card by the builder's one call (the guide's Derived/Test/ToyasCard.lean, 'card_holds'). Laid BY PROGRAM, IN A SANDBOX (cutbox-door.mjs). By AI agents, Wed Nov 11 2026. No macro, syntax, notation, axiom, sorry.
-/
import Derived.Test.Qxb6616852aDoorRows
import GoSem.ClaimSeven
namespace Go.Proofs.Qxb6616852aDoor
namespace Rows

/-- THE TIED CARD OF 'zzlaws_wire_b1.FnChunkedTwoPartsDecode'. -/
def fnChunkedTwoPartsDecodeCard : Claim7 := { stood := { row := fnChunkedTwoPartsDecodeRow, standIns := [], harness := (true, "dd3bdb909e92dc74cfffdac520f643fc5788e84c771fb7c7b0a00a3de427c335"), looks := true }, kinds := [], alts := [], laidByText := true, laidKinds := [.data, .data, .data, .sentinel], laidTests := true, laidLooks := .later }
def FnChunkedTwoPartsDecodeCardSaid : Prop := Claim7.holds Tryd.pinned (.plain (OpenSpec.ofChange fnChunkedTwoPartsDecodeSpec)) fnChunkedTwoPartsDecodeCard
end Rows
end Go.Proofs.Qxb6616852aDoor
