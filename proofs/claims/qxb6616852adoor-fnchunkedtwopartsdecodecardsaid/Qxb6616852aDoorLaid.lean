/-
  WHAT THE LISTED VARIABLES GIVE THE WALK: deBruijn64tab's sixteenth cell.
-/
import Derived.Test.Qxb6616852aDoorRows
import Derived.ProofKit
import Derived.OpenShut
import Derived.MakeChecks
import Derived.Stop.Joined
namespace Go.Proofs.Qxb6616852aDoor
open Go.ChangeShapes Go.WideShapes Go.ChangeAt Go.RowKit

theorem g32 : Tryd.prog.globalNamed (Rows.fnChunkedTwoPartsDecodeRow.named.getD 1 "") = some 2 := by kernel_rfl
theorem g64 : Tryd.prog.globalNamed (Rows.fnChunkedTwoPartsDecodeRow.named.getD 2 "") = some 3 := by kernel_rfl
theorem t64 : (Tryd.prog.globals[3]?).map (·.type) = some 85 := by kernel_rfl
theorem c85 : Tryd.prog.cellsOf 85 = 64 := by kernel_rfl
theorem c5 : Tryd.prog.cellsOf 5 = 1 := by kernel_rfl

theorem of_laid {W : World} (h : laidMetH Tryd.prog Rows.fnChunkedTwoPartsDecodeRow.laid W) : W.cell? ⟨3, 15, none⟩ = some (.int .u8 4) := by
  rw [MakeChecks.laidMetH_plain _ _ _ (by kernel_rfl)] at h
  obtain ⟨ps, ⟨g0, t0, cs0, f0, p0, q0, hg0, ht0, hv0, hd0, ⟨g1, t1, cs1, f1, p1, q1, hg1, ht1, hv1, hd1, _, _⟩, _⟩, _, _⟩ := h
  obtain rfl := Option.some.inj (g64.symm.trans hg1)
  obtain rfl := Option.some.inj (t64.symm.trans ht1)
  obtain ⟨xs, m1, rfl, hx1, hlen, hn3, hel⟩ := DataW.trod_array Tryd.underlying85 hd1
  have h15 := hel 15 (by decide)
  rw [c5, Nat.mul_one] at h15
  have hc := World.var?_cell hg1 hv1 15
  rw [hc]
  simp only [Prod.mk.injEq] at hx1
  have hx15 : xs[15]?.map (·.1) = some (.lit (.int .u8 4)) := by
    have e1 := hx1.1
    simp only [Rows.laid_math_bits_deBruijn64tab, DataW.agg.injEq] at e1
    rw [← List.getElem?_map, ← e1]
    rfl
  cases hx : xs[15]? with
  | none => rw [hx] at hx15; cases hx15
  | some y =>
    rw [hx] at h15 hx15
    obtain ⟨k, e1, e2, _⟩ := DataW.trod_int Tryd.underlying5 h15
    subst e2
    simp at hx15
    subst hx15
    have h1 : (cs1.toList.drop 15).head? = some (.int .u8 4) := by
      cases hd : cs1.toList.drop 15 with
      | nil => rw [hd] at e1; simp at e1
      | cons a r => rw [hd] at e1; simp at e1; simp [e1]
    rw [List.head?_drop] at h1
    simpa using h1
end Go.Proofs.Qxb6616852aDoor
