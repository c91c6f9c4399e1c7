/-
  THE WALK OF (*Cursor).made (function 17): one step of its recursion, the callees by contracts.
-/
import Derived.Test.Qxb6618315aGrow
import Derived.Deep.RegionHeld3
namespace Go.Proofs.Qxb6618315a
open Go.RowKit Go.Deep

/-- A set's or a cursor's block as a pointer. -/
def ptr (t : Option Nat) : Value := .pointer (t.map fun t => ⟨t, 0, none⟩)

/-- A cursor's five cells. -/
def curCells (s u : Option Nat) (f k v : ByteArray) : Obj := .cells #[ptr s, ptr u, .string f, .string k, .string v] 44 (0, 0)

theorem cur_cells {w : World} {c : Nat} {s u : Option Nat} {f k v : ByteArray} (h : w.heap[c]? = some (curCells s u f k v)) :
    w.cell? ⟨c, 0, none⟩ = some (ptr s) ∧ w.cell? ⟨c, 1, none⟩ = some (ptr u) ∧ w.cell? ⟨c, 2, none⟩ = some (.string f) ∧ w.cell? ⟨c, 3, none⟩ = some (.string k) ∧ w.cell? ⟨c, 4, none⟩ = some (.string v) ∧ w.frozen? ⟨c, 0, none⟩ = false := by
  refine ⟨?_, ?_, ?_, ?_, ?_, ?_⟩ <;> simp [World.cell?, World.frozen?, h, curCells]

theorem cur_none {w : World} {c u : Nat} {f k v : ByteArray} (h : w.heap[c]? = some (curCells none (some u) f k v)) :
    w.cell? ⟨c, 0, none⟩ = some (.pointer none) ∧ w.cell? ⟨c, 1, none⟩ = some (.pointer (some ⟨u, 0, none⟩)) ∧ w.cell? ⟨c, 2, none⟩ = some (.string f) ∧ w.cell? ⟨c, 3, none⟩ = some (.string k) ∧ w.cell? ⟨c, 4, none⟩ = some (.string v) ∧ w.frozen? ⟨c, 0, none⟩ = false := cur_cells h

theorem cur_rest {w : World} {c u : Nat} {f k v : ByteArray} (h : w.heap[c]? = some (curCells none (some u) f k v)) :
    w.cell? ⟨c, 1, none⟩ = some (.pointer (some ⟨u, 0, none⟩)) ∧ w.cell? ⟨c, 2, none⟩ = some (.string f) ∧ w.cell? ⟨c, 3, none⟩ = some (.string k) ∧ w.cell? ⟨c, 4, none⟩ = some (.string v) ∧ w.frozen? ⟨c, 0, none⟩ = false := (cur_none h).2

theorem cur_set {w : World} {c u : Nat} {f k v : ByteArray} {s : Option Nat} (t : Nat) (h : w.heap[c]? = some (curCells s u f k v)) : (w.setCell ⟨c, 0, none⟩ (.pointer (some ⟨t, 0, none⟩))).heap[c]? = some (curCells (some t) u f k v) :=
  heap_setCell_at _ h

theorem cur_rest' {w : World} {c u t : Nat} {f k v : ByteArray} (h : w.heap[c]? = some (curCells none (some u) f k v)) :
    (w.setCell ⟨c, 0, none⟩ (.pointer (some ⟨t, 0, none⟩))).cell? ⟨c, 1, none⟩ = some (.pointer (some ⟨u, 0, none⟩)) ∧ (w.setCell ⟨c, 0, none⟩ (.pointer (some ⟨t, 0, none⟩))).cell? ⟨c, 2, none⟩ = some (.string f) ∧
    (w.setCell ⟨c, 0, none⟩ (.pointer (some ⟨t, 0, none⟩))).cell? ⟨c, 3, none⟩ = some (.string k) ∧ (w.setCell ⟨c, 0, none⟩ (.pointer (some ⟨t, 0, none⟩))).cell? ⟨c, 4, none⟩ = some (.string v) ∧ (w.setCell ⟨c, 0, none⟩ (.pointer (some ⟨t, 0, none⟩))).frozen? ⟨c, 0, none⟩ = false :=
  (cur_cells (cur_set t h)).2

theorem made_done (c t : Nat) (u : Option Nat) (f k v : ByteArray) (w : World) (hc : w.heap[c]? = some (curCells (some t) u f k v)) :
    Calls Try.prog 17 #[.pointer (some ⟨c, 0, none⟩)] w fun e w' => e = .returned (.pointer (some ⟨t, 0, none⟩)) ∧ w = w' := by
  have h0 : w.cell? ⟨c, 0, none⟩ = some (.pointer (some ⟨t, 0, none⟩)) := (cur_cells hc).1
  clear hc
  go_enter Try.func17, Try.ntmps17
  go_wp2_with fail
  go_ret
  exact ⟨rfl, rfl⟩

set_option maxHeartbeats 400000 in
theorem made_step (c u : Nat) (f k v : ByteArray) (Q R : Nat → World → Prop) (w : World)
    (hc : w.heap[c]? = some (curCells none (some u) f k v))
    (hup : Calls Try.prog 17 #[.pointer (some ⟨u, 0, none⟩)] w.drew fun e w1 => ∃ T, e = .returned (.pointer (some ⟨T, 0, none⟩)) ∧ Q T w1)
    (hQ : ∀ T w1, Q T w1 → w1.heap[c]? = some (curCells none (some u) f k v))
    (hgrow : ∀ T w1, Q T w1 → Calls Try.prog 18 #[.pointer (some ⟨T, 0, none⟩), .agg #[.string f, .string k, .string v]] w1 fun e w2 => ∃ t, e = .returned (.pointer (some ⟨t, 0, none⟩)) ∧ R t w2)
    (hR : ∀ t w2, R t w2 → w2.heap[c]? = some (curCells none (some u) f k v)) :
    Calls Try.prog 17 #[.pointer (some ⟨c, 0, none⟩)] w fun e w' => ∃ t w2, R t w2 ∧ e = .returned (.pointer (some ⟨t, 0, none⟩)) ∧ w2.setCell ⟨c, 0, none⟩ (.pointer (some ⟨t, 0, none⟩)) = w' := by
  have hS := cur_none hc
  have HU : Hid _ := hup
  have HQ : Hid _ := hQ
  have HG : Hid _ := hgrow
  have HR : Hid _ := hR
  clear hup hQ hgrow hR
  obtain ⟨c0, c1, c2, c3, c4, c5⟩ := hS
  go_enter Try.func17, Try.ntmps17
  go_wp2_with fail
  go_region_held3 (fun w' => w'.cell? ⟨c, 1, none⟩ = some (.pointer (some ⟨u, 0, none⟩)) ∧ w'.cell? ⟨c, 2, none⟩ = some (.string f) ∧ w'.cell? ⟨c, 3, none⟩ = some (.string k) ∧ w'.cell? ⟨c, 4, none⟩ = some (.string v) ∧ w'.frozen? ⟨c, 0, none⟩ = false)
    (first | exact cur_rest hc | exact cur_rest (HQ.out _ _ (by assumption)) | exact cur_rest (HR.out _ _ (by assumption)) | exact cur_rest' (HR.out _ _ (by assumption)))
    (first
      | (go_at_call 17; refine Calls.mono (show Calls Try.prog 17 _ _ _ from HU.out) ?_; rintro e w1 ⟨T, rfl, hq⟩)
      | (go_at_call 18; refine Calls.mono (show Calls Try.prog 18 _ _ _ from HG.out _ _ (by assumption)) ?_; rintro e w2 ⟨t, rfl, hr⟩; have h0 := (cur_none (HR.out _ _ hr)).1))
  obtain ⟨d0, _⟩ := cur_cells (cur_set t (HR.out _ _ hr))
  simp only [ptr, Option.map_some] at d0
  clear c0 c1 c2 c3 c4 c5
  go_wp2_with fail
  go_ret
  exact ⟨t, w2, hr, rfl, rfl⟩
end Go.Proofs.Qxb6618315a
