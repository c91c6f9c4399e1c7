/-
  THE WALK OF decodeChunked (10).
-/
import Derived.Test.Qxb6616852aDoorEnc
import Derived.Deep.RegionLaw
import Derived.Laws.AppendOwn
import Derived.OwnWalk
namespace Go.Proofs.Qxb6616852aDoor
open Go.RowKit Go.Deep

def bc (l : List Int) : List Value := l.map fun x => .int .u8 x

/-- The decoder's memory: the result's place, d, and d's body. -/
structure DS (w wr : World) (body : List Int) (k : Nat) : Prop where
  since : Below w.heap.size w wr
  size : w.heap.size + 2 ≤ wr.heap.size
  res : wr.heap[w.heap.size]? = some (.cells #[.slice none 0 0, .int .i64 0, .slice none 0 0, .slice none 0 0, .bool false] 34 (0, 0))
  d : ∃ v, wr.heap[w.heap.size + 1]? = some (.cells #[v, .int .i64 k, .slice none 0 0, .slice none 0 0, .bool false] 34 (0, 0)) ∧ wr.ownsRow (w.heap.size + 2) 5 1 v body.length (bc body)

theorem ds_start (w : World) : DS w ((w.alloc (.cells #[.slice none 0 0, .int .i64 0, .slice none 0 0, .slice none 0 0, .bool false] 34)).alloc (.cells #[.slice none 0 0, .int .i64 0, .slice none 0 0, .slice none 0 0, .bool false] 34)) [] 0 := by
  refine ⟨((Below.refl _ _).alloc (Nat.le_refl _) _).alloc (by simp) _, by simp, ?_, .slice none 0 0, ?_, World.ownsRow_nil _ _ _ _⟩
  · rw [Below.heap_alloc _ _ _ (by simp)]
    exact blk_alloc_new _ _
  · have h := blk_alloc_new (w.alloc (.cells #[.slice none 0 0, .int .i64 0, .slice none 0 0, .slice none 0 0, .bool false] 34)) (.cells #[.slice none 0 0, .int .i64 0, .slice none 0 0, .slice none 0 0, .bool false] 34)
    rw [show (w.alloc (.cells #[.slice none 0 0, .int .i64 0, .slice none 0 0, .slice none 0 0, .bool false] 34)).heap.size = w.heap.size + 1 by simp] at h
    exact h

theorem owns_form {w : World} {B n : Nat} {v : Value} {xs : List Value} (h : w.ownsRow B 5 1 v n xs) : ∃ ao cap, v = .slice ao n cap := by
  rcases h.2 with ⟨rfl, h0⟩ | ⟨g, cap, cur, rfl, _⟩
  · exact ⟨none, 0, by rw [h0]⟩
  · exact ⟨_, cap, rfl⟩

theorem body_app {w wr : World} {body : List Int} {k : Nat} (h : DS w wr body k) (x : Int) (hlen : body.length ≤ 4194304) :
    ∃ ao cap ao' cap' W', wr.cell? ⟨w.heap.size + 1, 0, none⟩ = some (.slice ao body.length cap) ∧
      (Builtin.append_ #[22, 22] 22 #[.slice ao body.length cap, .slice (some ⟨wr.heap.size, 0, none⟩) 1 1]).run Tryd.prog (wr.drew.alloc (.cells #[.int .u8 x] 5)) = .ok (.slice ao' (body.length + 1) cap') W' ∧
      W'.cell? ⟨w.heap.size + 1, 0, none⟩ = some (.slice ao body.length cap) ∧ W'.frozen? ⟨w.heap.size + 1, 0, none⟩ = false ∧
      DS w (W'.setCell ⟨w.heap.size + 1, 0, none⟩ (.slice ao' (body.length + 1) cap')) (body ++ [x]) k := by
  obtain ⟨hs, hz, hres, v, hd, hown⟩ := h
  obtain ⟨ao, cap, rfl⟩ := owns_form hown
  obtain ⟨i0, hi, hz0, hz1, hz2⟩ := info_parts Tryd.info5
  have hown2 : (wr.drew.alloc (.cells #[.int .u8 x] 5)).ownsRow (w.heap.size + 2) 5 1 (.slice ao body.length cap) body.length (bc body) := hown.drew.alloc _
  have hsz : (wr.drew.alloc (.cells #[.int .u8 x] 5)).heap.size = wr.heap.size + 1 := by simp
  have hnew : (wr.drew.alloc (.cells #[.int .u8 x] 5)).heap[wr.heap.size]? = some (.cells #[.int .u8 x] 5) := blk_alloc_new wr.drew _
  obtain ⟨v', W', hr, ho, hg, _⟩ := run_append_own (P := Tryd.prog) (wr.drew.alloc (.cells #[.int .u8 x] 5)) (w.heap.size + 2) 22 22 5 i0 (.int .u8 0) 1 1 Tryd.underlying22 hi hz0 hz1 hz2 rfl (by decide)
    (.slice ao body.length cap) body.length (bc body) hown2 ⟨wr.heap.size, 0, none⟩ 1 1 [.int .u8 x] rfl (fun j u hu => by
      rcases j with _ | j
      · obtain rfl := Option.some.inj hu
        rw [Lib.addr_add, Lib.cell_of_heap hnew]
        rfl
      · simp at hu) (by simp [Value.oneCell']) (by unfold maxLen; omega) (by omega) (by rw [hsz]; omega)
  obtain ⟨ao', cap', rfl⟩ := owns_form ho
  have hlt : ∀ k, (Value.slice ao body.length cap).ownBlock = some k → w.heap.size + 2 ≤ k := fun k hk => (hown2.lt k hk).1
  have hlt' : ∀ k, (Value.slice ao' (body.length + 1) cap').ownBlock = some k → w.heap.size + 2 ≤ k := fun k hk => (ho.lt k hk).1
  have hkeep : ∀ k, k < w.heap.size + 2 → W'.heap[k]? = wr.heap[k]? := fun k hk => by
    rw [hg.block k (by rw [hsz]; omega) (fun e => by have := hlt k e.symm; omega)]
    exact Below.heap_alloc wr.drew _ k (show k < wr.heap.size by omega)
  have hd' : W'.heap[w.heap.size + 1]? = _ := (hkeep _ (by omega)).trans hd
  refine ⟨ao, cap, ao', cap', W', by rw [Lib.cell_of_heap hd]; rfl, hr, by rw [Lib.cell_of_heap hd']; rfl, Lib.frozen_of_heap hd' 0, ?_⟩
  have hsize : wr.heap.size ≤ W'.heap.size := Nat.le_trans (by rw [hsz]; omega) hg.size
  refine ⟨⟨?_, ?_, ?_, ?_, ?_⟩, ?_, ?_, _, Lib.heap_setCell_same (i := 0) hd' _, ?_⟩
  · exact hg.os.trans hs.os
  · exact hg.tape.trans hs.tape
  · exact hg.output.trans hs.output
  · exact Nat.le_trans hs.size (by simpa [World.setCell] using hsize)
  · intro i hi
    rw [Below.heap_setCell _ _ _ _ (show i ≠ w.heap.size + 1 by omega), hkeep i (by omega)]
    exact hs.block i hi
  · simpa [World.setCell] using Nat.le_trans hz hsize
  · rw [Below.heap_setCell _ _ _ _ (show w.heap.size ≠ w.heap.size + 1 by omega), hkeep _ (by omega)]
    exact hres
  · have h3 := ho.kept (Lib.grownBy_setCell W' (w.heap.size + 1) 0 (.slice ao' (body.length + 1) cap')) (.inr (fun e => by have := hlt' _ e; omega))
    have e1 : (body ++ [x]).length = body.length + 1 := by simp
    have e2 : bc (body ++ [x]) = bc body ++ [.int .u8 x] := by simp [bc]
    rw [e1, e2]
    exact h3

theorem step_app_run {P : Program} {ops : Array Oper} {o : Oper} {a : Act} {w : World} {K : Act → World → Prop} {Q : Exit → Act → World → Prop} {E : Prop}
    (hg : o.guard = none) (s x : Operand) (t tn : TypeId) (hop : o.op = Op.call { callee := Callee.builtin Builtin.append, args := #[s, x], argTypes := #[t, tn] })
    (vs vx : Value) (hs : a.eval s = vs) (hx : a.eval x = vx) (v' : Value) (w' : World) (hr : (Builtin.append_ #[t, tn] o.type #[vs, vx]).run P w = .ok v' w')
    (hK : K (a.put o.dst v') w') : if Region.wanted o (yielded ops a.tmps) = true then Oper.wp P o a w K Q else E := by
  have hw : Region.wanted o (yielded ops a.tmps) = true := by simp [Region.wanted, hg]
  rw [if_pos hw]
  unfold Oper.wp
  simp [execOp, hop, resolve, invoke, builtin, hs, hx, hr, Result.andThen]
  exact hK

/-- d.chunks++ -/
theorem ds_count {w wr : World} {body : List Int} {k : Nat} (h : DS w wr body k) : DS w (wr.setCell ⟨w.heap.size + 1, 1, none⟩ (.int .i64 (k + 1 : Nat))) body (k + 1) := by
  obtain ⟨hs, hz, hres, v, hd, hown⟩ := h
  refine ⟨hs.setCell (p := ⟨w.heap.size + 1, 1, none⟩) (by simp) _, by simpa [World.setCell] using hz, ?_, v, Lib.heap_setCell_same (i := 1) hd _, ?_⟩
  · rw [Below.heap_setCell _ _ _ _ (show w.heap.size ≠ w.heap.size + 1 by omega)]
    exact hres
  · exact hown.kept (Lib.grownBy_setCell wr (w.heap.size + 1) 1 _) (.inr (fun e => by have := (hown.lt _ e).1; omega))
end Go.Proofs.Qxb6616852aDoor
