/-
  (*bufio.Writer).Write (19).
-/
import Derived.Test.Qxb6616852aDoorWr
import Derived.Deep.RegionLaw
import Derived.BigRegion
namespace Go.Proofs.Qxb6616852aDoor
open Go.RowKit Go.Deep

theorem step_copy_run {P : Program} {ops : Array Oper} {o : Oper} {a : Act} {w : World} {K : Act → World → Prop} {Q : Exit → Act → World → Prop} {E : Prop}
    (hg : o.guard = none) (s x : Operand) (t tn : TypeId) (hop : o.op = Op.call { callee := Callee.builtin Builtin.copy, args := #[s, x], argTypes := #[t, tn] })
    (vs vx : Value) (hs : a.eval s = vs) (hx : a.eval x = vx) (v' : Value) (w' : World) (hr : (Builtin.copy_ #[t, tn] o.type #[vs, vx]).run P w = .ok v' w')
    (hK : K (a.put o.dst v') w') : if Region.wanted o (yielded ops a.tmps) = true then Oper.wp P o a w K Q else E := by
  have hw : Region.wanted o (yielded ops a.tmps) = true := by simp [Region.wanted, hg]
  rw [if_pos hw]
  unfold Oper.wp
  simp [execOp, hop, resolve, invoke, builtin, hs, hx, hr, Result.andThen]
  exact hK

/-- Cells of cs at (sp) for a copy of m of them. -/
def SrcAt (W : World) (sp : Option Addr) (cs : List Int) : Prop :=
  0 < cs.length → ∃ a, sp = some a ∧ ∀ j v, (vc cs)[j]? = some v → W.cell? (a.add j) = some v

/-- Behind a copy of 'more' behind pend, and 'b.n += ..'. -/
theorem Wr.copied {k : Nat} {bs pend more : List Int} {W : World} {cur : Array Value} (h : Wr k bs pend W) (hrow : W.heap[k + 1]? = some (.cells cur 5 (0, 0))) (hcs : cur.size = 4096) (htk : cur.toList.take pend.length = vc pend)
    (hlen : pend.length + more.length ≤ 4096) :
    Wr k bs (pend ++ more) ((W.setRow (k + 1) (cur.toList.take pend.length ++ vc more ++ cur.toList.drop (pend.length + more.length)).toArray).setCell ⟨k + 2, 2, none⟩ (.int .i64 (pend.length + more.length : Nat))) := by
  obtain ⟨W1, hW1⟩ : ∃ W1, W.setRow (k + 1) (cur.toList.take pend.length ++ vc more ++ cur.toList.drop (pend.length + more.length)).toArray = W1 := ⟨_, rfl⟩
  have hr1 : W1.heap[k + 1]? = some (.cells (cur.toList.take pend.length ++ vc more ++ cur.toList.drop (pend.length + more.length)).toArray 5 (0, 0)) := by rw [← hW1]; exact setRow_heap W (k + 1) cur _ 5 (0, 0) hrow
  have ho1 : ∀ i, i ≠ k + 1 → W1.heap[i]? = W.heap[i]? := fun i hi => by rw [← hW1]; exact setRow_other _ _ _ _ hi
  have hs1 : W1.heap.size = W.heap.size := by rw [← hW1]; simp
  rw [hW1]
  have hw1 : W1.heap[k + 2]? = _ := (ho1 (k + 2) (by omega)).trans h.wr
  have hother : ∀ i, i ≠ k + 2 → (W1.setCell ⟨k + 2, 2, none⟩ (.int .i64 (pend.length + more.length : Nat))).heap[i]? = W1.heap[i]? := fun i hi => Below.heap_setCell _ _ _ _ hi
  have el : (pend ++ more).length = pend.length + more.length := List.length_append
  refine ⟨?_, ?_, ?_, ⟨_, (hother _ (by omega)).trans hr1, ?_, ?_⟩, by rw [el]; exact hlen⟩
  · have := h.size; simp [World.setCell]; omega
  · obtain ⟨hb0, ⟨p1, lr, p2⟩ | ⟨p1, g, cap, cur', lr, p2, p3, p4, p5⟩⟩ := h.buf
    · exact ⟨hb0, .inl ⟨p1, lr, by rw [hother _ (by omega), ho1 _ (by omega)]; exact p2⟩⟩
    · exact ⟨hb0, .inr ⟨p1, g, cap, cur', lr, by rw [hother _ (by omega), ho1 _ (by omega)]; exact p2, p3, by rw [hother _ (by omega), ho1 _ (by omega)]; exact p4, p5⟩⟩
  · rw [el]
    exact Lib.heap_setCell_same (i := 2) hw1 _
  · simp only [List.size_toArray, List.length_append, vc_length, List.length_drop, List.length_take, Array.length_toList]; omega
  · rw [el, List.toList_toArray, vc_append, htk]
    have e2 : (vc pend ++ vc more).length = pend.length + more.length := by rw [List.length_append, vc_length, vc_length]
    rw [List.take_append_of_le_length (by omega), List.take_of_length_le (by omega)]

/-- 'copy(b.buf[b.n:], p)' where b.n < 4096: m bytes go over. -/
theorem copyIn {k m sc : Nat} {bs pend cs : List Int} {sp : Option Addr} {W : World} (h : Wr k bs pend W) (hm : m = Nat.min cs.length (4096 - pend.length)) (hs : SrcAt W sp cs) :
    ∃ W', (Builtin.copy_ #[22, 22] 3 #[.slice (some ⟨k + 1, pend.length, none⟩) (4096 - pend.length) (4096 - pend.length), .slice sp cs.length sc]).run Tryd.prog W = .ok (.int .i64 m) W' ∧
      W'.cell? ⟨k + 2, 0, none⟩ = some .nilIface ∧ W'.cell? ⟨k + 2, 2, none⟩ = some (.int .i64 pend.length) ∧ W'.frozen? ⟨k + 2, 2, none⟩ = false ∧
      Wr k bs (pend ++ cs.take m) (W'.setCell ⟨k + 2, 2, none⟩ (.int .i64 (pend.length + m : Nat))) ∧ Below k W W' := by
  have hl := h.len
  have hmm : m ≤ cs.length ∧ m ≤ 4096 - pend.length := by rw [hm]; exact ⟨Nat.min_le_left _ _, Nat.min_le_right _ _⟩
  obtain ⟨cur, h1, h2, h3⟩ := h.row
  have htl : (cs.take m).length = m := by rw [List.length_take]; omega
  have hcop := Wr.copied (more := cs.take m) h h1 h2 h3 (by omega)
  rw [htl] at hcop
  by_cases hc0 : cs.length = 0
  · have hcn : cs = [] := List.eq_nil_of_length_eq_zero hc0
    have hm0 : m = 0 := by omega
    subst hm0
    refine ⟨W, ?_, h.c0, h.c2, h.f 2, ?_, Below.refl _ _⟩
    · have := run_copy_none (P := Tryd.prog) W 22 22 3 5 (some ⟨k + 1, pend.length, none⟩) sp (4096 - pend.length) (4096 - pend.length) cs.length sc Tryd.underlying22 Tryd.size5 hm.symm
      exact this
    · rw [List.take_zero, List.append_nil]
      have hother : ∀ i, i ≠ k + 2 → (W.setCell ⟨k + 2, 2, none⟩ (.int .i64 (pend.length + 0 : Nat))).heap[i]? = W.heap[i]? := fun i hi => Below.heap_setCell _ _ _ _ hi
      refine ⟨by have := h.size; simp [World.setCell]; omega, ?_, Lib.heap_setCell_same (i := 2) h.wr _, ⟨cur, (hother _ (by omega)).trans h1, h2, h3⟩, hl⟩
      obtain ⟨hb0, ⟨p1, lr, p2⟩ | ⟨p1, g, cap, cur', lr, p2, p3, p4, p5⟩⟩ := h.buf
      · exact ⟨hb0, .inl ⟨p1, lr, by rw [hother _ (by omega)]; exact p2⟩⟩
      · exact ⟨hb0, .inr ⟨p1, g, cap, cur', lr, by rw [hother _ (by omega)]; exact p2, p3, by rw [hother _ (by omega)]; exact p4, p5⟩⟩
  · obtain ⟨a, rfl, hsrc⟩ := hs (by omega)
    have hr := run_copy_row (P := Tryd.prog) W 22 22 3 5 (k + 1) pend.length (4096 - pend.length) (4096 - pend.length) a cs.length sc cur 5 (vc (cs.take m)) Tryd.underlying22 Tryd.size5 h1
      (by rw [vc_length, htl]; exact hm) (fun j v hj => hsrc j v (by
        have : vc (cs.take m) = (vc cs).take m := by simp [vc, List.map_take]
        rw [this, List.getElem?_take] at hj
        split at hj
        · exact hj
        · cases hj)) (by rw [vc_length, htl]; omega) (vc_one _)
    rw [vc_length, htl] at hr
    have ho1 : ∀ i, i ≠ k + 1 → (W.setRow (k + 1) (cur.toList.take pend.length ++ vc (cs.take m) ++ cur.toList.drop (pend.length + m)).toArray).heap[i]? = W.heap[i]? := fun i hi => setRow_other _ _ _ _ hi
    have hw1 : (W.setRow (k + 1) (cur.toList.take pend.length ++ vc (cs.take m) ++ cur.toList.drop (pend.length + m)).toArray).heap[k + 2]? = _ := (ho1 (k + 2) (by omega)).trans h.wr
    refine ⟨_, hr, by rw [Lib.cell_of_heap hw1]; rfl, by rw [Lib.cell_of_heap hw1]; rfl, Lib.frozen_of_heap hw1 2, hcop, ⟨rfl, rfl, rfl, by simp, fun i hi => ho1 i (by omega)⟩⟩

theorem SrcAt.drop {W : World} {b o cap : Nat} {cs : List Int} (h : SrcAt W (some ⟨b, o, none⟩) cs) (m : Nat) (hcap : cs.length ≤ cap) :
    SrcAt W (if cap = m then some ⟨b, o, none⟩ else some ⟨b, o + m, none⟩) (cs.drop m) := by
  intro hp
  rw [List.length_drop] at hp
  rw [if_neg (by omega)]
  obtain ⟨a, ha, hc⟩ := h (by omega)
  obtain rfl := Option.some.inj ha
  refine ⟨_, rfl, fun j v hj => ?_⟩
  have : vc (cs.drop m) = (vc cs).drop m := by simp [vc, List.map_drop]
  rw [this, List.getElem?_drop] at hj
  have := hc (m + j) v hj
  rw [Lib.addr_add] at this ⊢
  rw [show o + m + j = o + (m + j) by omega]
  exact this
end Go.Proofs.Qxb6616852aDoor
