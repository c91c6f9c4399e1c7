/-
  A bufio.Writer OVER A bytes.Buffer: BLOCKS k (the Buffer), k + 1 (the writer's row), k + 2 (the Writer). Available (23), Buffered (24), Flush (14).
-/
import Derived.Test.Qxb6616852aDoorBufWrite
import Derived.Test.Qxb6616852aDoorHex
import Derived.Deep.QuietTactic
import Derived.BigQuiet
namespace Go.Proofs.Qxb6616852aDoor
open Go.RowKit Go.Deep

def vc (l : List Int) : List Value := l.map fun x => .int .u8 x
theorem vc_one (l : List Int) : ∀ v ∈ vc l, v.oneCell' = true := fun v hv => by obtain ⟨x, _, rfl⟩ := List.mem_map.1 hv; rfl
theorem vc_length (l : List Int) : (vc l).length = l.length := by simp [vc]
theorem vc_append (l m : List Int) : vc (l ++ m) = vc l ++ vc m := by simp [vc]

/-- bs has gone to the Buffer, pend is still in the writer's row. -/
structure Wr (k : Nat) (bs pend : List Int) (w : World) : Prop where
  size : k + 3 ≤ w.heap.size
  buf : Buf (k + 3) k (vc bs) w
  wr : w.heap[k + 2]? = some (.cells #[.nilIface, .slice (some ⟨k + 1, 0, none⟩) 4096 4096, .int .i64 pend.length, .iface 42 (.pointer (some ⟨k, 0, none⟩))] 58 (0, 0))
  row : ∃ cur, w.heap[k + 1]? = some (.cells cur 5 (0, 0)) ∧ cur.size = 4096 ∧ cur.toList.take pend.length = vc pend
  len : pend.length ≤ 4096

theorem Buf.heap {M b : Nat} {bs : List Value} {w w' : World} (h : Buf M b bs w) (e : w'.heap = w.heap) : Buf M b bs w' := by
  unfold Buf Room at *
  rw [e]
  exact h

theorem Wr.drewN {k : Nat} {bs pend : List Int} {w : World} (h : Wr k bs pend w) (n : Nat) : Wr k bs pend (w.drewN n) := ⟨h.size, h.buf.heap rfl, h.wr, h.row, h.len⟩

theorem Wr.c0 {k : Nat} {bs pend : List Int} {w : World} (h : Wr k bs pend w) : w.cell? ⟨k + 2, 0, none⟩ = some .nilIface := by rw [Lib.cell_of_heap h.wr]; rfl
theorem Wr.c1 {k : Nat} {bs pend : List Int} {w : World} (h : Wr k bs pend w) : w.cell? ⟨k + 2, 1, none⟩ = some (.slice (some ⟨k + 1, 0, none⟩) 4096 4096) := by rw [Lib.cell_of_heap h.wr]; rfl
theorem Wr.c2 {k : Nat} {bs pend : List Int} {w : World} (h : Wr k bs pend w) : w.cell? ⟨k + 2, 2, none⟩ = some (.int .i64 pend.length) := by rw [Lib.cell_of_heap h.wr]; rfl
theorem Wr.c3 {k : Nat} {bs pend : List Int} {w : World} (h : Wr k bs pend w) : w.cell? ⟨k + 2, 3, none⟩ = some (.iface 42 (.pointer (some ⟨k, 0, none⟩))) := by rw [Lib.cell_of_heap h.wr]; rfl
theorem Wr.f {k : Nat} {bs pend : List Int} {w : World} (h : Wr k bs pend w) (i : Nat) : w.frozen? ⟨k + 2, i, none⟩ = false := Lib.frozen_of_heap h.wr i

theorem avail {k : Nat} {bs pend : List Int} (w : World) (h : Wr k bs pend w) :
    Calls Tryd.prog 23 #[.pointer (some ⟨k + 2, 0, none⟩)] w fun e w' => e = .returned (.int .i64 (4096 - pend.length : Nat)) ∧ ∃ n, w' = w.drewN n := by
  have c1 := h.c1
  have c2 := h.c2
  have hl := h.len
  have e1 : ((4096 - pend.length : Nat) : Int) = 4096 - (pend.length : Int) := by omega
  rw [e1]
  obtain ⟨n, hn⟩ : ∃ n, pend.length = n := ⟨_, rfl⟩
  rw [hn] at c2 hl ⊢
  clear h e1 hn
  go_enter Tryd.func23, Tryd.ntmps23
  go_wp2_with fail
  go_quiet (fail)
  go_wp2
  go_ret
  exact ⟨rfl, _, rfl⟩

theorem buffered {k : Nat} {bs pend : List Int} (w : World) (h : Wr k bs pend w) :
    Calls Tryd.prog 24 #[.pointer (some ⟨k + 2, 0, none⟩)] w fun e w' => e = .returned (.int .i64 pend.length) ∧ w = w' := by
  have c2 := h.c2
  have hl := h.len
  obtain ⟨n, hn⟩ : ∃ n, pend.length = n := ⟨_, rfl⟩
  rw [hn] at c2 hl ⊢
  go_enter Tryd.func24, Tryd.ntmps24
  go_wp2
  go_ret
  exact ⟨rfl, rfl⟩

theorem But.toBelow {k : Nat} {w W : World} (h : But (k + 3) k w W) : Below k w W := ⟨h.os, h.tape, h.output, h.size, fun i hi => h.block i (by omega) (by omega)⟩

/-- The row's first cells are pend. -/
theorem Wr.src {k : Nat} {bs pend : List Int} {w : World} (h : Wr k bs pend w) : ∀ j v, (vc pend)[j]? = some v → w.cell? ((⟨k + 1, 0, none⟩ : Addr).add j) = some v := by
  obtain ⟨cur, h1, h2, h3⟩ := h.row
  rw [← h3]
  exact Lib.cells_of_row h1 _

/-- Behind the Buffer's Write of pend and 'b.n = 0'. -/
theorem Wr.flushed {k : Nat} {bs pend : List Int} {w W : World} (h : Wr k bs pend w) (hb : Buf (k + 3) k (vc bs ++ vc pend) W) (hk : But (k + 3) k w W) :
    Wr k (bs ++ pend) [] (W.setCell ⟨k + 2, 2, none⟩ (.int .i64 0)) := by
  have hw : W.heap[k + 2]? = _ := (hk.block (k + 2) (by omega) (by omega)).trans h.wr
  obtain ⟨cur, h1, h2, h3⟩ := h.row
  have hv : W.heap[k + 1]? = _ := (hk.block (k + 1) (by omega) (by omega)).trans h1
  have hother : ∀ i, i ≠ k + 2 → (W.setCell ⟨k + 2, 2, none⟩ (.int .i64 0)).heap[i]? = W.heap[i]? := fun i hi => Below.heap_setCell _ _ _ _ hi
  refine ⟨?_, ?_, Lib.heap_setCell_same (i := 2) hw _, ⟨cur, by rw [hother _ (by omega)]; exact hv, h2, rfl⟩, by simp⟩
  · have := h.size; have := hk.size; simp [World.setCell]; omega
  · rw [← vc_append] at hb
    obtain ⟨hb0, ⟨p1, lr, p2⟩ | ⟨p1, g, cap, cur, lr, p2, p3, p4, p5⟩⟩ := hb
    · exact ⟨hb0, .inl ⟨p1, lr, by rw [hother _ (by omega)]; exact p2⟩⟩
    · exact ⟨hb0, .inr ⟨p1, g, cap, cur, lr, by rw [hother _ (by omega)]; exact p2, p3, by rw [hother _ (by omega)]; exact p4, p5⟩⟩

theorem method_write (a : Addr) (w : World) : (method 215 42 (.pointer (some a)) "Write").run Tryd.prog w = .ok (55, .pointer (some a)) w := by kernel_rfl
theorem nilAhead_write (a : Addr) (w : World) : (nilAhead 215 42 (.pointer (some a)) "Write").run Tryd.prog w = .ok (some false) w := by kernel_rfl

set_option maxHeartbeats 3200000 in
set_option maxRecDepth 100000 in
theorem flush {k : Nat} {bs pend : List Int} (w : World) (h : Wr k bs pend w) (hlim : bs.length ≤ 1073741824) :
    Calls Tryd.prog 14 #[.pointer (some ⟨k + 2, 0, none⟩)] w fun e w' => e = .returned .nilIface ∧ Wr k (bs ++ pend) [] w' ∧ Below k w w' := by
  have c0 := h.c0
  have c1 := h.c1
  have c2 := h.c2
  have c3 := h.c3
  have hl := h.len
  by_cases hp : pend = []
  · subst hp
    rw [List.length_nil] at c2
    go_enter Tryd.func14, Tryd.ntmps14
    go_wp2_with fail
    go_ret
    exact ⟨rfl, by rw [List.append_nil]; exact h, Below.refl _ _⟩
  · have hpl : 0 < pend.length := List.length_pos_iff.2 hp
    have hw := bufWrite (k + 3) k pend.length 4096 (vc bs) (vc pend) ⟨k + 1, 0, none⟩ w.drew (h.buf.heap rfl) h.size (vc_one _) (vc_length _) (by omega) (by simp) (by simp) h.src (vc_one _) (by rw [vc_length]; omega)
    obtain ⟨n, hn⟩ : ∃ n, pend.length = n := ⟨_, rfl⟩
    rw [hn] at hw c2 hl hpl
    have HW : Hid _ := ⟨hw⟩
    have H : Hid _ := ⟨h⟩
    clear h hw hn
    have hl2 : (n : Int) ≤ 4096 := by omega
    have hm := method_write ⟨k, 0, none⟩
    go_enter Tryd.func14, Tryd.ntmps14
    go_wp2_with fail
    go_region_with (
      go_at_call 55
      refine Calls.mono (show Calls Tryd.prog 55 _ _ _ from HW.out) ?_
      rintro e W2 ⟨rfl, hb2, hk2⟩)
    all_goals (
      have hk : But (k + 3) k w W2 := ((But.refl _ _ w).drewN 1).trans hk2
      have g0 : W2.cell? ⟨k + 2, 0, none⟩ = some .nilIface := (hk.cell (p := ⟨k + 2, 0, none⟩) (by simp) (by simp)).trans c0
      have g2 : W2.cell? ⟨k + 2, 2, none⟩ = some (.int .i64 n) := (hk.cell (p := ⟨k + 2, 2, none⟩) (by simp) (by simp)).trans c2
      have gf : W2.frozen? ⟨k + 2, 2, none⟩ = false := (World.frozen?_of_block (a := ⟨k + 2, 2, none⟩) (hk.block (k + 2) (by omega) (by omega))).trans (H.out.f 2)
      have HB : Hid _ := ⟨hb2⟩
      have HK : Hid _ := ⟨hk⟩
      clear hb2 hk hk2 c0 c1 c2 c3 HW hm
      go_wp2_with fail
      go_ret
      exact ⟨rfl, H.out.flushed HB.out HK.out, HK.out.toBelow.setCell (p := ⟨k + 2, 2, none⟩) (by simp) _⟩)
end Go.Proofs.Qxb6616852aDoor
