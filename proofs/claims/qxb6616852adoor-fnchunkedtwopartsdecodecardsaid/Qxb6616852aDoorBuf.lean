/-
  (*bytes.Buffer).grow (58), WITH A FRAME THAT KEEPS EVERY BLOCK BELOW M BUT b.
-/
import Derived.Test.Qxb6616852aDoorBufDef
namespace Go.Proofs.Qxb6616852aDoor
open Go.RowKit Go.Deep

set_option maxHeartbeats 6400000 in
set_option maxRecDepth 100000 in
theorem grow_small (M b n : Nat) (lr : Int) (w : World) (_hb : b < M) (hM : M ≤ w.heap.size)
    (hbk : w.heap[b]? = some (.cells #[.slice none 0 0, .int .i64 0, .int .i8 lr] 39 (0, 0))) (hn : 1 ≤ n) (h64 : n ≤ 64) :
    Calls Tryd.prog 58 #[.pointer (some ⟨b, 0, none⟩), .int .i64 n] w fun e w' => e = .returned (.int .i64 0) ∧ Room M b [] n w' ∧ But M b w w' := by
  have hmk : ∀ W : World, (Instr.makeSlice 22 (.int .i64 (n : Int)) (.int .i64 64)).run Tryd.prog W = .ok (.slice (some ⟨W.heap.size, 0, none⟩) n 64) (W.alloc (.cells (madeCells #[.int .u8 0] 64) 5)) := fun W => by
    obtain ⟨i0, hi, hz0, hz1, hz2⟩ := info_parts Tryd.info5
    have h := run_makeSlice (P := Tryd.prog) W 22 5 i0 (.int .u8 0) Tryd.underlying22 hi hz0 .i64 .i64 (n : Int) 64 (by omega) (by omega) (by rw [hz1]; decide) (by rw [hz2]; decide) (by decide)
    rw [hz1, show (Value.int .u8 0).cells = #[.int .u8 0] from rfl] at h
    simpa using h
  have hIs : Lib.IsBuffer 39 5 0 b [] w := ⟨Nat.zero_le _, _, _, hbk, World.ownsRow_nil _ _ _ _, by simp [Value.ownBlock]⟩
  have hnil : ∀ W, (binOp .eql 22 (.slice none 0 0) (.slice none 0 0)).run Tryd.prog W = .ok (.bool true) W := fun W => Lib.run_eql_slice_nil_nil W _ _ Tryd.underlying22
  go_enter Tryd.func58, Tryd.ntmps58
  go_wp2_with (go_at_call 59; refine (Tryd.Buffer_Len 0 b [] _ hIs).mono ?_)
  rintro e W0 ⟨rfl, k, hW0⟩
  have hbk0 : W0.heap[b]? = some (.cells #[.slice none 0 0, .int .i64 0, .int .i8 lr] 39 (0, 0)) := by rw [hW0]; exact hbk
  have c0 : W0.cell? ⟨b, 0, none⟩ = some (.slice none 0 0) := by rw [Lib.cell_of_heap hbk0]; rfl
  have c1 : W0.cell? ⟨b, 1, none⟩ = some (.int .i64 0) := by rw [Lib.cell_of_heap hbk0]; rfl
  have f0 : W0.frozen? ⟨b, 0, none⟩ = false := Lib.frozen_of_heap hbk0 0
  have hbW0 := Lib.lt_of_heap hbk0
  have c0a : ∀ o, (W0.alloc o).cell? ⟨b, 0, none⟩ = some (.slice none 0 0) := fun o => (World.cell?_of_block (a := ⟨b, 0, none⟩) (Below.heap_alloc W0 o b hbW0)).trans c0
  have f0a : ∀ o, (W0.alloc o).frozen? ⟨b, 0, none⟩ = false := fun o => (World.frozen?_of_block (a := ⟨b, 0, none⟩) (Below.heap_alloc W0 o b hbW0)).trans f0
  have HW0 := Lib.hid hW0
  clear hW0 hIs
  go_wp2_with (go_at_call 57; refine (Tryd.Buffer_tryGrow_none b _ 0 0 n _ c0 (Nat.le_refl _) (Nat.zero_le _) (by omega)).mono ?_; rintro e w' ⟨rfl, rfl⟩)
  go_ret
  have hsz0 : w'.heap.size = w.heap.size := by rw [HW0.out]; rfl
  have hb0 : But M b w w' := by rw [HW0.out]; exact (But.refl M b w).drewN _
  have hszs : (w'.setCell ⟨b, 0, none⟩ (.slice (some ⟨w'.heap.size, 0, none⟩) n 64)).heap.size = w'.heap.size := by simp [World.setCell]
  refine ⟨rfl, ⟨w'.heap.size, 64, madeCells #[.int .u8 0] 64, lr, ?_, by omega, ?_, by simpa using h64, by omega, size_madeCells _ _, by simp⟩, (hb0.setB 0 _).alloc (by rw [hszs]; omega) _⟩
  · rw [Below.heap_alloc _ _ b (by rw [hszs]; exact hbW0)]
    simpa using Lib.heap_setCell_same (i := 0) hbk0 (.slice (some ⟨w'.heap.size, 0, none⟩) n 64)
  · have h := blk_alloc_new (w'.setCell ⟨b, 0, none⟩ (.slice (some ⟨w'.heap.size, 0, none⟩) n 64)) (.cells (madeCells #[.int .u8 0] 64) 5)
    rw [hszs] at h
    exact h

/-- The three stores at grow's end. -/
theorem grow_end {M b N l n cap2 : Nat} {lr : Int} {w w2 : World} {v0 : Value} {cells : Array Value} {bs : List Value} (hb : b < M) (hl : bs.length = l)
    (hbk2 : w2.heap[b]? = some (.cells #[v0, .int .i64 0, .int .i8 lr] 39 (0, 0))) (hN : w2.heap[N]? = some (.cells cells 5 (0, 0))) (hBN : M ≤ N)
    (hcsz : cells.size = cap2) (htk : cells.toList.take l = bs) (hcap2 : l + n ≤ cap2) (hcm2 : cap2 ≤ maxLen) (hbel : But M b w w2) (v1 : Value) :
    Room M b bs n (((w2.setCell ⟨b, 0, none⟩ v1).setCell ⟨b, 1, none⟩ (.int .i64 0)).setCell ⟨b, 0, none⟩ (.slice (some ⟨N, 0, none⟩) (l + n) cap2)) ∧
      But M b w (((w2.setCell ⟨b, 0, none⟩ v1).setCell ⟨b, 1, none⟩ (.int .i64 0)).setCell ⟨b, 0, none⟩ (.slice (some ⟨N, 0, none⟩) (l + n) cap2)) := by
  have hNb : N ≠ b := by omega
  unfold maxLen at hcm2
  have hcm3 : cap2 ≤ 9223372036854775807 := by omega
  refine ⟨⟨N, cap2, cells, lr, ?_, hBN, ?_, by omega, hcm3, hcsz, by rw [hl]; exact htk⟩, ((hbel.setB 0 _).setB 1 _).setB 0 _⟩
  · rw [hl]
    exact Lib.heap_setCell_same (i := 0) (Lib.heap_setCell_same (i := 1) (Lib.heap_setCell_same (i := 0) hbk2 v1) (.int .i64 0)) (.slice (some ⟨N, 0, none⟩) (l + n) cap2)
  · rw [Below.heap_setCell _ _ _ _ hNb, Below.heap_setCell _ _ _ _ hNb, Below.heap_setCell _ _ _ _ hNb]
    exact hN

set_option maxHeartbeats 12800000 in
set_option maxRecDepth 100000 in
theorem grow_big (M b n : Nat) (lr : Int) (w : World) (hb : b < M) (hM : M ≤ w.heap.size)
    (hbk : w.heap[b]? = some (.cells #[.slice none 0 0, .int .i64 0, .int .i8 lr] 39 (0, 0))) (h64 : 64 < n) (hlim : n ≤ 140737488355328) :
    Calls Tryd.prog 58 #[.pointer (some ⟨b, 0, none⟩), .int .i64 n] w fun e w' => e = .returned (.int .i64 0) ∧ Room M b [] n w' ∧ But M b w w' := by
  have hn : 1 ≤ n := by omega
  have hIs : Lib.IsBuffer 39 5 0 b [] w := ⟨Nat.zero_le _, _, _, hbk, World.ownsRow_nil _ _ _ _, by simp [Value.ownBlock]⟩
  have hnil : ∀ W, (binOp .eql 22 (.slice none 0 0) (.slice none 0 0)).run Tryd.prog W = .ok (.bool true) W := fun W => Lib.run_eql_slice_nil_nil W _ _ Tryd.underlying22
  go_enter Tryd.func58, Tryd.ntmps58
  go_wp2_with (go_at_call 59; refine (Tryd.Buffer_Len 0 b [] _ hIs).mono ?_)
  rintro e W0 ⟨rfl, k, hW0⟩
  have hbk0 : W0.heap[b]? = some (.cells #[.slice none 0 0, .int .i64 0, .int .i8 lr] 39 (0, 0)) := by rw [hW0]; exact hbk
  have c0 : W0.cell? ⟨b, 0, none⟩ = some (.slice none 0 0) := by rw [Lib.cell_of_heap hbk0]; rfl
  have c1 : W0.cell? ⟨b, 1, none⟩ = some (.int .i64 0) := by rw [Lib.cell_of_heap hbk0]; rfl
  have f0 : W0.frozen? ⟨b, 0, none⟩ = false := Lib.frozen_of_heap hbk0 0
  have f1 : W0.frozen? ⟨b, 1, none⟩ = false := Lib.frozen_of_heap hbk0 1
  have HW0 := Lib.hid hW0
  clear hW0 hIs
  go_wp2_with (go_at_call 57; refine (Tryd.Buffer_tryGrow_none b _ 0 0 n _ c0 (Nat.le_refl _) (Nat.zero_le _) (by omega)).mono ?_; rintro e w' ⟨rfl, rfl⟩)
  have hbW := Lib.lt_of_heap hbk0
  have hwn : IntKind.i64.wrap (n : Int) = n := by rw [IntKind.wrap_i64]; omega
  go_region_with (
      go_at_call 60
      refine (Tryd.bytes_growSlice_nil n _ hn hlim).mono ?_
      rintro e w2 ⟨cap2, cells, rfl, hN, hcsz, hcap2, hcm2, hbel⟩
      have hbk2 : w2.heap[b]? = some (.cells #[.slice none 0 0, .int .i64 0, .int .i8 lr] 39 (0, 0)) := (hbel.block b hbW).trans hbk0
      have d0 : w2.cell? ⟨b, 0, none⟩ = some (.slice none 0 0) := by rw [Lib.cell_of_heap hbk2]; rfl
      have d1 : w2.cell? ⟨b, 1, none⟩ = some (.int .i64 0) := by rw [Lib.cell_of_heap hbk2]; rfl
      have e0 : w2.frozen? ⟨b, 0, none⟩ = false := Lib.frozen_of_heap hbk2 0
      have e1 : w2.frozen? ⟨b, 1, none⟩ = false := Lib.frozen_of_heap hbk2 1)
  all_goals (
    go_wp2
    go_ret
    have hsz0 : w'.heap.size = w.heap.size := by rw [HW0.out]; rfl
    have hb0 : But M b w w'.drew := by rw [HW0.out]; exact ((But.refl M b w).drewN _).drewN 1
    have hg := grow_end (l := 0) (n := n) (bs := []) (M := M) hb rfl hbk2 hN (by show M ≤ w'.heap.size; omega) hcsz (by simp) (by omega) hcm2 (hb0.below (hbel.mono (by show M ≤ w'.heap.size; omega)))
    exact ⟨rfl, by simpa using (hg _).1, by simpa using (hg _).2⟩)

set_option maxHeartbeats 12800000 in
set_option maxRecDepth 100000 in
theorem grow_row (M b g l cap n : Nat) (lr : Int) (cur : Array Value) (bs : List Value) (w : World) (hb : b < M) (hM : M ≤ w.heap.size)
    (hbk : w.heap[b]? = some (.cells #[.slice (some ⟨g, 0, none⟩) l cap, .int .i64 0, .int .i8 lr] 39 (0, 0)))
    (hl : bs.length = l) (hBg : M ≤ g) (hg : w.heap[g]? = some (.cells cur 5 (0, 0))) (hlc : l ≤ cap) (hcm : cap ≤ 9223372036854775807) (hcs : cur.size = cap) (htake : cur.toList.take l = bs) (hl0 : 0 < l)
    (h1 : ∀ v ∈ bs, v.oneCell' = true) (hn : 1 ≤ n) (hroom : cap - l < n) (hlim : l + n ≤ 140737488355328) :
    Calls Tryd.prog 58 #[.pointer (some ⟨b, 0, none⟩), .int .i64 n] w fun e w' => e = .returned (.int .i64 l) ∧ Room M b bs n w' ∧ But M b w w' := by
  have hl0' : ¬ l = 0 := by omega
  have hc2 : cap ≤ 140737488355328 := by omega
  have hgb : g ≠ b := by omega
  have hIs : Lib.IsBuffer 39 5 0 b bs w := ⟨Nat.zero_le _, _, _, hbk, ⟨by rw [hl, Nat.mul_one], .inr ⟨g, cap, cur, by rw [hl], Nat.zero_le _, hg, by omega, by unfold maxLen; omega, by omega, by rw [hl, Nat.mul_one]; exact htake⟩⟩, by simp [Value.ownBlock]; exact hgb⟩
  have hnil : ∀ W, (binOp .eql 22 (.slice (some ⟨g, 0, none⟩) l cap) (.slice none 0 0)).run Tryd.prog W = .ok (.bool false) W := fun W => Lib.run_eql_slice_some_nil W _ _ _ Tryd.underlying22
  go_enter Tryd.func58, Tryd.ntmps58
  go_wp2_with (go_at_call 59; refine (Tryd.Buffer_Len 0 b bs _ hIs).mono ?_)
  rintro e W0 ⟨rfl, k, hW0⟩
  rw [hl]
  have hbk0 : W0.heap[b]? = some (.cells #[.slice (some ⟨g, 0, none⟩) l cap, .int .i64 0, .int .i8 lr] 39 (0, 0)) := by rw [hW0]; exact hbk
  have hg0 : W0.heap[g]? = some (.cells cur 5 (0, 0)) := by rw [hW0]; exact hg
  have c0 : W0.cell? ⟨b, 0, none⟩ = some (.slice (some ⟨g, 0, none⟩) l cap) := by rw [Lib.cell_of_heap hbk0]; rfl
  have c1 : W0.cell? ⟨b, 1, none⟩ = some (.int .i64 0) := by rw [Lib.cell_of_heap hbk0]; rfl
  have f0 : W0.frozen? ⟨b, 0, none⟩ = false := Lib.frozen_of_heap hbk0 0
  have f1 : W0.frozen? ⟨b, 1, none⟩ = false := Lib.frozen_of_heap hbk0 1
  have HW0 := Lib.hid hW0
  clear hW0 hIs
  go_wp2_with (go_at_call 57; refine (Tryd.Buffer_tryGrow_none b _ l cap n _ c0 hlc (by unfold maxLen; omega) hroom).mono ?_; rintro e w' ⟨rfl, rfl⟩)
  have h1' : ∀ v ∈ cur.toList.take l, v.oneCell' = true := by rw [htake]; exact h1
  have hbW := Lib.lt_of_heap hbk0
  have hwn : IntKind.i64.wrap (n : Int) = n := by rw [IntKind.wrap_i64]; omega
  go_region_with (
      go_at_call 60
      refine (Tryd.bytes_growSlice_row g l cap n cur _ ?_ hcs hlc hn hlim hc2 h1').mono ?_
      exact hg0
      rintro e w2 ⟨cap2, cells, rfl, hN, hcsz, htk, hcap2, hcm2, hbel⟩
      have hbk2 : w2.heap[b]? = some (.cells #[.slice (some ⟨g, 0, none⟩) l cap, .int .i64 0, .int .i8 lr] 39 (0, 0)) := (hbel.block b hbW).trans hbk0
      have d0 : w2.cell? ⟨b, 0, none⟩ = some (.slice (some ⟨g, 0, none⟩) l cap) := by rw [Lib.cell_of_heap hbk2]; rfl
      have d1 : w2.cell? ⟨b, 1, none⟩ = some (.int .i64 0) := by rw [Lib.cell_of_heap hbk2]; rfl
      have e0 : w2.frozen? ⟨b, 0, none⟩ = false := Lib.frozen_of_heap hbk2 0
      have e1 : w2.frozen? ⟨b, 1, none⟩ = false := Lib.frozen_of_heap hbk2 1)
  all_goals (
    go_wp2
    go_ret
    have hsz0 : w'.heap.size = w.heap.size := by rw [HW0.out]; rfl
    have hb0 : But M b w w'.drew := by rw [HW0.out]; exact ((But.refl M b w).drewN _).drewN 1
    have hg := grow_end (l := l) (n := n) (bs := bs) (M := M) hb hl hbk2 hN (by show M ≤ w'.heap.size; omega) hcsz (htk.trans htake) hcap2 hcm2 (hb0.below (hbel.mono (by show M ≤ w'.heap.size; omega)))
    exact ⟨rfl, (hg _).1, (hg _).2⟩)
end Go.Proofs.Qxb6616852aDoor
