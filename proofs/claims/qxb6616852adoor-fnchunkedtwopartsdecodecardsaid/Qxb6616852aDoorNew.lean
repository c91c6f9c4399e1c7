/-
  bufio.NewWriter (12) OVER A FRESH bytes.Buffer.
-/
import Derived.Test.Qxb6616852aDoorWx
namespace Go.Proofs.Qxb6616852aDoor
open Go.RowKit Go.Deep

/-- The three blocks. -/
theorem wr_new (w : World) (Z : Array Value) (hZ : Z.size = 4096) : Wr w.heap.size [] [] (((w.alloc (.cells #[.slice none 0 0, .int .i64 0, .int .i8 0] 39)).alloc (.cells Z 5)).alloc
    (.cells #[.nilIface, .slice (some ⟨w.heap.size + 1, 0, none⟩) 4096 4096, .int .i64 0, .iface 42 (.pointer (some ⟨w.heap.size, 0, none⟩))] 58)) := by
  have s1 : (w.alloc (.cells #[.slice none 0 0, .int .i64 0, .int .i8 0] 39)).heap.size = w.heap.size + 1 := by simp
  have s2 : ((w.alloc (.cells #[.slice none 0 0, .int .i64 0, .int .i8 0] 39)).alloc (.cells Z 5)).heap.size = w.heap.size + 2 := by simp
  have b0 : (w.alloc (.cells #[.slice none 0 0, .int .i64 0, .int .i8 0] 39)).heap[w.heap.size]? = some (.cells #[.slice none 0 0, .int .i64 0, .int .i8 0] 39 (0, 0)) := blk_alloc_new _ _
  have b1 := blk_alloc_new (w.alloc (.cells #[.slice none 0 0, .int .i64 0, .int .i8 0] 39)) (.cells Z 5)
  rw [s1] at b1
  refine ⟨by simp, ⟨by omega, .inl ⟨rfl, 0, ?_⟩⟩, ?_, ⟨Z, ?_, hZ, rfl⟩, by simp⟩
  · rw [Below.heap_alloc _ _ _ (by rw [s2]; omega), Below.heap_alloc _ _ _ (by rw [s1]; omega)]
    exact b0
  · have b2 := blk_alloc_new ((w.alloc (.cells #[.slice none 0 0, .int .i64 0, .int .i8 0] 39)).alloc (.cells Z 5)) (.cells #[.nilIface, .slice (some ⟨w.heap.size + 1, 0, none⟩) 4096 4096, .int .i64 0, .iface 42 (.pointer (some ⟨w.heap.size, 0, none⟩))] 58)
    rw [s2] at b2
    exact b2
  · rw [Below.heap_alloc _ _ _ (by rw [s2]; omega)]
    exact b1

theorem not_writer (k : Nat) (W : World) : (Instr.typeAssert (.iface 42 (.pointer (some ⟨k, 0, none⟩))) 50 40 true).run Tryd.prog W = .ok (.tuple #[.pointer none, .bool false]) W := by kernel_rfl

set_option maxHeartbeats 1600000 in
set_option maxRecDepth 100000 in
theorem newWriter (k : Nat) (w : World) :
    Calls Tryd.prog 12 #[.iface 42 (.pointer (some ⟨k, 0, none⟩))] w fun e w' => e = .returned (.pointer (some ⟨w.heap.size + 1, 0, none⟩)) ∧
      ∃ Z : Array Value, Z.size = 4096 ∧ (w.alloc (.cells Z 5)).alloc (.cells #[.nilIface, .slice (some ⟨w.heap.size, 0, none⟩) 4096 4096, .int .i64 0, .iface 42 (.pointer (some ⟨k, 0, none⟩))] 58) = w' := by
  have hmk := run_make_row' (P := Tryd.prog) 22 5 (.int .u8 0) 1 Tryd.underlying22 Tryd.info5 rfl .i64 .i64 4096 (by omega) (by omega)
  obtain ⟨Z, hZ⟩ : ∃ Z, madeCells #[.int .u8 0] 4096 = Z := ⟨_, rfl⟩
  have hZs : Z.size = 4096 := by rw [← hZ]; exact size_madeCells _ _
  rw [hZ] at hmk
  have hmk2 : ∀ W : World, (Instr.makeSlice 22 (.int .i64 4096) (.int .i64 4096)).run Tryd.prog W = .ok (.slice (some ⟨W.heap.size, 0, none⟩) 4096 4096) (W.alloc (.cells Z 5)) := fun W => hmk W
  clear hZ hmk
  have hta := not_writer k
  go_enter Tryd.func12, Tryd.ntmps12
  go_wp2
  go_ret
  exact ⟨rfl, Z, hZs, rfl⟩
end Go.Proofs.Qxb6616852aDoor
