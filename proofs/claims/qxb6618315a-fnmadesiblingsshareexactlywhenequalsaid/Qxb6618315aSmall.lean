/-
  THE WALKS OF THE SMALL FUNCTIONS: ZZNewSet (6), ZZMade (8), ZZCursorSet (10), ZZNewCursor (12), stepElem (13), ZZChild (14), ZZNumMembers (15), ZZNumChildren (16).
-/
import Derived.Test.Qxb6618315aChain
namespace Go.Proofs.Qxb6618315a
open Go.RowKit Go.Deep

theorem newSet_any (w : World) : Calls Try.prog 6 #[] w fun e w' => e = .returned (.pointer (some ⟨w.heap.size, 0, none⟩)) ∧ w.alloc (setCells none) = w' := by
  go_enter Try.func6, Try.ntmps6
  go_wp2_with fail
  go_ret
  exact ⟨rfl, rfl⟩

theorem newCur_any (s u : Option Addr) (f k v : ByteArray) (w : World) :
    Calls Try.prog 12 #[.pointer s, .pointer u, .agg #[.string f, .string k, .string v]] w fun e w' => e = .returned (.pointer (some ⟨w.heap.size + 1, 0, none⟩)) ∧
      (w.alloc (.cells #[.string f, .string k, .string v] 35)).alloc (.cells #[.pointer s, .pointer u, .string f, .string k, .string v] 44) = w' := by
  go_enter Try.func12, Try.ntmps12
  go_wp2_with fail
  go_ret
  exact ⟨rfl, rfl⟩

theorem stepElem_any (f k v : ByteArray) (w : World) :
    Calls Try.prog 13 #[.agg #[.string f, .string k, .string v]] w fun e w' => e = .returned (.agg #[.string f, .string k, .string v]) ∧
      (w.alloc (.cells #[.string f, .string k, .string v] 25)).alloc (.cells #[.string f, .string k, .string v] 35) = w' := by
  go_enter Try.func13, Try.ntmps13
  go_wp2_with fail
  exact bodyPost_ret (v := .agg #[.string f, .string k, .string v]) (by simp [results, Try.results13, go_sem]) rfl ⟨rfl, rfl⟩

theorem curSet_any (c : Nat) (s u : Option Nat) (f k v : ByteArray) (w : World) (hc : w.heap[c]? = some (curCells s u f k v)) :
    Calls Try.prog 10 #[.pointer (some ⟨c, 0, none⟩)] w fun e w' => e = .returned (.pointer (s.map fun t => ⟨t, 0, none⟩)) ∧ w = w' := by
  have h0 : w.cell? ⟨c, 0, none⟩ = some (.pointer (s.map fun t => ⟨t, 0, none⟩)) := (cur_cells hc).1
  clear hc
  go_enter Try.func10, Try.ntmps10
  go_wp2_with fail
  go_ret
  exact ⟨rfl, rfl⟩

theorem numMembers_any (t : Nat) (m : Option Nat) (w : World) (h : w.heap[t]? = some (setCells m)) :
    Calls Try.prog 15 #[.pointer (some ⟨t, 0, none⟩)] w fun e w' => e = .returned (.int .i64 0) ∧ w = w' := by
  have h0 : w.cell? ⟨t, 0, none⟩ = some (.map none) := by simp [World.cell?, h, setCells]
  clear h
  have hl := fun w => len_none39 w 3
  go_enter Try.func15, Try.ntmps15
  go_wp2_with fail
  go_ret
  exact ⟨rfl, rfl⟩

theorem numChildren_none (t : Nat) (w : World) (h : w.heap[t]? = some (setCells none)) :
    Calls Try.prog 16 #[.pointer (some ⟨t, 0, none⟩)] w fun e w' => e = .returned (.int .i64 0) ∧ w = w' := by
  have h0 : w.cell? ⟨t, 1, none⟩ = some (.map none) := by simp [World.cell?, h, setCells]
  clear h
  have hl := fun w => len_none40 w 3
  go_enter Try.func16, Try.ntmps16
  go_wp2_with fail
  go_ret
  exact ⟨rfl, rfl⟩

theorem numChildren_some (t m : Nat) (L : List (Lit × Nat)) (w : World) (h : w.heap[t]? = some (setCells (some m))) (hk : kids w m L) :
    Calls Try.prog 16 #[.pointer (some ⟨t, 0, none⟩)] w fun e w' => e = .returned (.int .i64 L.length) ∧ w = w' := by
  have h0 : w.cell? ⟨t, 1, none⟩ = some (.map (some m)) := by simp [World.cell?, h, setCells]
  clear h
  have hl := hk.len 3
  go_enter Try.func16, Try.ntmps16
  go_wp2_with fail
  go_ret
  exact ⟨rfl, rfl⟩

theorem child_any (T m t : Nat) (L : List (Lit × Nat)) (f k v : ByteArray) (w : World) (hf : f.size ≤ maxLen) (hk : k.size ≤ maxLen) (hv : v.size ≤ maxLen)
    (hT : w.heap[T]? = some (setCells (some m))) (hm : kids w m L) (hin : (klOf f k v, t) ∈ L) :
    Calls Try.prog 14 #[.pointer (some ⟨T, 0, none⟩), .agg #[.string f, .string k, .string v]] w fun e w' => e = .returned (.pointer (some ⟨t, 0, none⟩)) ∧ Only [] w w' := by
  have hTl : T < w.heap.size := (Array.getElem?_eq_some_iff.1 hT).1
  have hkey := key_of f k v hf hk hv
  obtain ⟨W1, hW1, k1, t1, e1, o1⟩ : ∃ W1, W1 = w.alloc (.cells #[.string f, .string k, .string v] 35) ∧
      kids W1 m L ∧ W1.heap[T]? = some (setCells (some m)) ∧ W1.heap[w.heap.size]? = some (.cells #[.string f, .string k, .string v] 35 (0, 0)) ∧ Only [] w W1 := by
    refine ⟨_, rfl, hm.of_block (Below.heap_alloc _ _ _ hm.lt), ?_, heap_alloc_at _ _ _ rfl, (Only.refl _ _).alloc _⟩
    rw [Below.heap_alloc _ _ _ hTl]; exact hT
  have l1 : ∀ nq, (Instr.lookup 40 (.map (some m)) (.agg #[.string f, .string k, .string v]) false).run Try.prog (W1.drewN nq) = .ok (.pointer (some ⟨t, 0, none⟩)) (W1.drewN nq) :=
    fun nq => (k1.of_block (w' := W1.drewN nq) rfl).look hkey hin
  have tc : W1.cell? ⟨T, 1, none⟩ = some (.map (some m)) := by simp [World.cell?, t1, setCells]
  have ec0 : W1.cell? ⟨w.heap.size, 0, none⟩ = some (.string f) := by simp [World.cell?, e1]
  have ec1 : W1.cell? ⟨w.heap.size, 1, none⟩ = some (.string k) := by simp [World.cell?, e1]
  have ec2 : W1.cell? ⟨w.heap.size, 2, none⟩ = some (.string v) := by simp [World.cell?, e1]
  have HW : Hid _ := hW1
  clear hkey hW1 hin
  go_enter Try.func14, Try.ntmps14
  go_wp2_with fail
  rw [← HW.out]
  clear HW
  go_quiet (fail)
  clear l1
  go_wp2_with fail
  go_ret
  exact ⟨rfl, o1.drewN nq⟩
end Go.Proofs.Qxb6618315a
