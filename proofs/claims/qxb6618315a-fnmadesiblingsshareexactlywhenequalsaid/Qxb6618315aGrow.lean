/-
  THE WALK OF (*Set).grow (function 18).
-/
import Derived.Test.Qxb6618315aKey
import Derived.Deep.QuietTactic
import Derived.BigQuiet
import Derived.BigRegion
import Derived.WalkSpells
import Derived.Deep.OwnRows
namespace Go.Proofs.Qxb6618315a
open Go.RowKit Go.Deep

/-- Of what was there nothing has turned but the blocks bs. -/
structure Only (bs : List Nat) (w w' : World) : Prop where
  os : w'.os = w.os
  tape : w'.tape = w.tape
  output : w'.output = w.output
  size : w.heap.size ≤ w'.heap.size
  block : ∀ b, b < w.heap.size → b ∉ bs → w'.heap[b]? = w.heap[b]?

/-- A set's two cells. -/
def setCells (m : Option Nat) : Obj := .cells #[.map none, .map m] 42 (0, 0)

theorem Only.refl (bs : List Nat) (w : World) : Only bs w w := ⟨rfl, rfl, rfl, Nat.le_refl _, fun _ _ _ => rfl⟩
theorem Only.drewN {bs : List Nat} {w w' : World} (h : Only bs w w') (n : Nat) : Only bs w (w'.drewN n) := ⟨h.os, h.tape, h.output, h.size, h.block⟩
theorem Only.drew {bs : List Nat} {w w' : World} (h : Only bs w w') : Only bs w w'.drew := ⟨h.os, h.tape, h.output, h.size, h.block⟩
theorem Only.alloc {bs : List Nat} {w w' : World} (h : Only bs w w') (o : Obj) : Only bs w (w'.alloc o) :=
  ⟨h.os, h.tape, h.output, by have := h.size; simp; omega, fun b hb hn => by rw [Below.heap_alloc _ _ _ (by have := h.size; omega)]; exact h.block b hb hn⟩
theorem Only.setCell {bs : List Nat} {w w' : World} (h : Only bs w w') {a : Addr} (ha : a.block ∈ bs) (v : Value) : Only bs w (w'.setCell a v) :=
  ⟨h.os, h.tape, h.output, by simpa [World.setCell] using h.size, fun b hb hn => by rw [Below.heap_setCell _ _ _ _ (fun e => hn (by rw [e]; exact ha))]; exact h.block b hb hn⟩
theorem Only.setNew {bs : List Nat} {w w' : World} (h : Only bs w w') {a : Addr} (ha : w.heap.size ≤ a.block) (v : Value) : Only bs w (w'.setCell a v) :=
  ⟨h.os, h.tape, h.output, by simpa [World.setCell] using h.size, fun b hb hn => by rw [Below.heap_setCell _ _ _ _ (by omega)]; exact h.block b hb hn⟩
theorem Only.grown {bs : List Nat} {w w' w'' : World} {r : Nat} (h : Only bs w w') (hg : w'.grownBy w'' (some r)) (hr : r ∈ bs ∨ w.heap.size ≤ r) : Only bs w w'' :=
  ⟨hg.os.trans h.os, hg.tape.trans h.tape, hg.output.trans h.output, Nat.le_trans h.size hg.size, fun b hb hn => by
    rw [hg.block b (by have := h.size; omega) (fun e => by
      have e' : b = r := by simpa using e
      rcases hr with hr | hr
      · exact hn (e' ▸ hr)
      · omega)]
    exact h.block b hb hn⟩
theorem Only.trans {bs bs' : List Nat} {w w' w'' : World} (h : Only bs w w') (k : Only bs' w' w'') (hb : ∀ b, b < w.heap.size → b ∈ bs' → b ∈ bs) : Only bs w w'' :=
  ⟨k.os.trans h.os, k.tape.trans h.tape, k.output.trans h.output, Nat.le_trans h.size k.size, fun b hlt hn =>
    (k.block b (by have := h.size; omega) (fun hm => hn (hb b hlt hm))).trans (h.block b hlt hn)⟩

theorem heap_alloc_at (w : World) (o : Obj) (n : Nat) (h : n = w.heap.size) : (w.alloc o).heap[n]? = some o := by subst h; exact blk_alloc_new _ _

theorem heap_setCell_at {w : World} {b i : Nat} {c : Array Value} {t : TypeId} {fr : Nat × Nat} (v : Value) (h : w.heap[b]? = some (.cells c t fr)) : (w.setCell ⟨b, i, none⟩ v).heap[b]? = some (.cells (c.setIfInBounds i v) t fr) := by
  simp [World.setCell, Array.getElem?_modify, h]

set_option maxHeartbeats 400000 in
theorem grow_new (T : Nat) (f k v : ByteArray) (w : World) (hf : f.size ≤ maxLen) (hk : k.size ≤ maxLen) (hv : v.size ≤ maxLen)
    (hT : w.heap[T]? = some (setCells none)) :
    Calls Try.prog 18 #[.pointer (some ⟨T, 0, none⟩), .agg #[.string f, .string k, .string v]] w fun e w' =>
      ∃ m t, w.heap.size ≤ m ∧ w.heap.size ≤ t ∧ e = .returned (.pointer (some ⟨t, 0, none⟩)) ∧ Only [T] w w' ∧ w'.heap[T]? = some (setCells (some m)) ∧
        kids w' m [(klOf f k v, t)] ∧ w'.heap[t]? = some (setCells none) := by
  have hTl : T < w.heap.size := (Array.getElem?_eq_some_iff.1 hT).1
  have c1 : w.cell? ⟨T, 1, none⟩ = some (.map none) := by simp [World.cell?, hT, setCells]
  have f1 : w.frozen? ⟨T, 1, none⟩ = false := by simp [World.frozen?, hT, setCells]
  have hmm := @run_makeMap Try.prog
  have hkey := key_of f k v hf hk hv
  obtain ⟨W1, hW1, k1, t1, e1, s1, o1⟩ : ∃ W1, W1 = ((w.setCell ⟨T, 1, none⟩ (.map (some (w.heap.size + 1)))).alloc (.cells #[.string f, .string k, .string v] 35)).alloc (.map #[] 0) ∧
      kids W1 (w.heap.size + 1) [] ∧ W1.heap[T]? = some (setCells (some (w.heap.size + 1))) ∧ W1.heap[w.heap.size]? = some (.cells #[.string f, .string k, .string v] 35 (0, 0)) ∧ W1.heap.size = w.heap.size + 2 ∧ Only [T] w W1 := by
    refine ⟨_, rfl, ?_, ?_, ?_, by simp, ?_⟩
    · have := kids_made ((w.setCell ⟨T, 1, none⟩ (.map (some (w.heap.size + 1)))).alloc (.cells #[.string f, .string k, .string v] 35))
      simpa using this
    · rw [Below.heap_alloc _ _ _ (by simp; omega), Below.heap_alloc _ _ _ (by simp; omega)]
      exact heap_setCell_at _ hT
    · rw [Below.heap_alloc _ _ _ (by simp)]
      exact heap_alloc_at _ _ _ (by simp)
    · exact (((Only.refl _ _).setCell (by simp) _).alloc _).alloc _
  have l1 : ∀ nq, (Instr.lookup 40 (.map (some (w.heap.size + 1))) (.agg #[.string f, .string k, .string v]) false).run Try.prog (W1.drewN nq) = .ok (.pointer none) (W1.drewN nq) :=
    fun nq => (k1.of_block (w' := W1.drewN nq) rfl).miss hkey (by simp)
  have tc : W1.cell? ⟨T, 1, none⟩ = some (.map (some (w.heap.size + 1))) := by simp [World.cell?, t1, setCells]
  have ec0 : W1.cell? ⟨w.heap.size, 0, none⟩ = some (.string f) := by simp [World.cell?, e1]
  have ec1 : W1.cell? ⟨w.heap.size, 1, none⟩ = some (.string k) := by simp [World.cell?, e1]
  have ec2 : W1.cell? ⟨w.heap.size, 2, none⟩ = some (.string v) := by simp [World.cell?, e1]
  have HK : Hid _ := hkey
  have HW : Hid _ := hW1
  clear hkey hW1
  have hnil := fun w => run_eql_map_nil (P := Try.prog) w 40 35 26 none Try.underlying40
  go_enter Try.func18, Try.ntmps18
  go_wp2_with fail
  rw [← HW.out]
  clear c1 f1 hmm hnil HW
  go_quiet (fail)
  clear l1
  go_wp2_with fail
  obtain ⟨W2, hW2, k2, t2, e2, n2, s2, o2⟩ : ∃ W2, W2 = ((W1.drewN nq).alloc (.cells #[.map none, .map none] 42)) ∧ kids W2 (w.heap.size + 1) [] ∧ W2.heap[T]? = some (setCells (some (w.heap.size + 1))) ∧
      W2.heap[w.heap.size]? = some (.cells #[.string f, .string k, .string v] 35 (0, 0)) ∧ W2.heap[w.heap.size + 2]? = some (setCells none) ∧ W2.heap.size = w.heap.size + 3 ∧ Only [T] w W2 := by
    refine ⟨_, rfl, k1.of_block (Below.heap_alloc _ _ _ (by simp [s1])), ?_, ?_, heap_alloc_at _ _ _ (by simp [s1]), by simp [s1], (o1.drewN nq).alloc _⟩
    · rw [Below.heap_alloc _ _ _ (by simp [s1]; omega)]; exact t1
    · rw [Below.heap_alloc _ _ _ (by simp [s1])]; exact e1
  rw [← hW2]
  clear hW2 tc ec0 ec1 ec2 k1 t1 e1 s1 o1
  have tc : W2.cell? ⟨T, 1, none⟩ = some (.map (some (w.heap.size + 1))) := by simp [World.cell?, t2, setCells]
  have ec0 : W2.cell? ⟨w.heap.size, 0, none⟩ = some (.string f) := by simp [World.cell?, e2]
  have ec1 : W2.cell? ⟨w.heap.size, 1, none⟩ = some (.string k) := by simp [World.cell?, e2]
  have ec2 : W2.cell? ⟨w.heap.size, 2, none⟩ = some (.string v) := by simp [World.cell?, e2]
  obtain ⟨w3, hup, k3, turn3⟩ := (k2.of_block (w' := W2.drew) rfl).store (by simp) HK.out (by simp) (w.heap.size + 2)
  have g3 := turn3.grown
  clear turn3
  go_region
  go_wp2_with fail
  go_ret
  refine ⟨w.heap.size + 1, w.heap.size + 2, by omega, by omega, rfl, o2.drew.grown g3 (.inr (by omega)), ?_, k3, ?_⟩
  · rw [g3.block T (by show T < W2.heap.size; omega) (by simp; omega)]
    exact t2
  · rw [g3.block (w.heap.size + 2) (by show w.heap.size + 2 < W2.heap.size; omega) (by simp)]
    exact n2

set_option maxHeartbeats 400000 in
theorem grow_add (T m : Nat) (L : List (Lit × Nat)) (f k v : ByteArray) (w : World) (hf : f.size ≤ maxLen) (hk : k.size ≤ maxLen) (hv : v.size ≤ maxLen)
    (hT : w.heap[T]? = some (setCells (some m))) (hm : kids w m L) (hL : L.length < 10) (hout : ∀ t, (klOf f k v, t) ∉ L) :
    Calls Try.prog 18 #[.pointer (some ⟨T, 0, none⟩), .agg #[.string f, .string k, .string v]] w fun e w' =>
      ∃ t, w.heap.size ≤ t ∧ e = .returned (.pointer (some ⟨t, 0, none⟩)) ∧ Only [m] w w' ∧ kids w' m ((klOf f k v, t) :: L) ∧ w'.heap[t]? = some (setCells none) := by
  have hTl : T < w.heap.size := (Array.getElem?_eq_some_iff.1 hT).1
  have hml := hm.lt
  have hkey := key_of f k v hf hk hv
  obtain ⟨W1, hW1, k1, t1, e1, s1, o1⟩ : ∃ W1, W1 = w.alloc (.cells #[.string f, .string k, .string v] 35) ∧
      kids W1 m L ∧ W1.heap[T]? = some (setCells (some m)) ∧ W1.heap[w.heap.size]? = some (.cells #[.string f, .string k, .string v] 35 (0, 0)) ∧ W1.heap.size = w.heap.size + 1 ∧ Only [m] w W1 := by
    refine ⟨_, rfl, hm.of_block (Below.heap_alloc _ _ _ hml), ?_, heap_alloc_at _ _ _ rfl, by simp, (Only.refl _ _).alloc _⟩
    rw [Below.heap_alloc _ _ _ hTl]; exact hT
  have l1 : ∀ nq, (Instr.lookup 40 (.map (some m)) (.agg #[.string f, .string k, .string v]) false).run Try.prog (W1.drewN nq) = .ok (.pointer none) (W1.drewN nq) :=
    fun nq => (k1.of_block (w' := W1.drewN nq) rfl).miss hkey hout
  have tc : W1.cell? ⟨T, 1, none⟩ = some (.map (some m)) := by simp [World.cell?, t1, setCells]
  have tc0 : w.cell? ⟨T, 1, none⟩ = some (.map (some m)) := by simp [World.cell?, hT, setCells]
  have ec0 : W1.cell? ⟨w.heap.size, 0, none⟩ = some (.string f) := by simp [World.cell?, e1]
  have ec1 : W1.cell? ⟨w.heap.size, 1, none⟩ = some (.string k) := by simp [World.cell?, e1]
  have ec2 : W1.cell? ⟨w.heap.size, 2, none⟩ = some (.string v) := by simp [World.cell?, e1]
  have HK : Hid _ := hkey
  have HW : Hid _ := hW1
  have HO : Hid _ := hout
  clear hkey hW1 hout
  have hnil := fun w => run_eql_map_nil (P := Try.prog) w 40 35 26 (some m) Try.underlying40
  go_enter Try.func18, Try.ntmps18
  go_wp2_with fail
  rw [← HW.out]
  clear hnil HW tc0
  go_quiet (fail)
  clear l1
  go_wp2_with fail
  obtain ⟨W2, hW2, k2, t2, e2, n2, s2, o2⟩ : ∃ W2, W2 = ((W1.drewN nq).alloc (.cells #[.map none, .map none] 42)) ∧ kids W2 m L ∧ W2.heap[T]? = some (setCells (some m)) ∧
      W2.heap[w.heap.size]? = some (.cells #[.string f, .string k, .string v] 35 (0, 0)) ∧ W2.heap[w.heap.size + 1]? = some (setCells none) ∧ W2.heap.size = w.heap.size + 2 ∧ Only [m] w W2 := by
    refine ⟨_, rfl, k1.of_block (Below.heap_alloc _ _ _ (by simp [s1]; omega)), ?_, ?_, heap_alloc_at _ _ _ (by simp [s1]), by simp [s1], (o1.drewN nq).alloc _⟩
    · rw [Below.heap_alloc _ _ _ (by simp [s1]; omega)]; exact t1
    · rw [Below.heap_alloc _ _ _ (by simp [s1])]; exact e1
  rw [← hW2]
  clear hW2 tc ec0 ec1 ec2 k1 t1 e1 s1 o1
  have tc : W2.cell? ⟨T, 1, none⟩ = some (.map (some m)) := by simp [World.cell?, t2, setCells]
  have ec0 : W2.cell? ⟨w.heap.size, 0, none⟩ = some (.string f) := by simp [World.cell?, e2]
  have ec1 : W2.cell? ⟨w.heap.size, 1, none⟩ = some (.string k) := by simp [World.cell?, e2]
  have ec2 : W2.cell? ⟨w.heap.size, 2, none⟩ = some (.string v) := by simp [World.cell?, e2]
  obtain ⟨w3, hup, k3, turn3⟩ := (k2.of_block (w' := W2.drew) rfl).store hL HK.out HO.out (w.heap.size + 1)
  have g3 := turn3.grown
  clear turn3
  go_region
  go_wp2_with fail
  go_ret
  refine ⟨w.heap.size + 1, by omega, rfl, o2.drew.grown g3 (.inl (by simp)), k3, ?_⟩
  rw [g3.block (w.heap.size + 1) (by show w.heap.size + 1 < W2.heap.size; omega) (by simp; omega)]
  exact n2

set_option maxHeartbeats 400000 in
theorem grow_old (T m t : Nat) (L : List (Lit × Nat)) (f k v : ByteArray) (w : World) (hf : f.size ≤ maxLen) (hk : k.size ≤ maxLen) (hv : v.size ≤ maxLen)
    (hT : w.heap[T]? = some (setCells (some m))) (hm : kids w m L) (hin : (klOf f k v, t) ∈ L) :
    Calls Try.prog 18 #[.pointer (some ⟨T, 0, none⟩), .agg #[.string f, .string k, .string v]] w fun e w' =>
      e = .returned (.pointer (some ⟨t, 0, none⟩)) ∧ Only [] w w' := by
  have hTl : T < w.heap.size := (Array.getElem?_eq_some_iff.1 hT).1
  have hml := hm.lt
  have hkey := key_of f k v hf hk hv
  obtain ⟨W1, hW1, k1, t1, e1, o1⟩ : ∃ W1, W1 = w.alloc (.cells #[.string f, .string k, .string v] 35) ∧
      kids W1 m L ∧ W1.heap[T]? = some (setCells (some m)) ∧ W1.heap[w.heap.size]? = some (.cells #[.string f, .string k, .string v] 35 (0, 0)) ∧ Only [] w W1 := by
    refine ⟨_, rfl, hm.of_block (Below.heap_alloc _ _ _ hml), ?_, heap_alloc_at _ _ _ rfl, (Only.refl _ _).alloc _⟩
    rw [Below.heap_alloc _ _ _ hTl]; exact hT
  have l1 : ∀ nq, (Instr.lookup 40 (.map (some m)) (.agg #[.string f, .string k, .string v]) false).run Try.prog (W1.drewN nq) = .ok (.pointer (some ⟨t, 0, none⟩)) (W1.drewN nq) :=
    fun nq => (k1.of_block (w' := W1.drewN nq) rfl).look hkey hin
  have tc : W1.cell? ⟨T, 1, none⟩ = some (.map (some m)) := by simp [World.cell?, t1, setCells]
  have tc0 : w.cell? ⟨T, 1, none⟩ = some (.map (some m)) := by simp [World.cell?, hT, setCells]
  have ec0 : W1.cell? ⟨w.heap.size, 0, none⟩ = some (.string f) := by simp [World.cell?, e1]
  have ec1 : W1.cell? ⟨w.heap.size, 1, none⟩ = some (.string k) := by simp [World.cell?, e1]
  have ec2 : W1.cell? ⟨w.heap.size, 2, none⟩ = some (.string v) := by simp [World.cell?, e1]
  have HW : Hid _ := hW1
  clear hkey hW1 hin
  have hnil := fun w => run_eql_map_nil (P := Try.prog) w 40 35 26 (some m) Try.underlying40
  go_enter Try.func18, Try.ntmps18
  go_wp2_with fail
  rw [← HW.out]
  clear hnil HW tc0
  go_quiet (fail)
  clear l1
  go_wp2_with fail
  go_ret
  exact ⟨rfl, o1.drewN nq⟩
end Go.Proofs.Qxb6618315a
