/-
  'zzc := make([]bool, len(flags)); copy(zzc, flags)': the copy's run, laid ahead of the walks.
-/
import Derived.Test.Qxb6617752aWith
import Derived.Laws.CopyOwn
import Derived.WalkSpells
namespace Go.Proofs.Qxb6617752a
open Go.RowKit Go.Deep

theorem Try.size4 : (Try.prog.info? 4).map (·.size) = some 1 := by kernel_rfl

theorem addr_plain (b o i : Nat) : (⟨b, o, none⟩ : Addr).add i = ⟨b, o + i, none⟩ := by unfold Addr.add; split <;> simp_all

/-- The flags as cells. -/
def flagCells (F : Nat → Bool) (n : Nat) : List Value := (List.range n).map fun i => .bool (F i)

theorem length_flagCells (F : Nat → Bool) (n : Nat) : (flagCells F n).length = n := by simp [flagCells]
theorem flagCells_at {F : Nat → Bool} {n j : Nat} {v : Value} (h : (flagCells F n)[j]? = some v) : j < n ∧ v = .bool (F j) := by
  unfold flagCells at h
  rw [List.getElem?_map] at h
  by_cases hj : j < n
  · simp [hj] at h; exact ⟨hj, h.symm⟩
  · simp [hj] at h
theorem flagCells_one (F : Nat → Bool) (n : Nat) : ∀ v ∈ flagCells F n, v.oneCell' = true := by
  intro v hv
  simp only [flagCells, List.mem_map] at hv
  obtain ⟨i, _, rfl⟩ := hv
  rfl

theorem copy_fresh (w : World) (a : Addr) (n c : Nat) (F : Nat → Bool) (hcell : ∀ i, i < n → w.cell? (a.add i) = some (.bool (F i))) :
    ∃ w2, (Builtin.copy_ #[22, 22] 3 #[.slice (some ⟨w.heap.size, 0, none⟩) n n, .slice (some a) n c]).run Try.prog (w.alloc (.cells (madeCells #[.bool false] n) 4)) = .ok (.int .i64 (n : Int)) w2 ∧
      Below w.heap.size w w2 ∧ w2.rowIs w.heap.size 4 n (fun i => .bool (F i)) := by
  have hg : (w.alloc (.cells (madeCells #[.bool false] n) 4)).heap[w.heap.size]? = some (.cells (madeCells #[.bool false] n) 4 (0, 0)) := blk_alloc_new _ _
  have hsz : (madeCells #[Value.bool false] n).size = n := size_madeCells _ _
  have hrun := run_copy_row (P := Try.prog) (w.alloc (.cells (madeCells #[.bool false] n) 4)) 22 22 3 4 w.heap.size 0 n n a n c (madeCells #[.bool false] n) 4 (flagCells F n)
    Try.underlying22 Try.size4 hg (by rw [length_flagCells]; exact (Nat.min_self n).symm) (fun j v hv => by
      obtain ⟨hj, rfl⟩ := flagCells_at hv
      have hlt := World.block_lt_of_cell? _ _ (hcell j hj)
      rw [World.cell?_alloc_old _ _ _ (by omega)]
      exact hcell j hj) (by rw [length_flagCells, hsz]; omega) (flagCells_one F n)
  have e : ((madeCells #[Value.bool false] n).toList.take 0 ++ flagCells F n ++ (madeCells #[Value.bool false] n).toList.drop (0 + (flagCells F n).length)) = flagCells F n := by
    rw [length_flagCells, List.drop_eq_nil_of_le (by simp [hsz])]
    simp
  rw [e, length_flagCells] at hrun
  refine ⟨_, hrun, below_setRow ((Below.refl _ _).alloc (Nat.le_refl _) _) (Nat.le_refl _) _, ?_⟩
  exact ⟨_, setRow_heap _ _ _ _ _ _ hg, by simp [length_flagCells], fun i hi => by simp [flagCells, hi]⟩

theorem row_kept {w w' : World} {g n : Nat} {f : Nat → Value} (hr : w.rowIs g 4 n f) (hb : Below w.heap.size w w') : w'.rowIs g 4 n f := hr.of_block (hb.block _ hr.lt)

/-- ZZProvisioningIndex over a row of the call's own: its first m flags. -/
theorem zz_row {g n m c : Nat} {F : Nat → Bool} {V : Int} (w : World) (hr : w.rowIs g 4 n (fun i => .bool (F i))) (hm : m ≤ n) (hn : m ≤ 65537) (hV : Pl.lastIdx F m = V) :
    Calls Try.prog 6 #[.slice (some ⟨g, 0, none⟩) m c] w fun e w' => e = .returned (.int .i64 V) ∧ Below w.heap.size w w' := by
  subst hV
  exact zz_any (some ⟨g, 0, none⟩) g 0 m c F w hn (fun _ => rfl) (fun i hi => by rw [Nat.zero_add]; exact hr.cell (by omega))

/-- .. behind its first o flags. -/
theorem zz_tail {g n o m c : Nat} {a : Option Addr} {F : Nat → Bool} {V : Int} (w : World) (hr : w.rowIs g 4 n (fun i => .bool (F i))) (ha : 0 < m → a = some ⟨g, o, none⟩) (hm : o + m ≤ n) (hn : m ≤ 65537) (hV : Pl.lastIdx (fun i => F (o + i)) m = V) :
    Calls Try.prog 6 #[.slice a m c] w fun e w' => e = .returned (.int .i64 V) ∧ Below w.heap.size w w' := by
  subst hV
  exact zz_any a g o m c (fun i => F (o + i)) w hn ha (fun i hi => hr.cell (by omega))

theorem flag_row {g n c j : Nat} {F : Nat → Bool} (x : Bool) (w : World) (hr : w.rowIs g 4 n (fun i => .bool (F i))) (hn : n ≤ 65536) (hj : j < n) :
    Calls Try.prog 9 #[.slice (some ⟨g, 0, none⟩) n c, .int .i64 j, .bool x] w fun e w' => e = .returned (.slice (some ⟨w.heap.size, 0, none⟩) n n) ∧ Below w.heap.size w w' ∧ w'.rowIs w.heap.size 4 n (fun i => .bool (Pl.upd F j x i)) :=
  flag_any (some ⟨g, 0, none⟩) g 0 n c F j x w hn hj (fun _ => rfl) (fun i hi => by rw [Nat.zero_add]; exact hr.cell hi)

theorem root_row {g n c : Nat} {F : Nat → Bool} (x : Bool) (w : World) (hr : w.rowIs g 4 n (fun i => .bool (F i))) (hn : n ≤ 65536) :
    Calls Try.prog 7 #[.slice (some ⟨g, 0, none⟩) n c, .bool x] w fun e w' => e = .returned (.slice (some ⟨w.heap.size, 0, none⟩) (n + 1) (n + 1)) ∧ Below w.heap.size w w' ∧ w'.rowIs w.heap.size 4 (n + 1) (fun i => .bool (Pl.upd F n x i)) :=
  root_any (some ⟨g, 0, none⟩) g 0 n c F x w hn (fun _ => rfl) (fun i hi => by rw [Nat.zero_add]; exact hr.cell hi)
end Go.Proofs.Qxb6617752a
