/-
  THE WALK OF ZZProvisioningIndex (function 6): it lays a row of pointers and one certificate a flag, then asks provisioningIndex.
-/
import Derived.Test.Qxb6617752aIndex
import Derived.Deep.OwnRows
import Derived.Deep.LoopGhost
namespace Go.Proofs.Qxb6617752a
open Go.RowKit Go.Deep

theorem Try.info29 : (Try.prog.info? 29).map (fun i => (i.zero, i.size, i.bytes)) = some (some (.pointer none), 1, 8) := by kernel_rfl

/-- The row of pointers when k certificates are laid. -/
def ptrs (N k : Nat) : Nat → Value := fun j => if j < k then .pointer (some ⟨N + 1 + j, 0, none⟩) else .pointer none

/-- WHAT HOLDS AT THE LOOP's HEAD, k certificates laid. -/
structure Laid (w wr : World) (n k : Nat) (F : Nat → Bool) : Prop where
  since : Below w.heap.size w wr
  size : wr.heap.size = w.heap.size + 1 + k
  row : wr.rowIs w.heap.size 29 n (ptrs w.heap.size k)
  done : ∀ j, j < k → wr.cell? ⟨w.heap.size + 1 + j, 10, none⟩ = some (.bool (F j))

theorem laid_start (w : World) (n : Nat) (F : Nat → Bool) : Laid w (w.alloc (.cells (madeCells #[.pointer none] n) 29)) n 0 F :=
  ⟨(Below.refl _ _).alloc (Nat.le_refl _) _, by simp, (World.rowIs_made w _ n 29).congr (fun j _ => by simp [ptrs]), fun j hj => absurd hj (Nat.not_lt_zero _)⟩

theorem laid_step {w wr : World} {n k : Nat} {F : Nat → Bool} (h : Laid w wr n k F) (cs : Array Value) (t : TypeId) (hcs : cs[10]? = some (.bool (F k))) :
    Laid w ((wr.alloc (.cells cs t)).setCell ⟨w.heap.size, k, none⟩ (.pointer (some ⟨wr.heap.size, 0, none⟩))) n (k + 1) F := by
  have hsz := h.size
  refine ⟨(h.since.alloc (by omega) _).setCell (Nat.le_refl _) _, by simp [hsz]; omega, ((h.row.alloc _).set k _).congr (fun j _ => ?_), fun j hj => ?_⟩
  · simp only [ptrs]
    by_cases e : j = k
    · subst e; simp [hsz]
    · rw [if_neg e]
      by_cases hlt : j < k
      · rw [if_pos hlt, if_pos (by omega)]
      · rw [if_neg hlt, if_neg (by omega)]
  · rw [World.cell?_setCell_other _ _ _ _ (fun e => by have := congrArg Addr.block e; simp at this; omega)]
    by_cases e : j = k
    · subst e
      have hb : (wr.alloc (.cells cs t)).heap[w.heap.size + 1 + j]? = some (.cells cs t (0, 0)) := by
        rw [← hsz]; exact blk_alloc_new _ _
      simp [World.cell?, hb, hcs]
    · rw [World.cell?_alloc_old _ _ _ (by show w.heap.size + 1 + j ≠ wr.heap.size; omega)]
      exact h.done j (by omega)

set_option maxHeartbeats 400000 in
theorem zz_any (a : Option Addr) (b off n c : Nat) (F : Nat → Bool) (w : World) (hn : n ≤ 65537) (ha : 0 < n → a = some ⟨b, off, none⟩)
    (hcell : ∀ i, i < n → w.cell? ⟨b, off + i, none⟩ = some (.bool (F i))) :
    Calls Try.prog 6 #[.slice a n c] w fun e w' => e = .returned (.int .i64 (Pl.lastIdx F n)) ∧ Below w.heap.size w w' := by
  have hmk := run_make_row' (P := Try.prog) 28 29 (.pointer none) 8 Try.underlying28 Try.info29 rfl .i64 .i64 n (by omega) (by omega)
  go_enter Try.func6, Try.ntmps6
  go_wp2
  clear hmk
  go_loopw [4] (fun i wr => ∃ k : Nat, k ≤ n ∧ i = .int .i64 k ∧ Laid w wr n k F) (fun i _ => n - (intOf i).toNat)
  case atStart => exact ⟨0, Nat.zero_le _, rfl, laid_start w n F⟩
  case round =>
    obtain ⟨k, hk, rfl, hL⟩ := hrel
    by_cases hlt : k < n
    · obtain rfl := ha (by omega)
      have hb : b < w.heap.size := World.block_lt_of_cell? _ _ (hcell k hlt)
      have hc : wr.cell? ⟨b, off + k, none⟩ = some (.bool (F k)) := by rw [hL.since.cell (p := ⟨b, off + k, none⟩) hb]; exact hcell k hlt
      have hst1 : ∀ o, (wr.alloc o).cell? ⟨w.heap.size, k, none⟩ = some (ptrs w.heap.size k k) := fun o => (hL.row.alloc o).cell hlt
      have hst2 : ∀ o, (wr.alloc o).frozen? ⟨w.heap.size, k, none⟩ = false := fun o => (hL.row.alloc o).frozen k
      go_wp2
      go_roundw
      case rel => exact ⟨k + 1, by omega, by go_num, laid_step hL _ _ rfl⟩
      case measure => simp [intOf]; omega
    · obtain rfl : k = n := by omega
      go_wp2_with fail
      refine (index_any w.heap.size k (fun j => w.heap.size + 1 + j) F wr hn (fun i hi => by rw [hL.row.cell hi]; simp [ptrs, hi]) hL.done).mono ?_
      rintro e w' ⟨rfl, rfl⟩
      go_wp2
      go_ret
      exact ⟨rfl, hL.since⟩
end Go.Proofs.Qxb6617752a
