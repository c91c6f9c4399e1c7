/-
  THE WALKS OF zzWithRoot (function 7), zzWithFlag (function 9), zzBytes (functions 5, 8).
-/
import Derived.Test.Qxb6617752aZZ
namespace Go.Proofs.Qxb6617752a
open Go.RowKit Go.Deep

theorem Try.info4 : (Try.prog.info? 4).map (fun i => (i.zero, i.size, i.bytes)) = some (some (.bool false), 1, 1) := by kernel_rfl

/-- A copy in the making: k flags gone over. -/
def part (F : Nat → Bool) (k : Nat) : Nat → Value := fun j => .bool (if j < k then F j else false)

structure Copied (w wr : World) (m k : Nat) (F : Nat → Bool) : Prop where
  since : Below w.heap.size w wr
  row : wr.rowIs w.heap.size 4 m (part F k)

theorem copied_start (w : World) (m : Nat) (F : Nat → Bool) : Copied w (w.alloc (.cells (madeCells #[.bool false] m) 4)) m 0 F :=
  ⟨(Below.refl _ _).alloc (Nat.le_refl _) _, (World.rowIs_made w _ m 4).congr (fun j _ => by simp [part])⟩

theorem copied_step {w wr : World} {m k : Nat} {F : Nat → Bool} (h : Copied w wr m k F) : Copied w (wr.setCell ⟨w.heap.size, k, none⟩ (.bool (F k))) m (k + 1) F :=
  ⟨h.since.setCell (Nat.le_refl _) _, (h.row.set k _).congr (fun j _ => by
    simp only [part]
    by_cases e : j = k
    · subst e; simp
    · rw [if_neg e]
      by_cases hlt : j < k
      · rw [if_pos hlt, if_pos (by omega)]
      · rw [if_neg hlt, if_neg (by omega)])⟩

/-- The last store, at place j. -/
theorem copied_last {w wr : World} {m k : Nat} {F : Nat → Bool} (h : Copied w wr m k F) (hk : k = m ∨ k + 1 = m) (j : Nat) (hj : k = m ∨ j = k) (x : Bool) :
    Below w.heap.size w (wr.setCell ⟨w.heap.size, j, none⟩ (.bool x)) ∧ (wr.setCell ⟨w.heap.size, j, none⟩ (.bool x)).rowIs w.heap.size 4 m (fun i => .bool (Pl.upd F j x i)) :=
  ⟨h.since.setCell (Nat.le_refl _) _, (h.row.set j _).congr (fun i hi => by
    simp only [part, Pl.upd]
    by_cases e : i = j
    · subst e; simp
    · rw [if_neg e, if_neg e, if_pos (by omega)])⟩

set_option maxHeartbeats 400000 in
theorem root_any (a : Option Addr) (b off n c : Nat) (F : Nat → Bool) (x : Bool) (w : World) (hn : n ≤ 65536) (ha : 0 < n → a = some ⟨b, off, none⟩)
    (hcell : ∀ i, i < n → w.cell? ⟨b, off + i, none⟩ = some (.bool (F i))) :
    Calls Try.prog 7 #[.slice a n c, .bool x] w fun e w' => e = .returned (.slice (some ⟨w.heap.size, 0, none⟩) (n + 1) (n + 1)) ∧ Below w.heap.size w w' ∧ w'.rowIs w.heap.size 4 (n + 1) (fun i => .bool (Pl.upd F n x i)) := by
  have hmk := run_make_row' (P := Try.prog) 22 4 (.bool false) 1 Try.underlying22 Try.info4 rfl .i64 .i64 (n + 1) (by omega) (by omega)
  rw [show ((n + 1 : Nat) : Int) = (n : Int) + 1 by omega] at hmk
  go_enter Try.func7, Try.ntmps7
  go_wp2
  clear hmk
  go_loopw [6] (fun i wr => ∃ k : Nat, k ≤ n ∧ i = .int .i64 k ∧ Copied w wr (n + 1) k F) (fun i _ => n - (intOf i).toNat)
  case atStart => exact ⟨0, Nat.zero_le _, rfl, copied_start w (n + 1) F⟩
  case round =>
    obtain ⟨k, hk, rfl, hL⟩ := hrel
    by_cases hlt : k < n
    · obtain rfl := ha (by omega)
      have hb : b < w.heap.size := World.block_lt_of_cell? _ _ (hcell k hlt)
      have hc : wr.cell? ⟨b, off + k, none⟩ = some (.bool (F k)) := by rw [hL.since.cell (p := ⟨b, off + k, none⟩) hb]; exact hcell k hlt
      have hst1 : wr.cell? ⟨w.heap.size, k, none⟩ = some (part F k k) := hL.row.cell (by omega)
      have hst2 : wr.frozen? ⟨w.heap.size, k, none⟩ = false := hL.row.frozen k
      go_wp2
      go_roundw
      case rel => exact ⟨k + 1, by omega, by go_num, copied_step hL⟩
      case measure => simp [intOf]; omega
    · obtain rfl : k = n := by omega
      have hst1 : wr.cell? ⟨w.heap.size, k, none⟩ = some (part F k k) := hL.row.cell (by omega)
      have hst2 : wr.frozen? ⟨w.heap.size, k, none⟩ = false := hL.row.frozen k
      go_wp2
      go_ret
      exact ⟨rfl, copied_last hL (by omega) k (by omega) x⟩

set_option maxHeartbeats 400000 in
theorem flag_any (a : Option Addr) (b off n c : Nat) (F : Nat → Bool) (j : Nat) (x : Bool) (w : World) (hn : n ≤ 65536) (hj : j < n) (ha : 0 < n → a = some ⟨b, off, none⟩)
    (hcell : ∀ i, i < n → w.cell? ⟨b, off + i, none⟩ = some (.bool (F i))) :
    Calls Try.prog 9 #[.slice a n c, .int .i64 j, .bool x] w fun e w' => e = .returned (.slice (some ⟨w.heap.size, 0, none⟩) n n) ∧ Below w.heap.size w w' ∧ w'.rowIs w.heap.size 4 n (fun i => .bool (Pl.upd F j x i)) := by
  have hmk := run_make_row' (P := Try.prog) 22 4 (.bool false) 1 Try.underlying22 Try.info4 rfl .i64 .i64 n (by omega) (by omega)
  go_enter Try.func9, Try.ntmps9
  go_wp2
  clear hmk
  go_loopw [8] (fun i wr => ∃ k : Nat, k ≤ n ∧ i = .int .i64 k ∧ Copied w wr n k F) (fun i _ => n - (intOf i).toNat)
  case atStart => exact ⟨0, Nat.zero_le _, rfl, copied_start w n F⟩
  case round =>
    obtain ⟨k, hk, rfl, hL⟩ := hrel
    by_cases hlt : k < n
    · obtain rfl := ha (by omega)
      have hb : b < w.heap.size := World.block_lt_of_cell? _ _ (hcell k hlt)
      have hc : wr.cell? ⟨b, off + k, none⟩ = some (.bool (F k)) := by rw [hL.since.cell (p := ⟨b, off + k, none⟩) hb]; exact hcell k hlt
      have hst1 : wr.cell? ⟨w.heap.size, k, none⟩ = some (part F k k) := hL.row.cell (by omega)
      have hst2 : wr.frozen? ⟨w.heap.size, k, none⟩ = false := hL.row.frozen k
      go_wp2
      go_roundw
      case rel => exact ⟨k + 1, by omega, by go_num, copied_step hL⟩
      case measure => simp [intOf]; omega
    · obtain rfl : k = n := by omega
      have hst1 : wr.cell? ⟨w.heap.size, j, none⟩ = some (part F k j) := hL.row.cell (by omega)
      have hst2 : wr.frozen? ⟨w.heap.size, j, none⟩ = false := hL.row.frozen j
      go_wp2
      go_ret
      exact ⟨rfl, copied_last hL (by omega) j (by omega) x⟩

theorem bytes5_any (a : Option Addr) (n c : Nat) (k : Int) (w : World) (hm : n ≤ maxLen) :
    Calls Try.prog 5 #[.slice a n c, .int .i64 k] w fun e w' => e = .returned (.bool (decide (n ≤ 1048576))) ∧ w = w' := by
  unfold maxLen at hm
  by_cases h : n ≤ 1048576
  · have h1 : decide (n ≤ 1048576) = true := by simpa using h
    rw [h1]
    go_enter Try.func5, Try.ntmps5
    go_wp2
    go_ret
    exact ⟨rfl, rfl⟩
  · have h1 : decide (n ≤ 1048576) = false := by simpa using h
    rw [h1]
    go_enter Try.func5, Try.ntmps5
    go_wp2
    go_ret
    exact ⟨rfl, rfl⟩

theorem bytes8_any (a : Option Addr) (n c : Nat) (k : Int) (w : World) (hm : n ≤ maxLen) :
    Calls Try.prog 8 #[.slice a n c, .int .i64 k] w fun e w' => e = .returned (.bool (decide (n ≤ 1048576))) ∧ w = w' := by
  unfold maxLen at hm
  by_cases h : n ≤ 1048576
  · have h1 : decide (n ≤ 1048576) = true := by simpa using h
    rw [h1]
    go_enter Try.func8, Try.ntmps8
    go_wp2
    go_ret
    exact ⟨rfl, rfl⟩
  · have h1 : decide (n ≤ 1048576) = false := by simpa using h
    rw [h1]
    go_enter Try.func8, Try.ntmps8
    go_wp2
    go_ret
    exact ⟨rfl, rfl⟩
end Go.Proofs.Qxb6617752a
