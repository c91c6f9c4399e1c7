/-
  THE WALK OF buildCursors (function 7).
-/
import Derived.Test.Qxb6618315aSmall
namespace Go.Proofs.Qxb6618315a
open Go.RowKit Go.Deep

theorem Try.info31 : (Try.prog.info? 31).map (fun i => (i.zero, i.size, i.bytes)) = some (some (.pointer none), 1, 8) := by kernel_rfl

/-- The path's cells: element i is three strings. -/
def PathIs (w : World) (a : Option Addr) (b off n : Nat) (F G H : Nat → ByteArray) : Prop :=
  (0 < n → a = some ⟨b, off, none⟩) ∧ ∀ i, i < n → w.cell? ⟨b, off + i * 3, none⟩ = some (.string (F i)) ∧ w.cell? ⟨b, off + i * 3 + 1, none⟩ = some (.string (G i)) ∧ w.cell? ⟨b, off + i * 3 + 2, none⟩ = some (.string (H i))

/-- Cursor i's strings: nothing at the root, path[i-1] below it. -/
def low (F : Nat → ByteArray) : Nat → ByteArray
  | 0 => ⟨#[]⟩
  | i + 1 => F i

/-- The row of cursors, those up to k laid. -/
def curs (C k : Nat) : Nat → Value := fun j => if j ≤ k then .pointer (some ⟨C + 2 + 4 * j, 0, none⟩) else .pointer none

/-- What holds when k cursors below the root are laid. -/
structure Built (w wr : World) (n k R : Nat) (F G H : Nat → ByteArray) : Prop where
  only : Only [] w wr
  size : wr.heap.size = w.heap.size + 3 + 4 * k
  row : wr.rowIs w.heap.size 31 (n + 1) (curs w.heap.size k)
  cur : ∀ i, i ≤ k → wr.heap[w.heap.size + 2 + 4 * i]? = some (curCells (if i = 0 then some R else none) (if i = 0 then none else some (w.heap.size + 2 + 4 * (i - 1))) (low F i) (low G i) (low H i))

theorem built_start (w : World) (n R : Nat) (F G H : Nat → ByteArray) :
    Built w (((w.alloc (.cells ((madeCells #[.pointer none] (n + 1)).setIfInBounds 0 (.pointer (some ⟨w.heap.size + 1 + 1, 0, none⟩))) 31)).alloc (.cells #[.string ⟨#[]⟩, .string ⟨#[]⟩, .string ⟨#[]⟩] 35)).alloc
      (.cells #[.pointer (some ⟨R, 0, none⟩), .pointer none, .string ⟨#[]⟩, .string ⟨#[]⟩, .string ⟨#[]⟩] 44)) n 0 R F G H := by
  refine ⟨(((Only.refl _ _).alloc _).alloc _).alloc _, by simp, ?_, fun i hi => ?_⟩
  · have h1 : (w.alloc (.cells ((madeCells #[.pointer none] (n + 1)).setIfInBounds 0 (.pointer (some ⟨w.heap.size + 1 + 1, 0, none⟩))) 31)).rowIs w.heap.size 31 (n + 1) (curs w.heap.size 0) := by
      refine ⟨_, blk_alloc_new _ _, by simp [size_madeCells], fun i hi => ?_⟩
      unfold curs
      by_cases e : i = 0
      · subst e
        simp [size_madeCells]
      · rw [if_neg (by omega), Array.getElem?_setIfInBounds, if_neg (by omega)]
        simp [madeCells, hi, Nat.mod_one]
    exact (h1.alloc _).alloc _
  · obtain rfl : i = 0 := by omega
    rw [heap_alloc_at _ _ _ (by simp)]
    rfl

/-- w' is w but for draws. -/
def Like (w' w : World) : Prop := w'.heap = w.heap ∧ w'.os = w.os ∧ w'.tape = w.tape ∧ w'.output = w.output

theorem Only.like {bs : List Nat} {w w' w'' : World} (h : Only bs w w') (hl : Like w'' w') : Only bs w w'' :=
  ⟨hl.2.1.trans h.os, hl.2.2.1.trans h.tape, hl.2.2.2.trans h.output, by rw [hl.1]; exact h.size, fun b hb hn => by rw [hl.1]; exact h.block b hb hn⟩

theorem past2 (W : World) (o1 o2 : Obj) (a : Addr) (h : a.block < W.heap.size) : ((W.alloc o1).alloc o2).cell? a = W.cell? a := by
  rw [World.cell?_alloc_lt _ _ _ (by simp; omega), World.cell?_alloc_lt _ _ _ h]

theorem past4 (W : World) (o1 o2 o3 o4 : Obj) (a : Addr) (h : a.block < W.heap.size) : ((((W.alloc o1).alloc o2).alloc o3).alloc o4).cell? a = W.cell? a := by
  rw [past2 _ _ _ _ (by simp; omega), past2 _ _ _ _ h]

theorem past4f (W : World) (o1 o2 o3 o4 : Obj) (a : Addr) (h : a.block < W.heap.size) : ((((W.alloc o1).alloc o2).alloc o3).alloc o4).frozen? a = W.frozen? a := by
  refine World.frozen?_of_block ?_
  rw [Below.heap_alloc _ _ _ (by simp; omega), Below.heap_alloc _ _ _ (by simp; omega), Below.heap_alloc _ _ _ (by simp; omega), Below.heap_alloc _ _ _ h]

theorem past4s (W : World) (o1 o2 o3 o4 : Obj) (a c : Addr) (v : Value) (h : a.block < W.heap.size) (hne : a ≠ c) : (((((W.alloc o1).alloc o2).alloc o3).alloc o4).setCell c v).cell? a = W.cell? a := by
  rw [World.cell?_setCell_other _ _ _ _ (fun e => hne e.symm), past4 _ _ _ _ _ _ h]

theorem built_step {w wr : World} {n k R : Nat} {F G H : Nat → ByteArray} (h : Built w wr n k R F G H) (o1 o2 o3 : Obj) (w' : World)
    (hw : Like w' (((((wr.alloc o1).alloc o2).alloc o3).alloc (.cells #[.pointer none, .pointer (some ⟨w.heap.size + 2 + 4 * k, 0, none⟩), .string (F k), .string (G k), .string (H k)] 44)).setCell ⟨w.heap.size, k + 1, none⟩ (.pointer (some ⟨wr.heap.size + 1 + 1 + 1, 0, none⟩)))) :
    Built w w' n (k + 1) R F G H := by
  have hs := h.size
  have hh := hw.1
  have hsz : w'.heap.size = wr.heap.size + 4 := by rw [hh]; simp
  have hrow := (((((h.row.alloc o1).alloc o2).alloc o3).alloc (.cells #[.pointer none, .pointer (some ⟨w.heap.size + 2 + 4 * k, 0, none⟩), .string (F k), .string (G k), .string (H k)] 44)).set (k + 1) (.pointer (some ⟨wr.heap.size + 1 + 1 + 1, 0, none⟩))).of_block (w' := w') (by rw [hh])
  refine ⟨?_, by omega, hrow.congr (fun j _ => ?_), fun i hi => ?_⟩
  · exact (((((h.only.alloc o1).alloc o2).alloc o3).alloc _).setNew (a := ⟨w.heap.size, k + 1, none⟩) (Nat.le_refl _) _).like hw
  · unfold curs
    by_cases e : j = k + 1
    · subst e
      rw [if_pos rfl, if_pos (Nat.le_refl _)]
      congr 3
      omega
    · rw [if_neg e]
      by_cases e2 : j ≤ k
      · rw [if_pos e2, if_pos (by omega)]
      · rw [if_neg e2, if_neg (by omega)]
  · rw [hh, Below.heap_setCell _ _ _ _ (by show w.heap.size + 2 + 4 * i ≠ w.heap.size; omega)]
    by_cases e : i = k + 1
    · subst e
      rw [heap_alloc_at _ _ _ (by simp; omega)]
      rfl
    · rw [Below.heap_alloc _ _ _ (by simp; omega), Below.heap_alloc _ _ _ (by simp; omega), Below.heap_alloc _ _ _ (by simp; omega), Below.heap_alloc _ _ _ (by omega)]
      exact h.cur i (by omega)

set_option maxHeartbeats 400000 in
theorem build_any (R : Nat) (a : Option Addr) (b off n c : Nat) (F G H : Nat → ByteArray) (w : World) (hn : n ≤ 4096) (hp : PathIs w a b off n F G H) :
    Calls Try.prog 7 #[.pointer (some ⟨R, 0, none⟩), .slice a n c] w fun e w' => e = .returned (.slice (some ⟨w.heap.size, 0, none⟩) (n + 1) (n + 1)) ∧ Built w w' n n R F G H := by
  have hmk := run_make_row' (P := Try.prog) 28 31 (.pointer none) 8 Try.underlying28 Try.info31 rfl .i64 .i64 (n + 1) (by omega) (by omega)
  rw [show ((n + 1 : Nat) : Int) = (n : Int) + 1 by omega] at hmk
  have HP : Hid _ := hp
  clear hp
  have hr0 : (w.alloc (.cells (madeCells #[.pointer none] (n + 1)) 31)).rowIs w.heap.size 31 (n + 1) (fun _ => .pointer none) := World.rowIs_made w _ (n + 1) 31
  have hm0 : (madeCells #[Value.pointer none] (n + 1))[0]? = some (.pointer none) := by simp [madeCells]
  go_enter Try.func7, Try.ntmps7
  go_wp2_with fail
  refine (newCur_any _ _ _ _ _ _).mono ?_
  rintro e w1 ⟨rfl, rfl⟩
  clear hmk
  go_wp2_with fail
  clear hr0 hm0
  go_loopw [6] (fun i wr => ∃ k : Nat, k ≤ n ∧ i = .int .i64 k ∧ Built w wr n k R F G H) (fun i _ => n - (intOf i).toNat)
  case atStart => exact ⟨0, Nat.zero_le _, rfl, built_start w n R F G H⟩
  case round =>
    obtain ⟨k, hk, rfl, hB⟩ := hrel
    by_cases hlt : k < n
    · obtain ⟨h1, h2⟩ := HP.out
      obtain rfl := h1 (by omega)
      obtain ⟨p0, p1, p2⟩ := h2 k hlt
      have hbl : b < w.heap.size := World.block_lt_of_cell? _ _ p0
      have hle := hB.only.size
      have q0 : ∀ o, wr.cell? ⟨b, o, none⟩ = w.cell? ⟨b, o, none⟩ := fun o => World.cell?_of_block (w := w) (hB.only.block b hbl (by simp))
      rw [← q0] at p0 p1 p2
      clear h1 h2 q0
      have hrl := hB.row.lt
      have r0 : wr.cell? ⟨w.heap.size, k, none⟩ = some (.pointer (some ⟨w.heap.size + 2 + 4 * k, 0, none⟩)) := by rw [hB.row.cell (by omega)]; simp [curs]
      have r1 : wr.cell? ⟨w.heap.size, k + 1, none⟩ = some (.pointer none) := by rw [hB.row.cell (by omega)]; simp [curs]
      have r2 : wr.frozen? ⟨w.heap.size, k + 1, none⟩ = false := hB.row.frozen _
      have hbw : b < wr.heap.size := by omega
      have s1 : ∀ o1 o2 o3 o4, ((((wr.alloc o1).alloc o2).alloc o3).alloc o4).cell? ⟨w.heap.size, k + 1, none⟩ = some (.pointer none) := fun o1 o2 o3 o4 => (past4 wr o1 o2 o3 o4 ⟨w.heap.size, k + 1, none⟩ hrl).trans r1
      have s2 : ∀ o1 o2 o3 o4, ((((wr.alloc o1).alloc o2).alloc o3).alloc o4).frozen? ⟨w.heap.size, k + 1, none⟩ = false := fun o1 o2 o3 o4 => (past4f wr o1 o2 o3 o4 ⟨w.heap.size, k + 1, none⟩ hrl).trans r2
      have hz : (k : Int) < (n : Int) := by omega
      have hz0 : (0 : Int) ≤ (k : Int) := by omega
      have hz1 : (k : Int) < (n : Int) + 1 := by omega
      have hz' : (k : Int) + 1 < (n : Int) + 1 := by omega
      have hwr : IntKind.i64.wrap ((k : Int) + 1) = (k : Int) + 1 := by rw [IntKind.wrap_i64]; omega
      have hz3 : (0 : Int) ≤ (k : Int) + 1 := by omega
      have hzn : ((k : Int) + 1).toNat = k + 1 := by omega
      have hne : ∀ o, (⟨b, o, none⟩ : Addr) ≠ ⟨w.heap.size, k + 1, none⟩ := fun o e => by have := congrArg Addr.block e; simp at this; omega
      have HN : Hid _ := hne
      clear hne
      go_wp2_with fail
      go_region_held3 (fun w' => w'.cell? ⟨w.heap.size, k, none⟩ = some (.pointer (some ⟨w.heap.size + 2 + 4 * k, 0, none⟩)) ∧ w'.cell? ⟨b, off + k * 3, none⟩ = some (.string (F k)) ∧ w'.cell? ⟨b, off + k * 3 + 1, none⟩ = some (.string (G k)) ∧ w'.cell? ⟨b, off + k * 3 + 2, none⟩ = some (.string (H k)))
        (first | exact ⟨r0, p0, p1, p2⟩ | exact ⟨(past2 _ _ _ _ hrl).trans r0, (past2 _ _ _ _ hbw).trans p0, (past2 _ _ _ _ hbw).trans p1, (past2 _ _ _ _ hbw).trans p2⟩ | exact ⟨(past4 _ _ _ _ _ _ hrl).trans r0, (past4 _ _ _ _ _ _ hbw).trans p0, (past4 _ _ _ _ _ _ hbw).trans p1, (past4 _ _ _ _ _ _ hbw).trans p2⟩ | exact ⟨(past4s _ _ _ _ _ _ _ _ hrl (by simp)).trans r0, (past4s _ _ _ _ _ _ _ _ hbw (HN.out _)).trans p0, (past4s _ _ _ _ _ _ _ _ hbw (HN.out _)).trans p1, (past4s _ _ _ _ _ _ _ _ hbw (HN.out _)).trans p2⟩)
        (first
          | (go_at_call 13; refine (stepElem_any _ _ _ _).mono ?_; rintro e w1 ⟨rfl, rfl⟩)
          | (go_at_call 12; refine (newCur_any _ _ _ _ _ _).mono ?_; rintro e w1 ⟨rfl, rfl⟩))
      go_wp2_with fail
      go_roundw
      case rel => exact ⟨k + 1, by omega, by go_num, built_step hB _ _ _ _ ⟨rfl, rfl, rfl, rfl⟩⟩
      case measure => simp [intOf]; omega
    · obtain rfl : k = n := by omega
      go_wp2_with fail
      go_ret
      exact ⟨rfl, hB⟩
end Go.Proofs.Qxb6618315a
