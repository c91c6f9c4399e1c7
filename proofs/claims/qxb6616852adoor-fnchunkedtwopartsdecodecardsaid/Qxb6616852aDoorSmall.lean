/-
  A SLICE OF BYTES IN A ROW AT PLACE 0, AND THE SMALL FUNCTIONS' WALKS: cloneBytes (5), catBytes (6), nonEmpty (7), zzBytes (4), hexDigit (17), eqBytes (11).
-/
import Derived.Test.Qxb6616852aDoorRows
import Derived.WalkKit
import Derived.Deep.OwnRows
import Derived.Deep.LoopGhost
import Derived.Lib.Walk
import Derived.Lib.BufferMore
import Derived.WalkSpells
import Derived.Laws.CopyOwn
import Derived.Deep.QuietTactic
import Derived.BigQuiet
namespace Go.Proofs.Qxb6616852aDoor
open Go.RowKit Go.Deep

theorem Tryd.info5 : (Tryd.prog.info? 5).map (fun i => (i.zero, i.size, i.bytes)) = some (some (.int .u8 0), 1, 1) := by kernel_rfl
theorem Tryd.size5 : (Tryd.prog.info? 5).map (·.size) = some 1 := by kernel_rfl

structure Hid (p : Prop) : Prop where
  out : p

/-- The i-th byte. -/
def nth (l : List Int) (i : Nat) : Int := l.getD i 0
theorem nth_left {l l' : List Int} {i : Nat} (h : i < l.length) : nth (l ++ l') i = nth l i := by
  simp [nth, List.getElem?_append_left h]
theorem nth_right {l l' : List Int} {i : Nat} (h : l.length ≤ i) : nth (l ++ l') i = nth l' (i - l.length) := by
  simp [nth, List.getElem?_append_right h]

theorem below_drewN {B : Nat} {w w' : World} (h : Below B w w') (n : Nat) : Below B w (w'.drewN n) := ⟨h.1, h.2, h.3, h.4, h.5⟩

/-- The slice (a, length of l) reads l, in block b from 0 on. -/
structure Sl (w : World) (a : Option Addr) (b : Nat) (l : List Int) : Prop where
  head : 0 < l.length → a = some ⟨b, 0, none⟩
  cell : ∀ i, i < l.length → w.cell? ⟨b, i, none⟩ = some (.int .u8 (nth l i))

theorem Sl.lt {w : World} {a : Option Addr} {b : Nat} {l : List Int} (h : Sl w a b l) (hl : 0 < l.length) : b < w.heap.size :=
  World.block_lt_of_cell? _ _ (h.cell 0 hl)

theorem Sl.kept {w w' : World} {a : Option Addr} {b : Nat} {l : List Int} (h : Sl w a b l) (hb : Below w.heap.size w w') : Sl w' a b l :=
  ⟨h.head, fun i hi => by rw [hb.cell (p := ⟨b, i, none⟩) (h.lt (by omega))]; exact h.cell i hi⟩

theorem Sl.of_row {w : World} {b n : Nat} {l : List Int} (hn : l.length ≤ n) (h : w.rowIs b 5 n (fun i => .int .u8 (nth l i))) : Sl w (some ⟨b, 0, none⟩) b l :=
  ⟨fun _ => rfl, fun i hi => h.cell (by omega)⟩

theorem Sl.nil (w : World) (a : Option Addr) (b : Nat) : Sl w a b [] := ⟨fun h => absurd h (by simp), fun i hi => absurd hi (by simp)⟩

/-- A row in the making: its first k cells are l's. -/
def part (l : List Int) (k : Nat) : Nat → Value := fun j => .int .u8 (if j < k then nth l j else 0)

structure Copied (w wr : World) (m k : Nat) (l : List Int) : Prop where
  since : Below w.heap.size w wr
  row : wr.rowIs w.heap.size 5 m (part l k)

theorem copied_start (w : World) (m : Nat) (l : List Int) : Copied w (w.alloc (.cells (madeCells #[.int .u8 0] m) 5)) m 0 l :=
  ⟨(Below.refl _ _).alloc (Nat.le_refl _) _, (World.rowIs_made w _ m 5).congr (fun j _ => by simp [part])⟩

theorem copied_step {w wr : World} {m k : Nat} {l : List Int} (h : Copied w wr m k l) : Copied w (wr.setCell ⟨w.heap.size, k, none⟩ (.int .u8 (nth l k))) m (k + 1) l :=
  ⟨h.since.setCell (Nat.le_refl _) _, (h.row.set k _).congr (fun j _ => by
    simp only [part]
    by_cases e : j = k
    · subst e; simp
    · rw [if_neg e]
      by_cases hlt : j < k
      · rw [if_pos hlt, if_pos (by omega)]
      · rw [if_neg hlt, if_neg (by omega)])⟩

theorem copied_end {w wr : World} {m : Nat} {l : List Int} (h : Copied w wr m m l) (hm : l.length = m) : Sl wr (some ⟨w.heap.size, 0, none⟩) w.heap.size l :=
  Sl.of_row (n := m) (by omega) (h.row.congr (fun j hj => by simp [part, hj]))

set_option maxHeartbeats 800000 in
theorem clone_any (a : Option Addr) (b c : Nat) (l : List Int) (w : World) (hn : l.length ≤ 4194304) (hs : Sl w a b l) :
    Calls Tryd.prog 5 #[.slice a l.length c, ] w fun e w' => ∃ a' c', e = .returned (.slice a' l.length c') ∧ Below w.heap.size w w' ∧ Sl w' a' w.heap.size l := by
  obtain ⟨n, hl⟩ : ∃ n, l.length = n := ⟨_, rfl⟩
  rw [hl] at hn ⊢
  cases a with
  | none =>
    have hl0 : n = 0 := by
      rcases Nat.eq_zero_or_pos n with h | h
      · exact h
      · exact absurd (hs.head (by omega)) (by simp)
    subst hl0
    have hln : l = [] := List.eq_nil_of_length_eq_zero hl
    subst hln
    have hnil : ∀ W, (binOp .eql 22 (.slice none 0 c) (.slice none 0 0)).run Tryd.prog W = .ok (.bool true) W := fun W => Lib.run_eql_slice_nil_nil W 0 c Tryd.underlying22
    go_enter Tryd.func5, Tryd.ntmps5
    go_wp2
    go_ret
    exact ⟨_, _, rfl, Below.refl _ _, Sl.nil _ _ _⟩
  | some p =>
    have hnil : ∀ W, (binOp .eql 22 (.slice (some p) n c) (.slice none 0 0)).run Tryd.prog W = .ok (.bool false) W := fun W => Lib.run_eql_slice_some_nil W p n c Tryd.underlying22
    have hmk := run_make_row' (P := Tryd.prog) 22 5 (.int .u8 0) 1 Tryd.underlying22 Tryd.info5 rfl .i64 .i64 n (by omega) (by omega)
    go_enter Tryd.func5, Tryd.ntmps5
    go_wp2
    clear hmk
    go_loopw [4] (fun i wr => ∃ k : Nat, k ≤ n ∧ i = .int .i64 k ∧ Copied w wr n k l) (fun i _ => n - (intOf i).toNat)
    case atStart => exact ⟨0, Nat.zero_le _, rfl, copied_start w n l⟩
    case round =>
      obtain ⟨k, hk, rfl, hL⟩ := hrel
      by_cases hlt : k < n
      · obtain ⟨hp, hcell⟩ := id hs
        obtain rfl := Option.some.inj (hp (by omega))
        have hb : b < w.heap.size := hs.lt (by omega)
        have hc : wr.cell? ⟨b, k, none⟩ = some (.int .u8 (nth l k)) := by rw [hL.since.cell (p := ⟨b, k, none⟩) hb]; exact hcell k (by omega)
        have hst1 : wr.cell? ⟨w.heap.size, k, none⟩ = some (part l k k) := hL.row.cell (by omega)
        have hst2 : wr.frozen? ⟨w.heap.size, k, none⟩ = false := hL.row.frozen k
        clear hp hcell
        go_wp2
        go_roundw
        case rel => exact ⟨k + 1, by omega, by go_num, copied_step hL⟩
        case measure => simp [intOf]; omega
      · obtain rfl : k = n := by omega
        go_wp2
        go_ret
        exact ⟨_, _, rfl, hL.since, copied_end hL hl⟩

theorem nonEmpty_any (a : Option Addr) (n c : Nat) (w : World) (hn : n ≤ 4194304) :
    Calls Tryd.prog 7 #[.slice a n c] w fun e w' => e = .returned (.int .i64 (if 0 < n then 1 else 0 : Nat)) ∧ w = w' := by
  by_cases h : 0 < n
  · rw [if_pos h]
    go_enter Tryd.func7, Tryd.ntmps7
    go_wp2
    go_ret
    exact ⟨rfl, rfl⟩
  · rw [if_neg h]
    obtain rfl : n = 0 := by omega
    go_enter Tryd.func7, Tryd.ntmps7
    go_wp2
    go_ret
    exact ⟨rfl, rfl⟩

theorem bytes4_any (a : Option Addr) (n c : Nat) (a' : Option Addr) (n' c' : Nat) (w : World) (hm : n ≤ maxLen) (hm' : n' ≤ maxLen) :
    Calls Tryd.prog 4 #[.slice a n c, .slice a' n' c'] w fun e w' => e = .returned (.bool (decide (n + n' ≤ 1048576))) ∧ w = w' := by
  unfold maxLen at hm hm'
  by_cases h : n + n' ≤ 1048576
  · have h1 : decide (n + n' ≤ 1048576) = true := by simpa using h
    rw [h1]
    go_enter Tryd.func4, Tryd.ntmps4
    go_wp2
    go_ret
    exact ⟨rfl, rfl⟩
  · have h1 : decide (n + n' ≤ 1048576) = false := by simpa using h
    rw [h1]
    by_cases h2 : n ≤ 1048576
    · by_cases h3 : n' ≤ 1048576
      · go_enter Tryd.func4, Tryd.ntmps4
        go_wp2
        go_ret
        exact ⟨rfl, rfl⟩
      · go_enter Tryd.func4, Tryd.ntmps4
        go_wp2
        go_ret
        exact ⟨rfl, rfl⟩
    · go_enter Tryd.func4, Tryd.ntmps4
      go_wp2
      go_ret
      exact ⟨rfl, rfl⟩

theorem hexDigit_num (k : Nat) (w : World) (h : k < 10) :
    Calls Tryd.prog 17 #[.int .u8 (48 + k : Nat)] w fun e w' => e = .returned (.int .i64 k) ∧ w = w' := by
  have hk : k = 0 ∨ k = 1 ∨ k = 2 ∨ k = 3 ∨ k = 4 ∨ k = 5 ∨ k = 6 ∨ k = 7 ∨ k = 8 ∨ k = 9 := by omega
  rcases hk with rfl | rfl | rfl | rfl | rfl | rfl | rfl | rfl | rfl | rfl <;>
  · go_enter Tryd.func17, Tryd.ntmps17
    go_wp2
    go_ret
    exact ⟨rfl, rfl⟩

theorem hexDigit_let (k : Nat) (w : World) (h : k < 6) :
    Calls Tryd.prog 17 #[.int .u8 (97 + k : Nat)] w fun e w' => e = .returned (.int .i64 (10 + k : Nat)) ∧ w = w' := by
  have hk : k = 0 ∨ k = 1 ∨ k = 2 ∨ k = 3 ∨ k = 4 ∨ k = 5 := by omega
  rcases hk with rfl | rfl | rfl | rfl | rfl | rfl <;>
  · go_enter Tryd.func17, Tryd.ntmps17
    go_wp2
    go_ret
    exact ⟨rfl, rfl⟩

theorem hexDigit_cr (w : World) : Calls Tryd.prog 17 #[.int .u8 13] w fun e w' => e = .returned (.int .i64 (-1)) ∧ w = w' := by
  go_enter Tryd.func17, Tryd.ntmps17
  go_wp2
  go_ret
  exact ⟨rfl, rfl⟩

set_option maxHeartbeats 800000 in
theorem eq_any (a : Option Addr) (b c : Nat) (a' : Option Addr) (b' c' : Nat) (l : List Int) (w : World) (hn : l.length ≤ 4194304) (hs : Sl w a b l) (hs' : Sl w a' b' l) :
    Calls Tryd.prog 11 #[.slice a l.length c, .slice a' l.length c'] w fun e w' => e = .returned (.bool true) ∧ Below w.heap.size w w' := by
  obtain ⟨n, hl⟩ : ∃ n, l.length = n := ⟨_, rfl⟩
  rw [hl] at hn ⊢
  go_enter Tryd.func11, Tryd.ntmps11
  go_wp2
  go_loopw [5] (fun i wr => ∃ k : Nat, k ≤ n ∧ i = .int .i64 k ∧ Below w.heap.size w wr) (fun i _ => n - (intOf i).toNat)
  case atStart => exact ⟨0, Nat.zero_le _, rfl, Below.refl _ _⟩
  case round =>
    obtain ⟨k, hk, rfl, hL⟩ := hrel
    by_cases hlt : k < n
    · obtain rfl := hs.head (by omega)
      obtain rfl := hs'.head (by omega)
      have hc := (hs.cell k (by omega)).symm
      rw [← hL.cell (p := ⟨b, k, none⟩) (hs.lt (by omega))] at hc
      have hc' := (hs'.cell k (by omega)).symm
      rw [← hL.cell (p := ⟨b', k, none⟩) (hs'.lt (by omega))] at hc'
      replace hc := hc.symm
      replace hc' := hc'.symm
      go_wp2_with fail
      go_quiet (fail)
      go_wp2
      go_roundw
      case rel => exact ⟨k + 1, by omega, by go_num, below_drewN hL nq⟩
      case measure => simp [intOf]; omega
    · obtain rfl : k = n := by omega
      go_wp2
      go_ret
      exact ⟨rfl, hL⟩

set_option maxHeartbeats 1600000 in
theorem cat_any (a : Option Addr) (b c : Nat) (a' : Option Addr) (b' c' : Nat) (l l' : List Int) (w : World) (hn : l.length ≤ 4194304) (hn' : l'.length ≤ 4194304) (hs : Sl w a b l) (hs' : Sl w a' b' l') :
    Calls Tryd.prog 6 #[.slice a l.length c, .slice a' l'.length c'] w fun e w' => e = .returned (.slice (some ⟨w.heap.size, 0, none⟩) (l ++ l').length (l ++ l').length) ∧ Below w.heap.size w w' ∧ Sl w' (some ⟨w.heap.size, 0, none⟩) w.heap.size (l ++ l') := by
  obtain ⟨n, hl⟩ : ∃ n, l.length = n := ⟨_, rfl⟩
  obtain ⟨m, hl'⟩ : ∃ m, l'.length = m := ⟨_, rfl⟩
  rw [List.length_append, hl, hl']
  rw [hl] at hn
  rw [hl'] at hn'
  have hmk := run_make_row' (P := Tryd.prog) 22 5 (.int .u8 0) 1 Tryd.underlying22 Tryd.info5 rfl .i64 .i64 (n + m) (by omega) (by omega)
  rw [show ((n + m : Nat) : Int) = (n : Int) + m by omega] at hmk
  go_enter Tryd.func6, Tryd.ntmps6
  go_wp2
  clear hmk
  go_loopw [6] (fun i wr => ∃ k : Nat, k ≤ n ∧ i = .int .i64 k ∧ Copied w wr (n + m) k (l ++ l')) (fun i _ => n - (intOf i).toNat)
  case atStart => exact ⟨0, Nat.zero_le _, rfl, copied_start w (n + m) (l ++ l')⟩
  case round =>
    obtain ⟨k, hk, rfl, hL⟩ := hrel
    by_cases hlt : k < n
    · obtain rfl := hs.head (by omega)
      have hc : wr.cell? ⟨b, k, none⟩ = some (.int .u8 (nth (l ++ l') k)) := by rw [hL.since.cell (p := ⟨b, k, none⟩) (hs.lt (by omega)), nth_left (by omega)]; exact hs.cell k (by omega)
      have hst1 : wr.cell? ⟨w.heap.size, k, none⟩ = some (part (l ++ l') k k) := hL.row.cell (by omega)
      have hst2 : wr.frozen? ⟨w.heap.size, k, none⟩ = false := hL.row.frozen k
      go_wp2
      go_roundw
      case rel => exact ⟨k + 1, by omega, by go_num, copied_step hL⟩
      case measure => simp [intOf]; omega
    · obtain rfl : k = n := by omega
      go_wp2
      go_loopw [7] (fun i wr => ∃ j : Nat, j ≤ m ∧ i = .int .i64 j ∧ Copied w wr (k + m) (k + j) (l ++ l')) (fun i _ => m - (intOf i).toNat)
      case atStart => exact ⟨0, Nat.zero_le _, rfl, hL⟩
      case round =>
        clear hL
        obtain ⟨j, hj, rfl, hL⟩ := hrel
        by_cases hlt : j < m
        · obtain rfl := hs'.head (by omega)
          have hc : wr.cell? ⟨b', j, none⟩ = some (.int .u8 (nth (l ++ l') (k + j))) := by
            rw [hL.since.cell (p := ⟨b', j, none⟩) (hs'.lt (by omega)), nth_right (by omega), show k + j - l.length = j by omega]
            exact hs'.cell j (by omega)
          have hst1 : wr.cell? ⟨w.heap.size, k + j, none⟩ = some (part (l ++ l') (k + j) (k + j)) := hL.row.cell (by omega)
          have hst2 : wr.frozen? ⟨w.heap.size, k + j, none⟩ = false := hL.row.frozen _
          go_wp2
          go_roundw
          case rel => exact ⟨j + 1, by omega, by go_num, copied_step hL⟩
          case measure => simp [intOf]; omega
        · obtain rfl : j = m := by omega
          go_wp2
          go_ret
          exact ⟨rfl, hL.since, copied_end hL (by rw [List.length_append, hl, hl'])⟩
end Go.Proofs.Qxb6616852aDoor
