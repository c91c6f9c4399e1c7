/-
  THE WALK OF zzHolds (function 6).
-/
import Derived.Test.Qxb6617755aEsc
import Derived.Deep.QuietTactic
import Derived.BigQuiet
namespace Go.Proofs.Qxb6617755a
open Go.RowKit

theorem byteAt_in (x : ByteArray) (k : Nat) (h : k < x.size) : byteAt x k = (x[k].toNat : Int) := by
  unfold byteAt
  have h' : k < x.data.toList.length := by simpa using h
  rw [List.getD_eq_getElem?_getD, List.getElem?_eq_getElem h']
  rfl

theorem byteAt_out (x : ByteArray) (k : Nat) (h : x.size ≤ k) : byteAt x k = 0 := by
  unfold byteAt
  have h' : x.data.toList.length ≤ k := by simpa using h
  rw [List.getD_eq_getElem?_getD, List.getElem?_eq_none h']
  rfl

/-- What the loop reads. -/
structure Box (w wr : World) (x : ByteArray) : Prop where
  below : Below w.heap.size w wr
  cell : ∀ j, j < 7 → wr.cell? ⟨w.heap.size, j, none⟩ = some (.int .u8 (byteAt x j))

theorem Box.drewN {w wr : World} {x : ByteArray} (h : Box w wr x) (n : Nat) : Box w (wr.drewN n) x :=
  ⟨⟨h.below.os, h.below.tape, h.below.output, h.below.size, h.below.block⟩, h.cell⟩

theorem box_start (w : World) (x : ByteArray) (hx : x.size ≤ 6) : Box w (w.alloc (.cells (c8 x x.size) 23)) x := by
  refine ⟨(Below.refl _ _).alloc (Nat.le_refl _) _, fun j hj => ?_⟩
  rw [World.cell?_alloc_at _ _ _ _ rfl]
  match j, hj with
  | 0, _ => rfl
  | 1, _ => rfl
  | 2, _ => rfl
  | 3, _ => rfl
  | 4, _ => rfl
  | 5, _ => rfl
  | 6, _ => rw [byteAt_out x 6 hx]; rfl
  | j + 7, h => omega

set_option maxHeartbeats 800000 in
theorem holds_any (x : ByteArray) (w : World) (hx : x.size ≤ 6) :
    Calls Try.prog 6 #[.agg (c8 x x.size), .string x] w fun e w' => e = .returned (.bool true) ∧ Below w.heap.size w w' := by
  have hbox := box_start w x hx
  unfold c8 at hbox ⊢
  have HB : Hid _ := hbox
  clear hbox
  go_enter Try.func6, Try.ntmps6
  go_wp2_with fail
  go_loopw [5] (fun i wr => ∃ k : Nat, k ≤ 7 ∧ i = .int .i64 k ∧ Box w wr x) (fun i _ => 7 - (intOf i).toNat)
  case atStart => exact ⟨0, Nat.zero_le _, rfl, HB.out⟩
  case round =>
    obtain ⟨k, hk, rfl, hb⟩ := hrel
    by_cases hlt : k < 7
    · have hc := hb.cell k hlt
      by_cases hin : k < x.size
      · rw [byteAt_in x k hin] at hc
        have hlt' : (k : Int) < 7 := by omega
        go_wp2_with fail
        go_quiet (fail)
        go_wp2_with fail
        go_roundw
        case rel => exact ⟨k + 1, by omega, by go_num, hb.drewN nq⟩
        case measure => simp [intOf]; omega
      · rw [byteAt_out x k (by omega)] at hc
        go_wp2_with fail
        go_roundw
        case rel => exact ⟨k + 1, by omega, by go_num, hb⟩
        case measure => simp [intOf]; omega
    · go_wp2_with fail
      go_ret
      exact ⟨rfl, hb.below⟩
end Go.Proofs.Qxb6617755a
