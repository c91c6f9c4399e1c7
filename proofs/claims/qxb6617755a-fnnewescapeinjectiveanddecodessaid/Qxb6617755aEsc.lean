/-
  THE WALKS OF newEscape (function 7) and ZZnewEscape (function 5).
-/
import Derived.Test.Qxb6617755aChecked
import Derived.WalkKit
import Derived.WalkSpells
import Derived.Lib.LazyBuf
namespace Go.Proofs.Qxb6617755a
open Go.RowKit

/-- Byte i of a text, 0 behind its end. -/
def byteAt (s : ByteArray) (i : Nat) : Int := ((s.data.toList.getD i 0).toNat : Int)

theorem byteAt_bd (s : ByteArray) (i : Nat) : 0 ≤ byteAt s i ∧ byteAt s i ≤ 255 := by
  unfold byteAt
  have := (s.data.toList.getD i 0).toNat_lt
  omega

theorem Try.size5 (w : World) : (Go.sizeOf 5).run Try.prog w = .ok 1 w := by kernel_rfl

def z8 : Array Value := #[.int .u8 0, .int .u8 0, .int .u8 0, .int .u8 0, .int .u8 0, .int .u8 0, .int .u8 0, .int .u8 0]
def c8 (s : ByteArray) (m : Int) : Array Value := #[.int .u8 (byteAt s 0), .int .u8 (byteAt s 1), .int .u8 (byteAt s 2), .int .u8 (byteAt s 3), .int .u8 (byteAt s 4), .int .u8 (byteAt s 5), .int .u8 0, .int .u8 m]

theorem sets (w : World) (s : ByteArray) (hs : s.size ≤ 6) :
    (w.alloc (.cells z8 26)).setCells w.heap.size 0 (s.data.toList.map fun x => Value.int .u8 (x.toNat : Int)) = w.alloc (.cells (c8 s 0) 26) := by
  have hl : s.data.toList.length ≤ 6 := by simpa using hs
  unfold c8 byteAt
  generalize s.data.toList = l at hl
  match l, hl with
  | [], _ => rfl
  | [a], _ => simp [World.setCells, World.setCell_alloc_at, z8]
  | [a, b], _ => simp [World.setCells, World.setCell_alloc_at, z8]
  | [a, b, c], _ => simp [World.setCells, World.setCell_alloc_at, z8]
  | [a, b, c, d], _ => simp [World.setCells, World.setCell_alloc_at, z8]
  | [a, b, c, d, e], _ => simp [World.setCells, World.setCell_alloc_at, z8]
  | [a, b, c, d, e, f], _ => simp [World.setCells, World.setCell_alloc_at, z8]
  | _ :: _ :: _ :: _ :: _ :: _ :: _ :: l, h => simp at h

theorem copy_run (w : World) (s : ByteArray) (hs : s.size ≤ 6) :
    (Builtin.copy_ #[28, 9] 3 #[.slice (some ⟨w.heap.size, 0, none⟩) 6 8, .string s]).run Try.prog (w.alloc (.cells z8 26)) = .ok (.int .i64 s.size) (w.alloc (.cells (c8 s 0) 26)) := by
  have h := run_copy_string (P := Try.prog) (w.alloc (.cells z8 26)) 28 9 3 5 w.heap.size 0 6 8 s Try.underlying28 Try.size5 hs
    (fun j hj => by
      rw [Nat.zero_add, World.cell?_alloc_at _ _ _ _ rfl]
      have : j < z8.size := by show j < 8; omega
      simp [this])
    (fun j hj => World.frozen?_alloc_at _ _ _ _ rfl)
  rw [sets w s hs] at h
  exact h

set_option maxHeartbeats 400000 in
theorem esc_any (s : ByteArray) (w : World) (hs : s.size ≤ 6) :
    Calls Try.prog 7 #[.string s] w fun e w' => e = .returned (.agg (c8 s s.size)) ∧ w' = (w.alloc (.cells (c8 s s.size) 26)).alloc (.cells (c8 s s.size) 26) := by
  have hcp := copy_run (w.alloc (.cells z8 26)) s hs
  rw [World.size_alloc] at hcp
  have b0 := byteAt_bd s 0
  unfold c8 z8 at hcp
  unfold c8
  generalize byteAt s 0 = y0 at *
  generalize byteAt s 1 = y1 at *
  generalize byteAt s 2 = y2 at *
  generalize byteAt s 3 = y3 at *
  generalize byteAt s 4 = y4 at *
  generalize byteAt s 5 = y5 at *
  go_enter Try.func7, Try.ntmps7
  go_wp2_with fail
  exact bodyPost_ret (v := .agg #[.int .u8 y0, .int .u8 y1, .int .u8 y2, .int .u8 y3, .int .u8 y4, .int .u8 y5, .int .u8 0, .int .u8 s.size]) (by simp [results, Try.results7, go_sem]) rfl ⟨rfl, rfl⟩

set_option maxHeartbeats 400000 in
theorem zz_any (s : ByteArray) (w : World) (hs : s.size ≤ 6) :
    Calls Try.prog 5 #[.string s] w fun e w' => e = .returned (.agg (c8 s s.size)) ∧ ∃ o1 o2 o3, w' = ((w.alloc o1).alloc o2).alloc o3 := by
  have hc := fun w => esc_any s w hs
  unfold c8 at hc ⊢
  generalize byteAt s 0 = y0 at *
  generalize byteAt s 1 = y1 at *
  generalize byteAt s 2 = y2 at *
  generalize byteAt s 3 = y3 at *
  generalize byteAt s 4 = y4 at *
  generalize byteAt s 5 = y5 at *
  have HC : Hid _ := hc
  clear hc
  go_enter Try.func5, Try.ntmps5
  go_wp2_with fail
  refine (HC.out _).mono ?_
  rintro e w' ⟨rfl, rfl⟩
  go_wp2_with fail
  exact bodyPost_ret (v := .agg #[.int .u8 y0, .int .u8 y1, .int .u8 y2, .int .u8 y3, .int .u8 y4, .int .u8 y5, .int .u8 0, .int .u8 s.size]) (by simp [results, Try.results5, go_sem]) rfl ⟨rfl, _, _, _, rfl⟩
end Go.Proofs.Qxb6617755a
