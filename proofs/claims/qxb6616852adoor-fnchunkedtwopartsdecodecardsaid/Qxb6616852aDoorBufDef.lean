/-
  A bytes.Buffer IN BLOCK b WHOSE ROW LIES FROM M ON (b ITSELF BELOW M): ITS FRAME THAT KEEPS EVERY BLOCK BELOW M BUT b.
-/
import Derived.Test.Qxb6616852aDoorShelf
import Derived.Test.Qxb6616852aDoorSmall
import Derived.Shelf.RegionOpenPlain
import Derived.Lib.Buffer
import Derived.Lib.BufferMore
import Derived.Lib.BufferGrow
import Derived.Lib.BufferOwn
import Derived.Lib.BufferWrite
import Derived.Lib.BufferSrc
import Derived.Lib.Hide
import Derived.Laws.MakeOwn
import Derived.Laws.IdiomCopy
import Derived.WalkKit
import Derived.RegionTactic
import Derived.Deep.RegionWith
import Derived.Deep.Draws
import Derived.BigCall
import Derived.BigGuard
namespace Go.Proofs.Qxb6616852aDoor
open Go.RowKit Go.Deep

/-- Every block below M but b is as it was. -/
structure But (M b : Nat) (w w' : World) : Prop where
  os : w'.os = w.os
  tape : w'.tape = w.tape
  output : w'.output = w.output
  size : w.heap.size ≤ w'.heap.size
  block : ∀ k, k < M → k ≠ b → w'.heap[k]? = w.heap[k]?

theorem But.refl (M b : Nat) (w : World) : But M b w w := ⟨rfl, rfl, rfl, Nat.le_refl _, fun _ _ _ => rfl⟩
theorem But.trans {M b : Nat} {u v w : World} (h : But M b u v) (k : But M b v w) : But M b u w :=
  ⟨k.os.trans h.os, k.tape.trans h.tape, k.output.trans h.output, Nat.le_trans h.size k.size, fun i hi hb => (k.block i hi hb).trans (h.block i hi hb)⟩
theorem But.setB {M b : Nat} {u v : World} (h : But M b u v) (i : Nat) (x : Value) : But M b u (v.setCell ⟨b, i, none⟩ x) :=
  h.trans ⟨rfl, rfl, rfl, by simp [World.setCell], fun k _ hk => Below.heap_setCell _ _ _ _ hk⟩
theorem But.setRow {M b g : Nat} {u v : World} (h : But M b u v) (hg : M ≤ g) (cs : Array Value) : But M b u (v.setRow g cs) :=
  h.trans ⟨rfl, rfl, rfl, by simp, fun k hk _ => setRow_other _ _ _ _ (by omega)⟩
theorem But.alloc {M b : Nat} {u v : World} (h : But M b u v) (hM : M ≤ v.heap.size) (o : Obj) : But M b u (v.alloc o) :=
  h.trans ⟨rfl, rfl, rfl, by simp, fun k hk _ => Below.heap_alloc v o k (by omega)⟩
theorem But.below {M b : Nat} {u v w : World} (h : But M b u v) (k : Below M v w) : But M b u w :=
  h.trans ⟨k.os, k.tape, k.output, k.size, fun i hi _ => k.block i hi⟩
theorem But.drewN {M b : Nat} {u v : World} (h : But M b u v) (n : Nat) : But M b u (v.drewN n) := ⟨h.1, h.2, h.3, h.4, h.5⟩
theorem But.cell {M b : Nat} {u v : World} (h : But M b u v) {p : Addr} (hp : p.block < M) (hb : p.block ≠ b) : v.cell? p = u.cell? p :=
  World.cell?_of_block (h.block _ hp hb)

/-- The buffer with n places more than bs. -/
def Room (M b : Nat) (bs : List Value) (n : Nat) (w : World) : Prop :=
  ∃ g cap cur lr, w.heap[b]? = some (.cells #[.slice (some ⟨g, 0, none⟩) (bs.length + n) cap, .int .i64 0, .int .i8 lr] 39 (0, 0)) ∧ M ≤ g ∧ w.heap[g]? = some (.cells cur 5 (0, 0)) ∧
    bs.length + n ≤ cap ∧ cap ≤ 9223372036854775807 ∧ cur.size = cap ∧ cur.toList.take bs.length = bs

def Buf (M b : Nat) (bs : List Value) (w : World) : Prop :=
  b < M ∧ ((bs = [] ∧ ∃ lr, w.heap[b]? = some (.cells #[.slice none 0 0, .int .i64 0, .int .i8 lr] 39 (0, 0))) ∨ (0 < bs.length ∧ Room M b bs 0 w))

theorem Buf.isBuffer {M b : Nat} {bs : List Value} {w : World} (h : Buf M b bs w) : Lib.IsBuffer 39 5 0 b bs w := by
  obtain ⟨hb, ⟨rfl, lr, hbk⟩ | ⟨hl, g, cap, cur, lr, hbk, hg, hgr, hc, hcm, hcs, htk⟩⟩ := h
  · exact ⟨Nat.zero_le _, _, _, hbk, World.ownsRow_nil _ _ _ _, by simp [Value.ownBlock]⟩
  · have hgb : g ≠ b := by omega
    exact ⟨Nat.zero_le _, _, _, hbk, ⟨by rw [Nat.mul_one], .inr ⟨g, cap, cur, rfl, Nat.zero_le _, hgr, hc, by unfold maxLen; omega, by omega, by rw [Nat.mul_one]; exact htk⟩⟩, by simp [Value.ownBlock]; exact hgb⟩

end Go.Proofs.Qxb6616852aDoor
