/-
  THE WALK OF walkChain (function 9).
-/
import Derived.Test.Qxb6618315aBuild
import Derived.LaidEqlPtr
namespace Go.Proofs.Qxb6618315a
open Go.RowKit Go.Deep

theorem Try.row42 : (Try.prog.info? 42).map (·.size) = some 2 := by kernel_rfl

/-- '==', '!=' between two pointers to sets: one and the same. -/
theorem eql_same (a : Addr) (w : World) : (binOp .eql 26 (.pointer (some a)) (.pointer (some a))).run Try.prog w = .ok (.bool true) w := by
  obtain ⟨j, hj, _⟩ := Option.map_eq_some_iff.1 Try.row42
  exact run_eql_ptr_same w a Try.underlying26 hj
theorem neq_same (a : Addr) (w : World) : (binOp .neq 26 (.pointer (some a)) (.pointer (some a))).run Try.prog w = .ok (.bool false) w := by
  obtain ⟨j, hj, _⟩ := Option.map_eq_some_iff.1 Try.row42
  have h := run_eql_ptr_same w a Try.underlying26 hj
  simp only [binOp] at h ⊢
  simp only [Sem.run_bind] at h ⊢
  cases hq : (Op.equal 26 (.pointer (some a)) (.pointer (some a))).run Try.prog w with
  | ok r w' =>
    rw [hq] at h
    simp at h ⊢
    obtain ⟨rfl, rfl⟩ := h
    simp
  | halt x w' =>
    rw [hq] at h
    simp [Result.andThen] at h

/-- How many children the deepest set has. -/
def Leaf (w : World) (last : Option Nat) (lc : Nat) : Prop := (last = none ∧ lc = 0) ∨ ∃ m L, last = some m ∧ kids w m L ∧ lc = L.length

theorem numChildren_leaf {t : Nat} {last : Option Nat} {lc : Nat} (w : World) (h : w.heap[t]? = some (setCells last)) (hl : Leaf w last lc) :
    Calls Try.prog 16 #[.pointer (some ⟨t, 0, none⟩)] w fun e w' => e = .returned (.int .i64 lc) ∧ w = w' := by
  rcases hl with ⟨rfl, rfl⟩ | ⟨m, L, rfl, hk, rfl⟩
  · exact numChildren_none t w h
  · exact numChildren_some t m L w h hk

theorem Leaf.same {w w' : World} {last : Option Nat} {lc : Nat} (h : Leaf w last lc) (ho : Only [] w w') : Leaf w' last lc := by
  rcases h with h | ⟨m, L, h1, h2, h3⟩
  · exact .inl h
  · exact .inr ⟨m, L, h1, h2.of_block (ho.block _ h2.lt (by simp)), h3⟩

set_option maxHeartbeats 800000 in
theorem walk_any (g : Ground) (hfit : g.Fits) (a : Option Addr) (b off c d lc : Nat) (T M : Nat → Nat) (last : Option Nat) (w : World) (hn : g.n ≤ 4096)
    (hp : PathIs g.w0 a b off g.n (fun i => g.F (i + 1)) (fun i => g.G (i + 1)) (fun i => g.H (i + 1))) (hC : Chain g d d T M last w) (hl : Leaf w last lc) :
    Calls Try.prog 9 #[.pointer (some ⟨T 0, 0, none⟩), .slice (some ⟨g.C, 0, none⟩) (g.n + 1) (g.n + 1), .slice a g.n c, .int .i64 d, .int .i64 lc] w fun e w' =>
      e = .returned (.pointer (some ⟨T d, 0, none⟩)) ∧ Only [] w w' := by
  have hdn := hC.dn
  have HP : Hid _ := hp
  have HL : Hid _ := hl
  clear hp hl
  have hsm := neq_same
  go_enter Try.func9, Try.ntmps9
  go_wp2_with fail
  go_loopw [11, 12] (fun s i wr => ∃ k : Nat, k ≤ d ∧ i = .int .i64 k ∧ s = .pointer (some ⟨T k, 0, none⟩) ∧ Only [] w wr) (fun _ i _ => d - (intOf i).toNat)
  case atStart => exact ⟨0, Nat.zero_le _, rfl, rfl, Only.refl _ _⟩
  case round =>
    obtain ⟨k, hk, rfl, rfl, hO⟩ := hrel
    have hC' := hC.same hO
    have hrw : wr.cell? ⟨g.C, k, none⟩ = some (.pointer (some ⟨g.K k, 0, none⟩)) := hC'.row.cell (by omega)
    have hz0 : (0 : Int) ≤ (k : Int) := by omega
    have hz1 : (k : Int) < (g.n : Int) + 1 := by omega
    have hcu := hC'.cur k (by omega)
    rw [if_pos hk] at hcu
    by_cases hlt : k < d
    · have hs := hC'.set k (by omega)
      rw [if_pos hlt] at hs
      have hkid := hC'.kid k hlt
      obtain ⟨h1, h2⟩ := HP.out
      obtain rfl := h1 (by omega)
      obtain ⟨p0, p1, p2⟩ := h2 k (by omega)
      have hbl : b < g.w0.heap.size := World.block_lt_of_cell? _ _ p0
      have q0 : ∀ o, wr.cell? ⟨b, o, none⟩ = g.w0.cell? ⟨b, o, none⟩ := fun o => World.cell?_of_block (w := g.w0) (hC'.below.block b hbl)
      rw [← q0] at p0 p1 p2
      clear h1 h2 q0
      have hz2 : (k : Int) < (g.n : Int) := by omega
      have HS : Hid _ := hs
      have HU : Hid _ := hcu
      clear hs hcu
      go_wp2_with fail
      refine (curSet_any _ _ _ _ _ _ _ HU.out).mono ?_
      rintro e w1 ⟨rfl, rfl⟩
      go_wp2_with fail
      refine (numMembers_any _ _ _ HS.out).mono ?_
      rintro e w2 ⟨rfl, rfl⟩
      go_wp2_with fail
      refine (numChildren_some _ _ _ _ HS.out hkid).mono ?_
      rintro e w3 ⟨rfl, rfl⟩
      go_wp2_with fail
      refine (stepElem_any _ _ _ _).mono ?_
      rintro e w4 ⟨rfl, hw4⟩
      have hO4 : Only [] wr w4 := by rw [← hw4]; exact ((Only.refl _ _).alloc _).alloc _
      clear hw4
      have hC4 := hC'.same hO4
      have hs4 := hC4.set k (by omega)
      rw [if_pos hlt] at hs4
      have hk4 := hC4.kid k hlt
      obtain ⟨f1, f2, f3⟩ := hfit (k + 1)
      have HS4 : Hid _ := hs4
      clear hs4 hC4 p0 p1 p2
      go_wp2_with fail
      refine (child_any _ _ _ _ _ _ _ _ f1 f2 f3 HS4.out hk4 (List.mem_singleton.2 rfl)).mono ?_
      rintro e w5 ⟨rfl, hO5⟩
      go_wp2_with fail
      go_roundw
      case rel => exact ⟨k + 1, by omega, by go_num, rfl, (hO.trans hO4 (by simp)).trans hO5 (by simp)⟩
      case measure => simp [intOf]; omega
    · obtain rfl : k = d := by omega
      have hs := hC'.set k (Nat.le_refl _)
      rw [if_neg (Nat.lt_irrefl _)] at hs
      have hl' := Leaf.same HL.out hO
      have HS : Hid _ := hs
      have HU : Hid _ := hcu
      have HL' : Hid _ := hl'
      clear hs hcu hl'
      go_wp2_with fail
      refine (curSet_any _ _ _ _ _ _ _ HU.out).mono ?_
      rintro e w1 ⟨rfl, rfl⟩
      go_wp2_with fail
      refine (numMembers_any _ _ _ HS.out).mono ?_
      rintro e w2 ⟨rfl, rfl⟩
      go_wp2_with fail
      refine (numChildren_leaf _ HS.out HL'.out).mono ?_
      rintro e w3 ⟨rfl, rfl⟩
      go_wp2_with fail
      go_ret
      exact ⟨rfl, hO⟩
end Go.Proofs.Qxb6618315a
