/-
  THE WALK OF zzBytes_FnMadeSiblingsShareExactlyWhenEqual (function 11): it returns a bool and turns nothing that was there.
-/
import Derived.Test.Qxb6618315aSib
namespace Go.Proofs.Qxb6618315a
open Go.RowKit Go.Deep

theorem path_alloc' {w : World} {a : Option Addr} {b off n : Nat} {F G H : Nat → ByteArray} (h : PathIs w a b off n F G H) (o : Obj) : PathIs (w.alloc o) a b off n F G H :=
  ⟨h.1, fun i hi => by
    obtain ⟨h0, h1, h2⟩ := h.2 i hi
    have hb : b < w.heap.size := World.block_lt_of_cell? _ _ h0
    exact ⟨by rw [World.cell?_alloc_lt _ _ _ hb]; exact h0, by rw [World.cell?_alloc_lt _ _ _ hb]; exact h1, by rw [World.cell?_alloc_lt _ _ _ hb]; exact h2⟩⟩

set_option maxRecDepth 100000 in
set_option maxHeartbeats 3200000 in
theorem bytes11_any (a : Option Addr) (b off n c : Nat) (F G H : Nat → ByteArray) (x y : El) (w : World) (hm : n ≤ maxLen) (hp : PathIs w a b off n F G H)
    (hs : ∀ i, (F i).size ≤ maxLen ∧ (G i).size ≤ maxLen ∧ (H i).size ≤ maxLen) (hx : x.Fits) (hy : y.Fits) :
    Calls Try.prog 11 #[.slice a n c, .agg #[.string x.f, .string x.k, .string x.v], .agg #[.string y.f, .string y.k, .string y.v]] w fun e w' => SomeBool e ∧ Only [] w w' := by
  obtain ⟨x0, x1, x2⟩ := hx
  obtain ⟨y0, y1, y2⟩ := hy
  unfold maxLen at hm hs x0 x1 x2 y0 y1 y2
  have HO : Hid (Only [] w ((w.alloc (.cells #[.string x.f, .string x.k, .string x.v] 25)).alloc (.cells #[.string y.f, .string y.k, .string y.v] 25))) := ((Only.refl _ _).alloc _).alloc _
  by_cases h1 : n ≤ 1048576
  · have HP : Hid _ := path_alloc' (path_alloc' hp (.cells #[.string x.f, .string x.k, .string x.v] 25)) (.cells #[.string y.f, .string y.k, .string y.v] 25)
    have HS : Hid _ := hs
    clear hp hs
    go_enter Try.func11, Try.ntmps11
    go_wp2_with fail
    go_loop [7, 8] (fun z i => ∃ (t s : Nat), t ≤ n ∧ s ≤ 1048576 ∧ i = .int .i64 t ∧ z = .int .i64 s) (fun _ i => n - (intOf i).toNat)
    case atStart => exact ⟨0, n, Nat.zero_le _, h1, rfl, rfl⟩
    case round =>
      obtain ⟨t, s, ht, hs, rfl, rfl⟩ := hrel
      by_cases hlt : t < n
      · obtain ⟨q1, q2⟩ := HP.out
        obtain rfl := q1 (by omega)
        obtain ⟨p0, p1, p2⟩ := q2 t hlt
        obtain ⟨s0, s1, s2⟩ := HS.out t
        clear q1 q2
        have hz2 : (t : Int) < (n : Int) := by omega
        go_wp2_with fail
        all_goals first
          | (go_ret; exact ⟨someBool _, HO.out⟩)
          | skip
        go_round
        case rel => exact ⟨t + 1, s + (F t).size + (G t).size + (H t).size, by omega, by omega, by go_num, by go_num⟩
        case measure => simp [intOf]; omega
      · go_wp2_with fail
        all_goals (go_ret; exact ⟨someBool _, HO.out⟩)
  · go_enter Try.func11, Try.ntmps11
    go_wp2_with fail
    go_ret
    exact ⟨someBool _, HO.out⟩
end Go.Proofs.Qxb6618315a
