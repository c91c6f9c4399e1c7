/-
  THE WALK OF FnMadeSiblingsShareExactlyWhenEqual (function 4).
-/
import Derived.Test.Qxb6618315aLawA
import Derived.Test.Qxb6618315aBytesB
import Derived.Test.Qxb6618315aEq
namespace Go.Proofs.Qxb6618315a
open Go.RowKit Go.Deep

theorem made8_of (c : Nat) (Q : Nat → World → Prop) (w : World) (h : Calls Try.prog 17 #[.pointer (some ⟨c, 0, none⟩)] w fun e w' => ∃ t, e = .returned (.pointer (some ⟨t, 0, none⟩)) ∧ Q t w') :
    Calls Try.prog 8 #[.pointer (some ⟨c, 0, none⟩)] w fun e w' => ∃ t, e = .returned (.pointer (some ⟨t, 0, none⟩)) ∧ Q t w' := by
  have HM : Hid _ := h
  clear h
  go_enter Try.func8, Try.ntmps8
  go_wp2_with fail
  refine Calls.mono (show Calls Try.prog 17 _ _ _ from HM.out) ?_
  rintro e w1 ⟨t, rfl, h2⟩
  go_wp2_with fail
  go_ret
  exact ⟨t, rfl, h2⟩

/-- The box of a Step that came in by value. -/
def boxOf (x : El) : Obj := .cells #[.string x.f, .string x.k, .string x.v] 25 (0, 0)
theorem box_cells {w : World} {b : Nat} {x : El} (h : w.heap[b]? = some (boxOf x)) : w.cell? ⟨b, 0, none⟩ = some (.string x.f) ∧ w.cell? ⟨b, 1, none⟩ = some (.string x.k) ∧ w.cell? ⟨b, 2, none⟩ = some (.string x.v) := by
  refine ⟨?_, ?_, ?_⟩ <;> simp [World.cell?, h, boxOf]

/-- What the law's first part leaves: the two boxes, the path; nothing old has turned. -/
structure Base (w W : World) (a : Option Addr) (b off n : Nat) (F G H : Nat → ByteArray) (x y : El) : Prop where
  below : Below w.heap.size w W
  boxa : W.heap[w.heap.size]? = some (boxOf x)
  boxb : W.heap[w.heap.size + 1]? = some (boxOf y)
  path : PathIs W a b off n F G H

theorem Base.like {w W W' : World} {a : Option Addr} {b off n : Nat} {F G H : Nat → ByteArray} {x y : El} (h : Base w W a b off n F G H x y) (hl : Like W' W) : Base w W' a b off n F G H x y :=
  ⟨⟨hl.2.1.trans h.below.os, hl.2.2.1.trans h.below.tape, hl.2.2.2.trans h.below.output, by rw [hl.1]; exact h.below.size, fun k hk => by rw [hl.1]; exact h.below.block k hk⟩, by rw [hl.1]; exact h.boxa, by rw [hl.1]; exact h.boxb, path_of h.path hl.1⟩

theorem base_start {w W1 : World} {a : Option Addr} {b off n : Nat} {F G H : Nat → ByteArray} {x y : El} (hp : PathIs w a b off n F G H)
    (ho : Only [] ((w.alloc (.cells #[.string x.f, .string x.k, .string x.v] 25)).alloc (.cells #[.string y.f, .string y.k, .string y.v] 25)) W1) : Base w W1 a b off n F G H x y := by
  have h1 : Only [] w ((w.alloc (.cells #[.string x.f, .string x.k, .string x.v] 25)).alloc (.cells #[.string y.f, .string y.k, .string y.v] 25)) := ((Only.refl _ _).alloc _).alloc _
  refine ⟨(h1.trans ho (by simp)).below (Below.refl _ _) (by simp), ?_, ?_, hp.1, fun i hi => ?_⟩
  · rw [ho.block _ (by simp; omega) (by simp), Below.heap_alloc _ _ _ (by simp)]
    exact heap_alloc_at _ _ _ rfl
  · rw [ho.block _ (by simp) (by simp)]
    exact heap_alloc_at _ _ _ (by simp)
  · have hq := hp.2 i hi
    have hb : b < w.heap.size := World.block_lt_of_cell? _ _ hq.1
    have q0 : ∀ o, W1.cell? ⟨b, o, none⟩ = w.cell? ⟨b, o, none⟩ := fun o => World.cell?_of_block (w := w) ((h1.trans ho (by simp)).block b hb (by simp))
    rw [q0, q0, q0]
    exact hq

theorem walk_atc (g : Ground) (hfit : g.Fits) (a : Option Addr) (b off c d lc R E C N : Nat) (lcI : Int) (T M : Nat → Nat) (last : Option Nat) (w : World) (hn : g.n ≤ 4096)
    (hp : PathIs g.w0 a b off g.n (fun i => g.F (i + 1)) (fun i => g.G (i + 1)) (fun i => g.H (i + 1))) (hC : Chain g d d T M last w) (hl : Leaf w last lc) (hR : T 0 = R) (hE : T d = E) (hgC : g.C = C) (hgN : g.n = N) (hlc : (lc : Int) = lcI) :
    Calls Try.prog 9 #[.pointer (some ⟨R, 0, none⟩), .slice (some ⟨C, 0, none⟩) (N + 1) (N + 1), .slice a N c, .int .i64 d, .int .i64 lcI] w fun e w' =>
      e = .returned (.pointer (some ⟨E, 0, none⟩)) ∧ Only [] w w' := by
  subst hlc
  exact walk_at g hfit a b off c d lc R E C N T M last w hn hp hC hl hR hE hgC hgN

theorem eql_other {s t : Nat} {l l' : Option Nat} {w : World} (hne : s ≠ t) (h1 : w.heap[s]? = some (setCells l)) (h2 : w.heap[t]? = some (setCells l')) :
    (binOp .eql 26 (.pointer (some ⟨s, 0, none⟩)) (.pointer (some ⟨t, 0, none⟩))).run Try.prog w = .ok (.bool false) w := by
  obtain ⟨j, hj, hsz⟩ := Option.map_eq_some_iff.1 Try.row42
  exact run_eql_ptr_other w Try.underlying26 hj (by rw [hsz]; decide) (fun e => hne (congrArg Addr.block e)) h1 h2

/-- Behind 'ZZNewCursor(nil, cursors[n], stepElem(x))'. -/
theorem after4 {w3 w4 : World} {o1 o2 o3 : Obj} {K : Nat} {x : El}
    (hl : Like w4 ((((w3.alloc o1).alloc o2).alloc o3).alloc (.cells #[.pointer none, .pointer (some ⟨K, 0, none⟩), .string x.f, .string x.k, .string x.v] 44))) :
    Only [] w3 w4 ∧ w4.heap[w3.heap.size + 1 + 1 + 1]? = some (curCells none (some K) x.f x.k x.v) ∧ w4.heap.size = w3.heap.size + 4 := by
  refine ⟨(((((Only.refl _ _).alloc _).alloc _).alloc _).alloc _).like hl, ?_, by rw [hl.1]; simp⟩
  rw [hl.1]
  exact heap_alloc_at _ _ _ (by simp)

set_option maxRecDepth 100000 in
set_option maxHeartbeats 3200000 in
theorem lawB_main (a : Option Addr) (b off n c : Nat) (F G H : Nat → ByteArray) (x y : El) (w : World) (hn : n ≤ 4096) (hp : PathIs w a b off n F G H)
    (hs : ∀ i, (F i).size ≤ maxLen ∧ (G i).size ≤ maxLen ∧ (H i).size ≤ maxLen) (hx : x.Fits) (hy : y.Fits) (hxy : x ≠ y) :
    Calls Try.prog 4 #[.slice a n c, .agg #[.string x.f, .string x.k, .string x.v], .agg #[.string y.f, .string y.k, .string y.v]] w fun e w' => e = .returned (.bool true) ∧ Below w.heap.size w w' := by
  have HB : Hid _ := bytes11_any a b off n c F G H x y ((w.alloc (.cells #[.string x.f, .string x.k, .string x.v] 25)).alloc (.cells #[.string y.f, .string y.k, .string y.v] 25)) (by unfold maxLen; omega) (path_alloc' (path_alloc' hp _) _) hs hx hy
  have HP : Hid (PathIs w a b off n F G H) := hp
  have HS : Hid (∀ i, (F i).size ≤ maxLen ∧ (G i).size ≤ maxLen ∧ (H i).size ≤ maxLen) := hs
  clear hp hs
  go_enter Try.func4, Try.ntmps4
  go_wp2_with fail
  refine Calls.mono (show Calls Try.prog 11 _ _ _ from HB.out) ?_
  rintro e W ⟨⟨q, rfl⟩, hO⟩
  have hBase : Base w W a b off n F G H x y := base_start HP.out hO
  obtain ⟨a0, a1, a2⟩ := box_cells hBase.boxa
  obtain ⟨b0, b1, b2⟩ := box_cells hBase.boxb
  clear hO HB HP
  cases q
  · go_wp2_with fail
    go_ret
    exact ⟨rfl, hBase.below⟩
  go_wp2_with fail
  all_goals first
    | (go_ret; exact ⟨rfl, hBase.below⟩)
    | skip
  go_loopw [7, 8] (fun z i wr => ∃ (t : Nat) (s : Int), t ≤ n ∧ i = .int .i64 t ∧ z = .int .i64 s ∧ Base w wr a b off n F G H x y) (fun _ i _ => n - (intOf i).toNat)
  case atStart => exact ⟨0, _, Nat.zero_le _, rfl, rfl, hBase⟩
  case round =>
    obtain ⟨t, s, ht, rfl, rfl, hL⟩ := hrel
    clear hBase a0 a1 a2 b0 b1 b2
    by_cases hlt : t < n
    · obtain ⟨q1, q2⟩ := hL.path
      obtain rfl := q1 (by omega)
      obtain ⟨p0, p1, p2⟩ := q2 t hlt
      obtain ⟨s0, s1, s2⟩ := HS.out t
      unfold maxLen at s0 s1 s2
      clear q1 q2
      have hz2 : (t : Int) < (n : Int) := by omega
      go_wp2_with fail
      go_quiet (fail)
      go_wp2_with fail
      · go_ret
        exact ⟨rfl, (hL.like (W' := wr.drewN nq) ⟨rfl, rfl, rfl, rfl⟩).below⟩
      · go_roundw
        case rel => exact ⟨t + 1, _, by omega, by go_num, rfl, hL.like ⟨rfl, rfl, rfl, rfl⟩⟩
        case measure => simp [intOf]; omega
    · obtain rfl : t = n := by omega
      clear hlt
      have hp := hL.path
      have HP' : Hid _ := hp
      clear hp
      obtain ⟨g, hg, hgC, hgN, hgw⟩ : ∃ g, g = groundOf wr t F G H ∧ g.C = wr.heap.size + 1 ∧ g.n = t ∧ g.w0 = wr := ⟨_, rfl, rfl, rfl, rfl⟩
      have Hfit : Hid g.Fits := by rw [hg]; exact fits_of HS.out
      have Hpath : Hid (PathIs g.w0 a b off g.n (fun i => g.F (i + 1)) (fun i => g.G (i + 1)) (fun i => g.H (i + 1))) := by rw [hg]; exact HP'.out
      have HgC : Hid (g.C = wr.heap.size + 1) := hgC
      have HgN : Hid (g.n = t) := hgN
      have Hgw : Hid (g.w0 = wr) := hgw
      have Hg : Hid (g = groundOf wr t F G H) := hg
      clear hg hgC hgN hgw
      go_wp2_with fail
      refine (newSet_any _).mono ?_
      rintro e w2 ⟨rfl, rfl⟩
      go_wp2_with fail
      refine (build_any _ _ b off _ _ F G H _ hn (path_alloc HP'.out _)).mono ?_
      rintro e w3 ⟨rfl, hB⟩
      have hC3 : Chain g 0 0 (fun _ => wr.heap.size) (fun _ => 0) none w3 := by rw [Hg.out]; exact chain_start hB
      have hsz3 : wr.heap.size + 1 + 3 + 4 * t = w3.heap.size := by have := hB.size; simp at this; omega
      have HK : Hid (∀ i, i ≤ t → g.K i < w3.heap.size) := fun i hi => by
        rw [Hg.out]
        show wr.heap.size + 1 + 2 + 4 * i < w3.heap.size
        omega
      clear hB Hg HS
      have hAl : w.heap.size < wr.heap.size := lt_of_heap hL.boxa
      have hBl : w.heap.size + 1 < wr.heap.size := lt_of_heap hL.boxb
      have HbA : Hid (∀ w', Below g.w0.heap.size g.w0 w' → w'.heap[w.heap.size]? = some (boxOf x)) := fun w' hb => (hb.block _ (by rw [Hgw.out]; exact hAl)).trans (by rw [Hgw.out]; exact hL.boxa)
      have HbB : Hid (∀ w', Below g.w0.heap.size g.w0 w' → w'.heap[w.heap.size + 1]? = some (boxOf y)) := fun w' hb => (hb.block _ (by rw [Hgw.out]; exact hBl)).trans (by rw [Hgw.out]; exact hL.boxb)
      have Hbel : Hid (∀ w', Below g.w0.heap.size g.w0 w' → Below w.heap.size w w') := fun w' hb => hL.below.trans ((Hgw.out ▸ hb).mono hL.below.size)
      clear hL
      have hr3 := row_at hC3 HgC.out HgN.out t (Nat.le_refl _)
      obtain ⟨a0, a1, a2⟩ := box_cells (HbA.out w3 hC3.below)
      have hrl : wr.heap.size + 1 < w3.heap.size := by omega
      have hal : w.heap.size < w3.heap.size := by omega
      have hz0 : (0 : Int) ≤ (t : Int) := by omega
      have hz1 : (t : Int) < (t : Int) + 1 := by omega
      clear hsz3
      go_wp2_with fail
      go_region_held3 (fun w' => w'.cell? ⟨wr.heap.size + 1, t, none⟩ = some (.pointer (some ⟨g.K t, 0, none⟩)) ∧ w'.cell? ⟨w.heap.size, 0, none⟩ = some (.string x.f) ∧ w'.cell? ⟨w.heap.size, 1, none⟩ = some (.string x.k) ∧ w'.cell? ⟨w.heap.size, 2, none⟩ = some (.string x.v))
        (first | exact ⟨hr3, a0, a1, a2⟩ | exact ⟨(past2 _ _ _ _ hrl).trans hr3, (past2 _ _ _ _ hal).trans a0, (past2 _ _ _ _ hal).trans a1, (past2 _ _ _ _ hal).trans a2⟩ | exact ⟨(past4 _ _ _ _ _ _ hrl).trans hr3, (past4 _ _ _ _ _ _ hal).trans a0, (past4 _ _ _ _ _ _ hal).trans a1, (past4 _ _ _ _ _ _ hal).trans a2⟩)
        (first
          | (go_at_call 13; refine (stepElem_any _ _ _ _).mono ?_; rintro e w1 ⟨rfl, rfl⟩)
          | (go_at_call 12; refine (newCur_any _ _ _ _ _ _).mono ?_; rintro e w1 ⟨rfl, rfl⟩))
      rename_i hHeld
      clear hHeld
      obtain ⟨w4, hw4⟩ : ∃ w4, w4 = (((((w3.alloc (.cells #[.string x.f, .string x.k, .string x.v] 25)).alloc (.cells #[.string x.f, .string x.k, .string x.v] 35)).alloc (.cells #[.string x.f, .string x.k, .string x.v] 35)).alloc
        (.cells #[.pointer none, .pointer (some ⟨g.K t, 0, none⟩), .string x.f, .string x.k, .string x.v] 44)).drew) := ⟨_, rfl⟩
      obtain ⟨hO4, hca4, hsz4⟩ := after4 (w3 := w3) (w4 := w4) (x := x) (by rw [hw4]; exact ⟨rfl, rfl, rfl, rfl⟩)
      go_wp2_with fail
      rw [← hw4]
      clear hw4 a0 a1 a2 hr3
      have hC4 := hC3.same hO4
      clear hC3 hO4
      have hr4 := row_at hC4 HgC.out HgN.out t (Nat.le_refl _)
      obtain ⟨b0, b1, b2⟩ := box_cells (HbB.out w4 hC4.below)
      have hrl4 : wr.heap.size + 1 < w4.heap.size := by omega
      have hbl4 : w.heap.size + 1 < w4.heap.size := by omega
      have Hca4 : Hid _ := hca4
      have Hsz4 : Hid _ := hsz4
      clear hca4 hsz4
      go_region_held3 (fun w' => w'.cell? ⟨wr.heap.size + 1, t, none⟩ = some (.pointer (some ⟨g.K t, 0, none⟩)) ∧ w'.cell? ⟨w.heap.size + 1, 0, none⟩ = some (.string y.f) ∧ w'.cell? ⟨w.heap.size + 1, 1, none⟩ = some (.string y.k) ∧ w'.cell? ⟨w.heap.size + 1, 2, none⟩ = some (.string y.v))
        (first | exact ⟨hr4, b0, b1, b2⟩ | exact ⟨(past2 _ _ _ _ hrl4).trans hr4, (past2 _ _ _ _ hbl4).trans b0, (past2 _ _ _ _ hbl4).trans b1, (past2 _ _ _ _ hbl4).trans b2⟩ | exact ⟨(past4 _ _ _ _ _ _ hrl4).trans hr4, (past4 _ _ _ _ _ _ hbl4).trans b0, (past4 _ _ _ _ _ _ hbl4).trans b1, (past4 _ _ _ _ _ _ hbl4).trans b2⟩)
        (first
          | (go_at_call 13; refine (stepElem_any _ _ _ _).mono ?_; rintro e w1 ⟨rfl, rfl⟩)
          | (go_at_call 12; refine (newCur_any _ _ _ _ _ _).mono ?_; rintro e w1 ⟨rfl, rfl⟩))
      rename_i hHeld
      clear hHeld
      obtain ⟨w5, hw5⟩ : ∃ w5, w5 = (((((w4.alloc (.cells #[.string y.f, .string y.k, .string y.v] 25)).alloc (.cells #[.string y.f, .string y.k, .string y.v] 35)).alloc (.cells #[.string y.f, .string y.k, .string y.v] 35)).alloc
        (.cells #[.pointer none, .pointer (some ⟨g.K t, 0, none⟩), .string y.f, .string y.k, .string y.v] 44)).drew) := ⟨_, rfl⟩
      obtain ⟨hO5, hcb5, hsz5⟩ := after4 (w3 := w4) (w4 := w5) (x := y) (by rw [hw5]; exact ⟨rfl, rfl, rfl, rfl⟩)
      go_wp2_with fail
      rw [← hw5]
      clear hw5 b0 b1 b2 hr4
      have hC5 := hC4.same hO5
      have hca5 : w5.heap[w3.heap.size + 1 + 1 + 1]? = some (curCells none (some (g.K g.n)) x.f x.k x.v) := by
        rw [hO5.block _ (lt_of_heap Hca4.out) (by simp), HgN.out]
        exact Hca4.out
      rw [← HgN.out] at hcb5
      have hna : ∀ i, i ≤ g.n → w3.heap.size + 1 + 1 + 1 ≠ g.K i := fun i hi => by have := HK.out i (by rw [← HgN.out]; exact hi); omega
      have hnb : ∀ i, i ≤ g.n → w4.heap.size + 1 + 1 + 1 ≠ g.K i := fun i hi => by have := HK.out i (by rw [← HgN.out]; exact hi); have := Hsz4.out; omega
      have hga : g.w0.heap.size ≤ w3.heap.size + 1 + 1 + 1 := by rw [Hgw.out]; omega
      have hgb : g.w0.heap.size ≤ w4.heap.size + 1 + 1 + 1 := by rw [Hgw.out]; omega
      have HM1 : Hid _ := made8_of (w3.heap.size + 1 + 1 + 1) (fun t w' => ∃ T M m, T 0 = wr.heap.size ∧ Sib g T M m (w3.heap.size + 1 + 1 + 1) (w4.heap.size + 1 + 1 + 1) (some t) none x y [(x.kl, t)] w') w5
        ((made_first Hfit.out wr.heap.size _ _ x y hx w5 hC5 hca5 hcb5 (by have := Hsz4.out; omega) hna hnb hga hgb).mono (by
          rintro e w' ⟨T, M, m, t, h0, rfl, h1⟩
          exact ⟨t, rfl, T, M, m, h0, h1⟩))
      generalize w3.heap.size + 1 + 1 + 1 = ca at *
      generalize w4.heap.size + 1 + 1 + 1 = cb at *
      clear hC5 hca5 hcb5 hna hnb hga hgb hC4 hO5 hsz5 Hca4 Hsz4 HK hrl hal hrl4 hbl4
      refine Calls.mono (show Calls Try.prog 8 _ _ _ from HM1.out) ?_
      rintro e w6 ⟨sa, rfl, T, M, m, hT0, hS6⟩
      have HT0 : Hid _ := hT0
      clear HM1 hT0
      go_wp2_with fail
      refine (made8_of _ _ w6 (made_second_new hy (kl_other hx hy hxy) w6 hS6)).mono ?_
      rintro e w7 ⟨sb, rfl, hne7, hS7⟩
      clear hS6
      obtain ⟨a0, a1, a2⟩ := box_cells (HbA.out w7 hS7.chain.below)
      obtain ⟨b0, b1, b2⟩ := box_cells (HbB.out w7 hS7.chain.below)
      have hE := eq_other hxy
      have hsm := neq_same
      go_wp2_with fail
      have hC7 : Chain g t t T M (some m) w7 := HgN.out ▸ hS7.chain
      have hk7 := hS7.kid
      refine (walk_atc g Hfit.out a b off c t 2 _ (T t) _ _ _ T M (some m) w7 (by rw [HgN.out]; exact hn) Hpath.out hC7 (.inr ⟨m, _, rfl, hk7, rfl⟩) HT0.out rfl HgC.out HgN.out rfl).mono ?_
      rintro e w8 ⟨rfl, hO8⟩
      have hS8 := hS7.same hO8
      clear a0 a1 a2 b0 b1 b2 hC7 hk7 hS7 hO8
      obtain ⟨a0, a1, a2⟩ := box_cells (HbA.out w8 hS8.chain.below)
      go_wp2_with fail
      refine (stepElem_any _ _ _ _).mono ?_
      rintro e w9 ⟨rfl, hw9⟩
      have hO9 : Only [] w8 w9 := by rw [← hw9]; exact ((Only.refl _ _).alloc _).alloc _
      have hS9 := hS8.same hO9
      clear hw9 hS8 hO9 a0 a1 a2
      have hset9 : w9.heap[T t]? = some (setCells (some m)) := by
        have := hS9.chain.set g.n (Nat.le_refl _)
        rw [if_neg (Nat.lt_irrefl _), HgN.out] at this
        exact this
      have Hset9 : Hid _ := hset9
      have hk9 := hS9.kid
      clear hset9
      go_wp2_with fail
      refine (child_any _ _ sa _ _ _ _ _ hx.1 hx.2.1 hx.2.2 Hset9.out hk9 (by simp [El.kl])).mono ?_
      rintro e w10 ⟨rfl, hO10⟩
      have hS10 := hS9.same hO10
      clear hS9 hO10 Hset9 hk9
      obtain ⟨b0, b1, b2⟩ := box_cells (HbB.out w10 hS10.chain.below)
      go_wp2_with fail
      refine (stepElem_any _ _ _ _).mono ?_
      rintro e w11 ⟨rfl, hw11⟩
      have hO11 : Only [] w10 w11 := by rw [← hw11]; exact ((Only.refl _ _).alloc _).alloc _
      have hS11 := hS10.same hO11
      clear hw11 hS10 hO11 b0 b1 b2
      have hset11 : w11.heap[T t]? = some (setCells (some m)) := by
        have := hS11.chain.set g.n (Nat.le_refl _)
        rw [if_neg (Nat.lt_irrefl _), HgN.out] at this
        exact this
      have Hset11 : Hid _ := hset11
      have hk11 := hS11.kid
      clear hset11
      go_wp2_with fail
      refine (child_any _ _ sb _ _ _ _ _ hy.1 hy.2.1 hy.2.2 Hset11.out hk11 (by simp [El.kl])).mono ?_
      rintro e w12 ⟨rfl, hO12⟩
      have hS12 := hS11.same hO12
      clear hS11 hO12 Hset11 hk11
      have hcura := hS12.cura
      have hcurb := hS12.curb
      have hseta := (hS12.kids (x.kl, sa) (by simp)).1
      have hsetb := (hS12.kids (y.kl, sb) (by simp)).1
      have hoth := eql_other (fun e => hne7 e.symm) hseta hsetb
      obtain ⟨a0, a1, a2⟩ := box_cells (HbA.out w12 hS12.chain.below)
      obtain ⟨b0, b1, b2⟩ := box_cells (HbB.out w12 hS12.chain.below)
      have Hcura : Hid _ := hcura
      have Hcurb : Hid _ := hcurb
      have Hseta : Hid _ := hseta
      have Hsetb : Hid _ := hsetb
      have Hend : Hid (Below w.heap.size w w12) := Hbel.out w12 hS12.chain.below
      clear hcura hcurb hseta hsetb hS12
      go_wp2_with fail
      refine (curSet_any _ _ _ _ _ _ _ Hcura.out).mono ?_
      rintro e w13 ⟨rfl, rfl⟩
      go_wp2_with fail
      refine (curSet_any _ _ _ _ _ _ _ Hcurb.out).mono ?_
      rintro e w14 ⟨rfl, rfl⟩
      go_wp2_with fail
      refine (numMembers_any _ _ _ Hseta.out).mono ?_
      rintro e w15 ⟨rfl, rfl⟩
      go_wp2_with fail
      refine (numChildren_none _ _ Hseta.out).mono ?_
      rintro e w16 ⟨rfl, rfl⟩
      go_wp2_with fail
      refine (numMembers_any _ _ _ Hsetb.out).mono ?_
      rintro e w17 ⟨rfl, rfl⟩
      go_wp2_with fail
      refine (numChildren_none _ _ Hsetb.out).mono ?_
      rintro e w18 ⟨rfl, rfl⟩
      go_wp2_with fail
      go_ret
      exact ⟨rfl, Hend.out⟩
end Go.Proofs.Qxb6618315a
