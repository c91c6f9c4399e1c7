/-
  THE WALK OF FnMadeBuildsOneChainAlongPath (function 3).
-/
import Derived.Test.Qxb6618315aBytes
namespace Go.Proofs.Qxb6618315a
open Go.RowKit Go.Deep

theorem made8_old (g : Ground) (k d : Nat) (T M : Nat → Nat) (last : Option Nat) (w : World) (hk : k ≤ d) (h : Chain g d d T M last w) :
    Calls Try.prog 8 #[.pointer (some ⟨g.K k, 0, none⟩)] w fun e w' => e = .returned (.pointer (some ⟨T k, 0, none⟩)) ∧ w = w' := by
  have hc := h.cur k (Nat.le_trans hk h.dn)
  rw [if_pos hk] at hc
  have HC : Hid _ := hc
  clear hc h
  go_enter Try.func8, Try.ntmps8
  go_wp2_with fail
  refine (made_done _ _ _ _ _ _ _ HC.out).mono ?_
  rintro e w1 ⟨rfl, rfl⟩
  go_wp2_with fail
  go_ret
  exact ⟨rfl, rfl⟩

theorem made8_new (g : Ground) (hfit : g.Fits) (k d : Nat) (T M : Nat → Nat) (w : World) (hk : k ≤ g.n) (hd : d ≤ k) (h : Chain g d d T M none w) :
    Calls Try.prog 8 #[.pointer (some ⟨g.K k, 0, none⟩)] w fun e w' => ∃ T' M', (∀ i, i ≤ d → T' i = T i) ∧ e = .returned (.pointer (some ⟨T' k, 0, none⟩)) ∧ Chain g k k T' M' none w' := by
  have hm := made_chain g hfit k hk d T M w h
  rw [Nat.max_eq_right hd] at hm
  have HM : Hid _ := hm
  clear hm h
  go_enter Try.func8, Try.ntmps8
  go_wp2_with fail
  refine Calls.mono (show Calls Try.prog 17 _ _ _ from HM.out) ?_
  rintro e w1 ⟨T', M', h1, rfl, h2⟩
  go_wp2_with fail
  go_ret
  exact ⟨T', M', h1, rfl, h2⟩

theorem walk_at (g : Ground) (hfit : g.Fits) (a : Option Addr) (b off c d lc R E C N : Nat) (T M : Nat → Nat) (last : Option Nat) (w : World) (hn : g.n ≤ 4096)
    (hp : PathIs g.w0 a b off g.n (fun i => g.F (i + 1)) (fun i => g.G (i + 1)) (fun i => g.H (i + 1))) (hC : Chain g d d T M last w) (hl : Leaf w last lc) (hR : T 0 = R) (hE : T d = E) (hgC : g.C = C) (hgN : g.n = N) :
    Calls Try.prog 9 #[.pointer (some ⟨R, 0, none⟩), .slice (some ⟨C, 0, none⟩) (N + 1) (N + 1), .slice a N c, .int .i64 d, .int .i64 lc] w fun e w' =>
      e = .returned (.pointer (some ⟨E, 0, none⟩)) ∧ Only [] w w' := by
  subst hR hE hgC hgN
  exact walk_any g hfit a b off c d lc T M last w hn hp hC hl

theorem walk_at0 (g : Ground) (hfit : g.Fits) (a : Option Addr) (b off c d R E C N : Nat) (T M : Nat → Nat) (w : World) (hn : g.n ≤ 4096)
    (hp : PathIs g.w0 a b off g.n (fun i => g.F (i + 1)) (fun i => g.G (i + 1)) (fun i => g.H (i + 1))) (hC : Chain g d d T M none w) (hR : T 0 = R) (hE : T d = E) (hgC : g.C = C) (hgN : g.n = N) :
    Calls Try.prog 9 #[.pointer (some ⟨R, 0, none⟩), .slice (some ⟨C, 0, none⟩) (N + 1) (N + 1), .slice a N c, .int .i64 d, .int .i64 0] w fun e w' =>
      e = .returned (.pointer (some ⟨E, 0, none⟩)) ∧ Only [] w w' :=
  walk_at g hfit a b off c d 0 R E C N T M none w hn hp hC (.inl ⟨rfl, rfl⟩) hR hE hgC hgN

theorem row_at {g : Ground} {p d : Nat} {T M : Nat → Nat} {last : Option Nat} {w : World} {C N : Nat} (h : Chain g p d T M last w) (hgC : g.C = C) (hgN : g.n = N) (i : Nat) (hi : i ≤ N) :
    w.cell? ⟨C, i, none⟩ = some (.pointer (some ⟨g.K i, 0, none⟩)) := by
  subst hgC hgN
  exact h.row.cell (by omega)

theorem path_alloc {w : World} {a : Option Addr} {b off n : Nat} {F G H : Nat → ByteArray} (h : PathIs w a b off n F G H) (o : Obj) : PathIs (w.alloc o) a b off n F G H :=
  ⟨h.1, fun i hi => by
    obtain ⟨h0, h1, h2⟩ := h.2 i hi
    have hb : b < w.heap.size := World.block_lt_of_cell? _ _ h0
    exact ⟨by rw [World.cell?_alloc_lt _ _ _ hb]; exact h0, by rw [World.cell?_alloc_lt _ _ _ hb]; exact h1, by rw [World.cell?_alloc_lt _ _ _ hb]; exact h2⟩⟩

/-- The ground behind buildCursors. -/
def groundOf (w : World) (n : Nat) (F G H : Nat → ByteArray) : Ground :=
  { w0 := w, n := n, C := w.heap.size + 1, K := fun i => w.heap.size + 1 + 2 + 4 * i, F := low F, G := low G, H := low H }

theorem chain_start {w w' : World} {n : Nat} {F G H : Nat → ByteArray} (h : Built (w.alloc (setCells none)) w' n n w.heap.size F G H) :
    Chain (groundOf w n F G H) 0 0 (fun _ => w.heap.size) (fun _ => 0) none w' := by
  obtain ⟨ho, hs, hr, hc⟩ := h
  simp only [World.size_alloc] at hs hr hc
  have hb : Below w.heap.size w w' := by
    have h1 : Only [] w (w.alloc (setCells none)) := (Only.refl _ _).alloc _
    exact (h1.trans ho (by simp)).below (Below.refl _ _) (by simp)
  refine ⟨hb, Nat.le_refl _, Nat.zero_le _, hr.congr (fun i hi => ?_), fun i hi => ?_, fun i hi => ?_, fun i hi => absurd hi (Nat.not_lt_zero _), fun i j _ _ e => ?_, fun i j hi hj _ => by omega, ?_, fun i _ => ?_, fun i _ => Nat.le_refl _⟩
  · have hi' : i ≤ n := by have : i < n + 1 := hi; omega
    simp [curs, groundOf, hi']
  · show w'.heap[w.heap.size + 1 + 2 + 4 * i]? = _
    rw [hc i hi]
    by_cases e : i = 0
    · subst e; rfl
    · simp only [e, if_false, Nat.le_zero_eq]
      rfl
  · obtain rfl : i = 0 := by omega
    show w'.heap[w.heap.size]? = _
    rw [ho.block w.heap.size (by simp) (by simp)]
    exact heap_alloc_at _ _ _ rfl
  · have e' : w.heap.size + 1 + 2 + 4 * i = w.heap.size + 1 + 2 + 4 * j := e
    omega
  · show w.heap.size ≤ w.heap.size + 1
    omega
  · show w.heap.size ≤ w.heap.size + 1 + 2 + 4 * i
    omega

theorem fits_of {w : World} {n : Nat} {F G H : Nat → ByteArray} (hs : ∀ i, (F i).size ≤ maxLen ∧ (G i).size ≤ maxLen ∧ (H i).size ≤ maxLen) : (groundOf w n F G H).Fits := by
  intro i
  cases i with
  | zero => exact ⟨Nat.zero_le _, Nat.zero_le _, Nat.zero_le _⟩
  | succ i => exact hs i

theorem path_of {w w' : World} {a : Option Addr} {b off n : Nat} {F G H : Nat → ByteArray} (h : PathIs w a b off n F G H) (e : w'.heap = w.heap) : PathIs w' a b off n F G H :=
  ⟨h.1, fun i hi => by
    have := h.2 i hi
    simpa [World.cell?, e] using this⟩

theorem below_like {w w' w'' : World} (hl : Like w' w) (hb : Below w'.heap.size w' w'') : Below w.heap.size w w'' :=
  ⟨hb.os.trans hl.2.1, hb.tape.trans hl.2.2.1, hb.output.trans hl.2.2.2, by rw [← hl.1]; exact hb.size, fun k hk => by rw [hb.block k (by rw [hl.1]; exact hk), hl.1]⟩

set_option maxHeartbeats 1600000 in
theorem lawA_main (a : Option Addr) (b off n c : Nat) (F G H : Nat → ByteArray) (k : Int) (w : World) (hn : n ≤ 4096) (hp : PathIs w a b off n F G H)
    (hs : ∀ i, (F i).size ≤ maxLen ∧ (G i).size ≤ maxLen ∧ (H i).size ≤ maxLen) (hlo : -9223372036854775808 ≤ k) (hhi : k ≤ 9223372036854775807) :
    Calls Try.prog 3 #[.slice a n c, .int .i64 k] w fun e w' => e = .returned (.bool true) ∧ Below w.heap.size w w' := by
  have hbytes := bytes5_any a b off n c F G H k w (by unfold maxLen; omega) hp hs
  have HB : Hid _ := hbytes
  have HP : Hid (PathIs w a b off n F G H) := hp
  have HS : Hid (∀ i, (F i).size ≤ maxLen ∧ (G i).size ≤ maxLen ∧ (H i).size ≤ maxLen) := hs
  clear hbytes hp hs
  go_enter Try.func3, Try.ntmps3
  go_wp2_with fail
  refine Calls.mono (show Calls Try.prog 5 _ _ _ from HB.out) ?_
  rintro e w1 ⟨⟨x, rfl⟩, rfl⟩
  cases x
  · go_wp2_with fail
    go_ret
    exact ⟨rfl, Below.refl _ _⟩
  go_wp2_with fail
  go_loopw [5, 6] (fun z i wr => ∃ (t : Nat) (s : Int), t ≤ n ∧ i = .int .i64 t ∧ z = .int .i64 s ∧ Like wr w) (fun _ i _ => n - (intOf i).toNat)
  case atStart => exact ⟨0, 0, Nat.zero_le _, rfl, rfl, rfl, rfl, rfl, rfl⟩
  case round =>
    obtain ⟨t, s, ht, rfl, rfl, hL⟩ := hrel
    by_cases hlt : t < n
    · obtain ⟨q1, q2⟩ := path_of HP.out hL.1
      obtain rfl := q1 (by omega)
      obtain ⟨p0, p1, p2⟩ := q2 t hlt
      obtain ⟨s0, s1, s2⟩ := HS.out t
      unfold maxLen at s0 s1 s2
      clear q1 q2
      have hz2 : (t : Int) < (n : Int) := by omega
      go_wp2_with fail
      go_quiet (fail)
      go_wp2_with fail
      · go_ret
        exact ⟨rfl, below_like (w' := wr.drewN nq) hL (Below.refl _ _)⟩
      · go_roundw
        case rel => exact ⟨t + 1, _, by omega, by go_num, rfl, hL⟩
        case measure => simp [intOf]; omega
    · obtain rfl : t = n := by omega
      clear hlt
      have hp := path_of HP.out hL.1
      have HP' : Hid _ := hp
      clear hp
      by_cases hk0 : k < 0
      · go_wp2_with fail
        go_ret
        exact ⟨rfl, below_like hL (Below.refl _ _)⟩
      · by_cases hkn : (t : Int) < k
        · go_wp2_with fail
          go_ret
          exact ⟨rfl, below_like hL (Below.refl _ _)⟩
        · obtain ⟨k, rfl⟩ := Int.eq_ofNat_of_zero_le (by omega : 0 ≤ k)
          have hkt : k ≤ t := by omega
          have hkz : (k : Int) < (t : Int) + 1 := by omega
          clear hlo hhi hk0 hkn
          obtain ⟨g, hg, hgC, hgN, hgw⟩ : ∃ g, g = groundOf wr t F G H ∧ g.C = wr.heap.size + 1 ∧ g.n = t ∧ g.w0 = wr := ⟨_, rfl, rfl, rfl, rfl⟩
          have Hfit : Hid g.Fits := by rw [hg]; exact fits_of HS.out
          have Hpath : Hid (PathIs g.w0 a b off g.n (fun i => g.F (i + 1)) (fun i => g.G (i + 1)) (fun i => g.H (i + 1))) := by rw [hg]; exact HP'.out
          have HgC : Hid (g.C = wr.heap.size + 1) := hgC
          have HgN : Hid (g.n = t) := hgN
          have Hgw : Hid (g.w0 = wr) := hgw
          have Hg : Hid (g = groundOf wr t F G H) := hg
          clear hg hgC hgN hgw
          go_wp2_with fail
          refine (newSet_any _).mono ?_
          rintro e w2 ⟨rfl, rfl⟩
          go_wp2_with fail
          refine (build_any _ _ b off _ _ F G H _ hn (path_alloc HP'.out _)).mono ?_
          rintro e w3 ⟨rfl, hB⟩
          have hC3 : Chain g 0 0 (fun _ => wr.heap.size) (fun _ => 0) none w3 := by rw [Hg.out]; exact chain_start hB
          clear hB
          have hr3 := row_at hC3 HgC.out HgN.out k hkt
          have HnN : Hid (g.n ≤ 4096) := by show g.n ≤ 4096; rw [HgN.out]; exact hn
          have hkg : Hid (k ≤ g.n) := by show k ≤ g.n; rw [HgN.out]; exact hkt
          have hsm := neq_same
          have hsm' := eql_same
          clear HB HP HP' HS Hg
          go_wp2_with fail
          refine (made8_new g Hfit.out k 0 _ _ w3 hkg.out (Nat.zero_le _) hC3).mono ?_
          rintro e w4 ⟨T1, M1, h1, rfl, hC4⟩
          have H1 : Hid (T1 0 = wr.heap.size) := h1 0 (Nat.le_refl _)
          clear h1 hC3 hr3
          go_wp2_with fail
          refine (walk_at0 g Hfit.out a b off c k _ (T1 k) _ _ T1 M1 w4 HnN.out Hpath.out hC4 H1.out rfl HgC.out HgN.out).mono ?_
          rintro e w5 ⟨rfl, hO5⟩
          have hC5 := hC4.same hO5
          clear hC4 hO5
          go_wp2_with fail
          go_loop [11] (fun x => ∃ i : Nat, k < i ∧ i ≤ t + 1 ∧ x = .int .i64 i) (fun x => t + 1 - (intOf x).toNat)
          case atStart => exact ⟨k + 1, by omega, by omega, by go_num⟩
          case round =>
            obtain ⟨i, hi1, hi2, rfl⟩ := hrel
            by_cases hle : i ≤ t
            · have hri := row_at hC5 HgC.out HgN.out i hle
              have hci := hC5.cur i (by rw [HgN.out]; exact hle)
              rw [if_neg (by omega)] at hci
              have Hci : Hid _ := hci
              clear hci
              have hz : (i : Int) < (t : Int) + 1 := by omega
              go_wp2_with fail
              refine (curSet_any _ _ _ _ _ _ _ Hci.out).mono ?_
              rintro e w6 ⟨rfl, rfl⟩
              go_wp2_with fail
              go_round
              case rel => exact ⟨i + 1, by omega, by omega, by go_num⟩
              case measure => simp [intOf]; omega
            · obtain rfl : i = t + 1 := by omega
              have hrt := row_at hC5 HgC.out HgN.out t (Nat.le_refl _)
              clear hi1 hi2 hle
              go_wp2_with fail
              refine (made8_new g Hfit.out t k T1 M1 w5 (by rw [HgN.out]; exact Nat.le_refl _) hkt hC5).mono ?_
              rintro e w6 ⟨T2, M2, h2, rfl, hC6⟩
              have H2 : Hid (T2 0 = wr.heap.size) := (h2 0 (Nat.zero_le _)).trans H1.out
              have H3 : Hid (T2 k = T1 k) := h2 k (Nat.le_refl _)
              have hrt6 := row_at hC6 HgC.out HgN.out t (Nat.le_refl _)
              clear h2 hC5 hrt
              go_wp2_with fail
              refine (made8_old g t t T2 M2 none w6 (Nat.le_refl _) hC6).mono ?_
              rintro e w7 ⟨rfl, rfl⟩
              go_wp2_with fail
              refine (walk_at0 g Hfit.out a b off c t _ (T2 t) _ _ T2 M2 _ HnN.out Hpath.out hC6 H2.out rfl HgC.out HgN.out).mono ?_
              rintro e w8 ⟨rfl, hO8⟩
              have hC8 := hC6.same hO8
              have hrk := row_at hC8 HgC.out HgN.out k hkt
              have hck := hC8.cur k hkg.out
              rw [if_pos hkt, H3.out] at hck
              have Hck : Hid _ := hck
              have Hbel : Hid (Below w.heap.size w w8) := below_like hL (Hgw.out ▸ hC8.below)
              clear hck hC6 hO8 hC8
              go_wp2_with fail
              refine (curSet_any _ _ _ _ _ _ _ Hck.out).mono ?_
              rintro e w9 ⟨rfl, rfl⟩
              go_wp2_with fail
              go_ret
              exact ⟨rfl, Hbel.out⟩

theorem lawA_long (a : Option Addr) (b off n c : Nat) (F G H : Nat → ByteArray) (k : Int) (w : World) (hm : n ≤ maxLen) (hn : 4096 < n) (hp : PathIs w a b off n F G H)
    (hs : ∀ i, (F i).size ≤ maxLen ∧ (G i).size ≤ maxLen ∧ (H i).size ≤ maxLen) :
    Calls Try.prog 3 #[.slice a n c, .int .i64 k] w fun e w' => e = .returned (.bool true) ∧ Below w.heap.size w w' := by
  have hbytes := bytes5_any a b off n c F G H k w hm hp hs
  have HB : Hid _ := hbytes
  clear hbytes hp hs
  unfold maxLen at hm
  go_enter Try.func3, Try.ntmps3
  go_wp2_with fail
  refine Calls.mono (show Calls Try.prog 5 _ _ _ from HB.out) ?_
  rintro e w1 ⟨⟨x, rfl⟩, rfl⟩
  cases x
  all_goals
    go_wp2_with fail
    go_ret
    exact ⟨rfl, Below.refl _ _⟩

theorem lawA_walk (a : Option Addr) (b off n c : Nat) (F G H : Nat → ByteArray) (k : Int) (w : World) (hm : n ≤ maxLen) (hp : PathIs w a b off n F G H)
    (hs : ∀ i, (F i).size ≤ maxLen ∧ (G i).size ≤ maxLen ∧ (H i).size ≤ maxLen) (hlo : -9223372036854775808 ≤ k) (hhi : k ≤ 9223372036854775807) :
    Calls Try.prog 3 #[.slice a n c, .int .i64 k] w fun e w' => e = .returned (.bool true) ∧ Below w.heap.size w w' := by
  by_cases hn : n ≤ 4096
  · exact lawA_main a b off n c F G H k w hn hp hs hlo hhi
  · exact lawA_long a b off n c F G H k w hm (by omega) hp hs
end Go.Proofs.Qxb6618315a
