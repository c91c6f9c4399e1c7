/-
  THE WALK OF decodeChunked (10), its body.
-/
import Derived.Test.Qxb6616852aDoorDec
import Derived.BigRegion
namespace Go.Proofs.Qxb6616852aDoor
open Go.RowKit Go.Deep

/-- How long the next chunk is. -/
def nextLen : List (List Int) → Nat
  | [] => 0
  | c :: _ => c.length
def nextTail : List (List Int) → List Int
  | [] => [13, 10]
  | c :: r => c ++ (13 :: 10 :: encs r)
theorem encs_next (rest : List (List Int)) : encs rest = hexb (nextLen rest) ++ (13 :: 10 :: nextTail rest) := by
  cases rest with
  | nil => exact encs_nil
  | cons c r => exact encs_cons c r

theorem own_set {W : World} {B n : Nat} {v : Value} {xs : List Value} (h : W.ownsRow B 5 1 v n xs) (b i : Nat) (x : Value) (hb : b < B) : (W.setCell ⟨b, i, none⟩ x).ownsRow B 5 1 v n xs :=
  h.kept (Lib.grownBy_setCell W b i x) (.inr (fun e => by have := (h.lt _ e).1; omega))

theorem sl_of_owns {W : World} {B cap : Nat} {ao : Option Addr} {l : List Int} (h : W.ownsRow B 5 1 (.slice ao l.length cap) l.length (bc l)) : ∃ g, Sl W ao g l := by
  rcases h.2 with ⟨h0, h1⟩ | ⟨g, cap', cur, h0, hB, hg, _, _, _, htk⟩
  · exact ⟨0, fun hp => by omega, fun i hi => by omega⟩
  · injection h0 with e1 e2 e3
    refine ⟨g, fun _ => e1, fun i hi => ?_⟩
    have := Lib.cells_of_row hg (l.length * 1) i (.int .u8 (nth l i)) (by rw [htk]; simp [bc, nth, hi])
    rw [Lib.addr_add, Nat.zero_add] at this
    exact this

/-- What decodeChunked answers. -/
def Decoded (w : World) (cs : List (List Int)) (e : Ending) (w' : World) : Prop :=
  (∃ ao cap g, e = .returned (.agg #[.slice ao cs.flatten.length cap, .int .i64 cs.length, .slice none 0 0, .slice none 0 0, .bool true]) ∧ Sl w' ao g cs.flatten) ∧ Below w.heap.size w w'

set_option maxHeartbeats 12800000 in
set_option maxRecDepth 100000 in
theorem decode_any (b c0 : Nat) (cs : List (List Int)) (w : World) (hlen : (encs cs).length ≤ 4194304) (hcs : ∀ c ∈ cs, 1 ≤ c.length ∧ c.length ≤ 1048575)
    (hs : Sl w (some ⟨b, 0, none⟩) b (encs cs)) (hc0 : (encs cs).length ≤ c0) :
    Calls Tryd.prog 10 #[.slice (some ⟨b, 0, none⟩) (encs cs).length c0] w fun e w' => Decoded w cs e w' := by
  obtain ⟨s, hsd⟩ : ∃ s, encs cs = s := ⟨_, rfl⟩
  rw [hsd] at hlen hs hc0 ⊢
  obtain ⟨N, hN⟩ : ∃ N, s.length = N := ⟨_, rfl⟩
  have hcell : ∀ W, Below w.heap.size w W → ∀ i, i < N → W.cell? ⟨b, i, none⟩ = some (.int .u8 (nth s i)) := fun W hW i hi => by
    rw [hW.cell (p := ⟨b, i, none⟩) (hs.lt (by omega))]; exact hs.cell i (by omega)
  have HC : Hid _ := ⟨hcell⟩
  have HCS : Hid _ := ⟨hcs⟩
  rw [hN] at hlen hc0 ⊢
  clear hcell hcs hs
  go_enter Tryd.func10, Tryd.ntmps10
  go_wp2_with fail
  go_loopw [4] (fun x wr => ∃ (P : Nat) (done rest : List (List Int)) (pre : List Int), x = .int .i64 P ∧ cs = done ++ rest ∧ s = pre ++ encs rest ∧ P = pre.length ∧ done.flatten.length ≤ P ∧ done.length ≤ P ∧ DS w wr done.flatten done.length) (fun x _ => N - (intOf x).toNat)
  case atStart => exact ⟨0, [], cs, [], rfl, rfl, by rw [hsd]; rfl, rfl, by simp, by simp, ds_start w⟩
  case round =>
    obtain ⟨P, done, rest, pre, rfl, hcd, hsp, hP, hfl, hdl, hD⟩ := hrel
    rw [encs_next rest] at hsp
    obtain ⟨u, hu⟩ : ∃ u, nextLen rest = u := ⟨_, rfl⟩
    have hu2 : u ≤ 1048575 := by
      cases rest with
      | nil => rw [← hu]; exact Nat.zero_le _
      | cons c r => rw [← hu]; exact (HCS.out c (by rw [hcd]; simp)).2
    rw [hu] at hsp
    have hL := line_of hsp
    rw [← hP] at hL
    have hK5 : (hexl u).length ≤ 5 := hexl_len 4 u (by omega)
    have hK0 := hexl_pos u
    obtain ⟨K, hK⟩ : ∃ K, (hexl u).length = K := ⟨_, rfl⟩
    have hLen := hL.len
    rw [hK] at hK5 hK0 hLen
    rw [hN] at hLen
    have hLen1 : P + K + 2 + (nextTail rest).length ≤ N := by omega
    have HLen : Hid _ := ⟨hLen⟩
    have HPre : Hid _ := ⟨hP⟩
    clear hLen hP
    go_wp2_with fail
    go_loop [4, 6] (fun x y => ∃ (j p n : Nat), j ≤ K ∧ p = P + j ∧ n = valOf ((hexl u).take j) ∧ x = .int .i64 p ∧ y = .int .i64 n) (fun x _ => N - (intOf x).toNat)
    case atStart => exact ⟨0, P, 0, Nat.zero_le _, rfl, by simp [valOf], rfl, rfl⟩
    case round =>
      obtain ⟨j, p, n, hj, hp, hn, rfl, rfl⟩ := hrel
      by_cases hlt : j < K
      · have hc := HC.out wr hD.since p (by omega)
        rw [hp, hL.digit j (by omega), ← hp] at hc
        have hd16 := hexl_at u j (by omega)
        have hval := valOf_take (hexl u) j (by omega)
        have hvlt := valOf_take_lt u j (by omega)
        rw [← hn] at hval hvlt
        obtain ⟨d, hd⟩ : ∃ d, (hexl u).getD j 0 = d := ⟨_, rfl⟩
        rw [hd] at hc hd16 hval
        have h1 : (p : Int) < N := by omega
        have h2 : (p : Int) - P < 7 := by omega
        have h3 : (0 : Int) ≤ d := by omega
        have hN1 : n * 16 + d = valOf ((hexl u).take (j + 1)) := by omega
        have HP : Hid _ := ⟨hp⟩
        have HV : Hid _ := ⟨hN1⟩
        clear hL hp hn hval hN1 hd hK
        go_wp2_with (go_at_call 17; refine (hexDigit_dig d _ hd16).mono ?_; rintro e w' ⟨rfl, rfl⟩)
        go_round
        case rel => exact ⟨j + 1, p + 1, n * 16 + d, by omega, by have := HP.out; omega, HV.out, by go_num, by go_num⟩
        case measure => simp [intOf]; omega
      · obtain rfl : j = K := by omega
        have hnu : n = u := by rw [hn, List.take_of_length_le (by omega), valOf_hexl]
        subst hnu
        have hc := HC.out wr hD.since p (by omega)
        rw [hp, ← hK, hL.cr, hK, ← hp] at hc
        have hc1 := HC.out wr hD.since (p + 1) (by omega)
        rw [hp, ← hK, hL.lf, hK, ← hp] at hc1
        have hcP := HC.out wr hD.since P (by omega)
        rw [show P = P + 0 by omega, hL.digit 0 (by omega), Nat.add_zero] at hcP
        have h1 : (p : Int) < N := by omega
        have h2 : ¬ (p : Int) = P := by omega
        have h4 : (p : Int) + 1 < N := by omega
        have h5 : 1 ≤ n → ¬ dig ((hexl n).getD 0 0) = 48 := fun h => dig_48 (hexl_at n 0 (by omega)) (hexl_head n h)
        obtain ⟨x0, hx0⟩ : ∃ x0, dig ((hexl n).getD 0 0) = x0 := ⟨_, rfl⟩
        rw [hx0] at hcP h5
        have HP : Hid _ := ⟨hp⟩
        have HL : Hid _ := ⟨hL⟩
        have HS : Hid _ := ⟨hsp⟩
        have HD : Hid _ := ⟨hD⟩
        have HU : Hid _ := ⟨hu⟩
        have HK : Hid _ := ⟨hK⟩
        have hm : ∀ i, nth s (p + 2 + i) = nth (nextTail rest) i := fun i => by rw [hp, ← hK]; exact hL.more i
        have HM : Hid _ := ⟨hm⟩
        clear hp hL hn hK hsp hx0 hm
        cases rest with
        | nil =>
          obtain rfl : 0 = n := HU.out
          have hp := HP.out
          have hk := HK.out
          have hlen := HLen.out
          rw [hexl_small (by omega)] at hk
          have hjk : j = 1 := by simpa using hk.symm
          have hN4 : p + 4 = N := by simp [nextTail] at hlen; omega
          have hj1 : p ≤ P + 1 := by omega
          have a1 := HC.out wr hD.since (p + 2) (by omega)
          have a2 := HC.out wr hD.since (p + 3) (by omega)
          rw [show nth s (p + 2) = 13 by rw [show p + 2 = p + 2 + 0 by omega, HM.out 0]; rfl] at a1
          rw [show nth s (p + 3) = 10 by rw [show p + 3 = p + 2 + 1 by omega, HM.out 1]; rfl] at a2
          have hres := hD.res
          obtain ⟨vd, hvd, hown⟩ := hD.d
          obtain ⟨ao, cap, rfl⟩ := owns_form hown
          have HO : Hid _ := ⟨hown⟩
          have HV : Hid _ := ⟨hvd⟩
          obtain ⟨L, hL⟩ : ∃ L, done.flatten.length = L := ⟨_, rfl⟩
          rw [hL] at hvd
          have d0 : wr.cell? ⟨w.heap.size + 1, 0, none⟩ = some (.slice ao L cap) := by rw [Lib.cell_of_heap hvd]; rfl
          have d1 : wr.cell? ⟨w.heap.size + 1, 1, none⟩ = some (.int .i64 done.length) := by rw [Lib.cell_of_heap hvd]; rfl
          have d2 : wr.cell? ⟨w.heap.size + 1, 2, none⟩ = some (.slice none 0 0) := by rw [Lib.cell_of_heap hvd]; rfl
          have d3 : wr.cell? ⟨w.heap.size + 1, 3, none⟩ = some (.slice none 0 0) := by rw [Lib.cell_of_heap hvd]; rfl
          have d4 : wr.cell? ⟨w.heap.size + 1, 4, none⟩ = some (.bool false) := by rw [Lib.cell_of_heap hvd]; rfl
          have g4 : wr.frozen? ⟨w.heap.size + 1, 4, none⟩ = false := Lib.frozen_of_heap hvd 4
          have e0 : wr.cell? ⟨w.heap.size, 0, none⟩ = some (.slice none 0 0) := by rw [Lib.cell_of_heap hres]; rfl
          have e1 : wr.cell? ⟨w.heap.size, 1, none⟩ = some (.int .i64 0) := by rw [Lib.cell_of_heap hres]; rfl
          have e2 : wr.cell? ⟨w.heap.size, 2, none⟩ = some (.slice none 0 0) := by rw [Lib.cell_of_heap hres]; rfl
          have e3 : wr.cell? ⟨w.heap.size, 3, none⟩ = some (.slice none 0 0) := by rw [Lib.cell_of_heap hres]; rfl
          have e4 : wr.cell? ⟨w.heap.size, 4, none⟩ = some (.bool false) := by rw [Lib.cell_of_heap hres]; rfl
          have f0 : wr.frozen? ⟨w.heap.size, 0, none⟩ = false := Lib.frozen_of_heap hres 0
          have f1 : wr.frozen? ⟨w.heap.size, 1, none⟩ = false := Lib.frozen_of_heap hres 1
          have f2 : wr.frozen? ⟨w.heap.size, 2, none⟩ = false := Lib.frozen_of_heap hres 2
          have f3 : wr.frozen? ⟨w.heap.size, 3, none⟩ = false := Lib.frozen_of_heap hres 3
          have f4 : wr.frozen? ⟨w.heap.size, 4, none⟩ = false := Lib.frozen_of_heap hres 4
          have hpN : p + 4 ≤ N := by omega
          have hN5 : (p : Int) + 2 + 2 = N := by omega
          have hc5 : ¬ c0 = p + 2 := by omega
          clear hp hk hlen hjk h5 hcP hres hvd hD hN4 hown
          go_wp2_with (go_at_call 17; refine (hexDigit_cr _).mono ?_; rintro e w' ⟨rfl, rfl⟩)
          go_loop [4] (fun x => x = .int .i64 (p + 2 : Nat)) (fun _ => 0)
          case atStart => go_num
          case round =>
            obtain rfl := hrel
            go_wp2_with fail
            go_loop [9] (fun x => x = .int .i64 (p + 2 : Nat)) (fun _ => 0)
            case atStart => rfl
            case round =>
              obtain rfl := hrel
              go_wp2_with fail
              have hr0 : (wr.setCell ⟨w.heap.size + 1, 4, none⟩ (.bool true)).heap[w.heap.size]? = some (.cells #[.slice none 0 0, .int .i64 0, .slice none 0 0, .slice none 0 0, .bool false] 34 (0, 0)) := by
                rw [Below.heap_setCell _ _ _ _ (show w.heap.size ≠ w.heap.size + 1 by omega)]
                exact HD.out.res
              have hr5 := Lib.heap_setCell_same (i := 4) (Lib.heap_setCell_same (i := 3) (Lib.heap_setCell_same (i := 2) (Lib.heap_setCell_same (i := 1) (Lib.heap_setCell_same (i := 0) hr0 (.slice ao L cap)) (.int .i64 done.length)) (.slice none 0 0)) (.slice none 0 0)) (.bool true)
              have q0 := Lib.cell_of_heap hr5 0
              have q1 := Lib.cell_of_heap hr5 1
              have q2 := Lib.cell_of_heap hr5 2
              have q3 := Lib.cell_of_heap hr5 3
              have q4 := Lib.cell_of_heap hr5 4
              refine bodyPost_ret (v := .agg #[.slice ao L cap, .int .i64 done.length, .slice none 0 0, .slice none 0 0, .bool true]) (by simp [results, Tryd.results10, go_sem, q0, q1, q2, q3, q4]) rfl ?_
              obtain ⟨g, hg⟩ := sl_of_owns (own_set (own_set (own_set (own_set (own_set (own_set HO.out (w.heap.size + 1) 4 (.bool true) (by omega)) w.heap.size 0 (.slice ao L cap) (by omega)) w.heap.size 1 (.int .i64 done.length) (by omega)) w.heap.size 2 (.slice none 0 0) (by omega)) w.heap.size 3 (.slice none 0 0) (by omega)) w.heap.size 4 (.bool true) (by omega))
              refine ⟨⟨ao, cap, g, by rw [hL], hg⟩, ?_⟩
              exact (((((HD.out.since.setCell (p := ⟨w.heap.size + 1, 4, none⟩) (by simp) _).setCell (p := ⟨w.heap.size, 0, none⟩) (by simp) _).setCell (p := ⟨w.heap.size, 1, none⟩) (by simp) _).setCell (p := ⟨w.heap.size, 2, none⟩) (by simp) _).setCell (p := ⟨w.heap.size, 3, none⟩) (by simp) _).setCell (p := ⟨w.heap.size, 4, none⟩) (by simp) _
        | cons c r =>
          have hc1len := HCS.out c (by rw [hcd]; simp)
          have hcn : c.length = n := HU.out
          rw [hcn] at hc1len
          have h6 := h5 hc1len.1
          have h7 : ((n : Int) == 0) = false := by simp; omega
          have hp := HP.out
          have htl : (nextTail (c :: r)).length = n + 2 + (encs r).length := by simp [nextTail, hcn]; omega
          have h8 : (n : Int) ≤ (N : Int) - (p + 2) := by omega
          have h9 : P ≤ p ∧ p ≤ P + 5 ∧ p + 2 + n + 2 ≤ N := by omega
          have HT : Hid _ := ⟨htl⟩
          have HN : Hid _ := ⟨hcn⟩
          obtain ⟨vd, hvd, hown⟩ := hD.d
          clear h5 htl hcn hp hD
          rcases Nat.lt_or_ge (P + 1) p with hj1 | hj1
          all_goals (
            go_wp2_with (go_at_call 17; refine (hexDigit_cr _).mono ?_; rintro e w' ⟨rfl, rfl⟩)
            clear hc hc1 hcP hvd hown vd h2 h4 h1 HL h7 h8
            go_loopw [7] (fun x wr3 => ∃ i : Nat, i ≤ n ∧ x = .int .i64 i ∧ DS w wr3 (done.flatten ++ c.take i) done.length) (fun x _ => n - (intOf x).toNat)
            case atStart => exact ⟨0, Nat.zero_le _, rfl, by simpa using HD.out⟩
            case round =>
              obtain ⟨i, hi, rfl, hD3⟩ := hrel
              by_cases hin : i < n
              · have hcn := HN.out
                have hcc := HC.out wr hD3.since (p + 2 + i) (by omega)
                rw [HM.out i, show nth (nextTail (c :: r)) i = nth c i from nth_left (by omega)] at hcc
                have hbl : (done.flatten ++ c.take i).length ≤ 4194304 := by rw [List.length_append, List.length_take]; omega
                obtain ⟨ao, cap, ao', cap', W', q1, q2, q3, q4, q5⟩ := body_app hD3 (nth c i) hbl
                have e1 : done.flatten ++ c.take i ++ [nth c i] = done.flatten ++ c.take (i + 1) := by
                  rw [List.take_add_one, List.append_assoc, List.getElem?_eq_getElem (by omega)]
                  simp [nth, hcn, hin]
                rw [e1] at q5
                obtain ⟨m, hm⟩ : ∃ m, (done.flatten ++ c.take i).length = m := ⟨_, rfl⟩
                rw [hm] at q1 q2 q3 q5
                have HA : Hid _ := ⟨q2⟩
                have H5 : Hid _ := ⟨q5⟩
                have hin2 : (i : Int) < n := by omega
                obtain ⟨q, hq⟩ : ∃ q, p + 2 + i = q := ⟨_, rfl⟩
                rw [hq] at hcc
                have hwr : IntKind.i64.wrap ((p : Int) + 2 + i) = q := by rw [IntKind.wrap_i64]; omega
                have hqN : (q : Int) < N := by omega
                have hDlt : w.heap.size + 1 < wr.heap.size := hD3.size
                have q1a : ∀ o, (wr.alloc o).cell? ⟨w.heap.size + 1, 0, none⟩ = some (.slice ao m cap) := fun o => (World.cell?_of_block (a := ⟨w.heap.size + 1, 0, none⟩) (Below.heap_alloc wr o _ hDlt)).trans q1
                clear q2 q5 e1 hm hbl hD3 hcn hq
                go_wp2_with fail
                go_region_law (refine step_app_run rfl (.tmp 95) (.tmp 102) 22 22 rfl (.slice ao m cap) (.slice (some ⟨wr.heap.size, 0, none⟩) 1 1) (by simp [Act.eval]) (by simp [Act.eval]) _ W' HA.out ?_)
                all_goals (
                  go_wp2_with fail
                  go_roundw
                  case rel => exact ⟨i + 1, by omega, by go_num, H5.out⟩
                  case measure => simp [intOf]; omega)
              · obtain rfl : i = n := by omega
                have hcn := HN.out
                have hlt := HC.out wr hD3.since
                obtain ⟨vd, hvd, _⟩ := hD3.d
                have k1 : wr.cell? ⟨w.heap.size + 1, 1, none⟩ = some (.int .i64 done.length) := by rw [Lib.cell_of_heap hvd]; rfl
                have k2 : wr.frozen? ⟨w.heap.size + 1, 1, none⟩ = false := Lib.frozen_of_heap hvd 1
                have hD4 := ds_count hD3
                rw [List.take_of_length_le (by omega)] at hD4
                have H4 : Hid _ := ⟨hD4⟩
                have r1 := HC.out _ hD4.since (p + 2 + i) (by omega)
                have r2 := HC.out _ hD4.since (p + 2 + i + 1) (by omega)
                have e13 : nth s (p + 2 + i) = 13 := by rw [HM.out i, nextTail, nth_right (by omega), hcn, Nat.sub_self]; rfl
                have e10 : nth s (p + 2 + i + 1) = 10 := by rw [show p + 2 + i + 1 = p + 2 + (i + 1) by omega, HM.out (i + 1), nextTail, nth_right (by omega), hcn, show i + 1 - i = 1 by omega]; rfl
                rw [e13] at r1
                rw [e10] at r2
                rw [show ((done.length + 1 : Nat) : Int) = (done.length : Int) + 1 by omega] at r1 r2
                clear hlt hvd hD3 hD4 hcn e13 e10
                go_wp2_with fail
                go_roundw
                case rel =>
                  have hp1 := HPre.out
                  have hp2 := HP.out
                  have hp3 := HK.out
                  have hp4 := HN.out
                  refine ⟨p + 2 + i + 2, done ++ [c], r, pre ++ (hexb i ++ (13 :: 10 :: (c ++ [13, 10]))), by go_num, by rw [hcd]; simp, by rw [HS.out]; simp [nextTail], ?_, ?_, by simp; omega, ?_⟩
                  · simp only [List.length_append, List.length_cons, List.length_nil, hexb_length]; omega
                  · rw [show (done ++ [c]).flatten = done.flatten ++ c by simp, List.length_append]; omega
                  · have h4 := H4.out
                    rw [show ((done.length + 1 : Nat) : Int) = (done.length : Int) + 1 by omega] at h4
                    rw [show (done ++ [c]).flatten = done.flatten ++ c by simp, show (done ++ [c]).length = done.length + 1 by simp]
                    exact h4
                case measure => simp [intOf]; omega)
end Go.Proofs.Qxb6616852aDoor
