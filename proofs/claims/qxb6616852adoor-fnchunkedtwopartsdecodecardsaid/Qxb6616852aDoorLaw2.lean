/-
  FnChunkedTwoPartsDecode (3): THE LAW's WALK, whole.
-/
import Derived.Test.Qxb6616852aDoorLaw
namespace Go.Proofs.Qxb6616852aDoor
open Go.RowKit Go.Deep

theorem nonEmpty_q (a : Option Addr) (n c : Nat) (w : World) (hn : n ≤ 4194304) :
    Calls Tryd.prog 7 #[.slice a n c] w fun e w' => e = .returned (.int .i64 (if 0 < n then 1 else 0 : Nat)) ∧ w' = w :=
  (nonEmpty_any a n c w hn).mono (fun _ _ ⟨h1, h2⟩ => ⟨h1, h2.symm⟩)

theorem ofOut {t : List Int} {w : World} {e : Ending} {w' : World} (h : Out t w e w') : ∃ ao cap g, e = .returned (.tuple #[.slice ao t.length cap, .nilIface]) ∧ Sl w' ao g t ∧ t.length ≤ cap ∧ Below w.heap.size w w' := by
  obtain ⟨⟨ao, cap, g, h1, h2, h3⟩, h4⟩ := h
  exact ⟨ao, cap, g, h1, h2, h3, h4⟩
theorem ofDecoded {cs : List (List Int)} {w : World} {e : Ending} {w' : World} (h : Decoded w cs e w') :
    ∃ ao cap g, e = .returned (.agg #[.slice ao cs.flatten.length cap, .int .i64 cs.length, .slice none 0 0, .slice none 0 0, .bool true]) ∧ Sl w' ao g cs.flatten ∧ Below w.heap.size w w' := by
  obtain ⟨⟨ao, cap, g, h1, h2⟩, h4⟩ := h
  exact ⟨ao, cap, g, h1, h2, h4⟩

/-- What the rest of the law asks of the world W behind the copies. -/
structure Ready (w W : World) (a a' : Option Addr) (b b' : Nat) (l l' : List Int) : Prop where
  since : Below w.heap.size w W
  tab : W.cell? ⟨3, 15, none⟩ = some (.int .u8 4)
  sa : Sl W a b l
  sb : Sl W a' b' l'

set_option maxHeartbeats 12800000 in
set_option maxRecDepth 100000 in
theorem law_any (a a' : Option Addr) (n n' c c' : Nat) (l l' : List Int) (w : World) (hA : Arg w a n c l) (hA' : Arg w a' n' c' l') (hm : n ≤ maxLen) (hm' : n' ≤ maxLen)
    (hT : w.cell? ⟨3, 15, none⟩ = some (.int .u8 4)) :
    Calls Tryd.prog 3 #[.slice a n c, .slice a' n' c'] w fun e w' => e = .returned (.bool true) ∧ Below w.heap.size w w' := by
  have h4 := bytes4_any a n c a' n' c' w hm hm'
  unfold maxLen at hm hm'
  by_cases ht : n + n' ≤ 1048576
  · have e4 : decide (n + n' ≤ 1048576) = true := by simpa using ht
    rw [e4] at h4
    by_cases h5 : n ≤ 524288 ∧ n' ≤ 524288
    · obtain ⟨h5a, h5b⟩ := h5
      have hl := hA.len
      have hl' := hA'.len
      cases a with
      | some pa =>
        cases a' with
        | some pb =>
          have hnA := fun W => run_neq_slice_nil_any (P := Tryd.prog) W 22 5 (some pa) n c 0 0 Tryd.underlying22
          have hmkA := run_make_row' (P := Tryd.prog) 22 5 (.int .u8 0) 1 Tryd.underlying22 Tryd.info5 rfl .i64 .i64 n (by omega) (by omega)
          obtain ⟨wA, hcpA, hBA, hS1⟩ := copyFresh w pa n c l hl (hA.cell pa rfl)
          have hpB : Arg wA (some pb) n' c' l' := hA'.kept hBA
          have hnB := fun W => run_neq_slice_nil_any (P := Tryd.prog) W 22 5 (some pb) n' c' 0 0 Tryd.underlying22
          have hmkB := run_make_row' (P := Tryd.prog) 22 5 (.int .u8 0) 1 Tryd.underlying22 Tryd.info5 rfl .i64 .i64 n' (by omega) (by omega)
          obtain ⟨W, hcpB, hBB, hS2⟩ := copyFresh wA pb n' c' l' hl' (hpB.cell pb rfl)
          have hBw : Below w.heap.size w W := hBA.trans (hBB.mono hBA.size)
          have hR : Ready w W (some ⟨w.heap.size, 0, none⟩) (some ⟨wA.heap.size, 0, none⟩) w.heap.size wA.heap.size l l' := ⟨hBw, by rw [hBw.cell (p := ⟨3, 15, none⟩) (World.block_lt_of_cell? _ _ hT)]; exact hT, hS1.kept hBB, hS2⟩
          have HR : Hid _ := ⟨hR⟩
          clear hpB hBA hBB hR hS1 hS2 hBw hA hA' hT
          go_enter Tryd.func3, Tryd.ntmps3
          go_wp2_with (go_at_call 4; refine Calls.mono (show Calls _ 4 _ _ _ from h4) ?_; rintro e w' ⟨rfl, rfl⟩)
          clear hnA hnB
          clear hcpA hmkA
          clear hcpB hmkB
          have hc1 := clone_any (some ⟨w.heap.size, 0, none⟩) w.heap.size n l W (by omega) HR.out.sa
          rw [hl] at hc1
          refine Calls.mono (show Calls _ 5 _ _ _ from hc1) ?_
          rintro e W1 ⟨aw, cw, rfl, hB1, hSw⟩
          have HSw : Hid _ := ⟨hSw⟩
          obtain ⟨nab, hnab⟩ : ∃ nab, (l ++ l').length = nab := ⟨_, rfl⟩
          have hnab2 : nab ≤ 1048576 := by rw [← hnab, List.length_append]; omega
          have hc2 := cat_any (some ⟨w.heap.size, 0, none⟩) w.heap.size n (some ⟨wA.heap.size, 0, none⟩) wA.heap.size n' l l' W1 (by omega) (by omega) (HR.out.sa.kept hB1) (HR.out.sb.kept hB1)
          rw [hl, hl', hnab] at hc2
          clear hc1 hSw
          go_wp2_with (go_at_call 6; refine Calls.mono (show Calls _ 6 _ _ _ from hc2) ?_)
          rintro e W2 ⟨rfl, hB2, hSab⟩
          have HSab : Hid _ := ⟨hSab⟩
          have hne : ∀ X, _ := fun X => nonEmpty_any (some ⟨w.heap.size, 0, none⟩) n n X (by omega)
          have hne' : ∀ X, _ := fun X => nonEmpty_any (some ⟨wA.heap.size, 0, none⟩) n' n' X (by omega)
          obtain ⟨ka, hka⟩ : ∃ ka, (if 0 < n then 1 else 0 : Nat) = ka := ⟨_, rfl⟩
          obtain ⟨kb, hkb⟩ : ∃ kb, (if 0 < n' then 1 else 0 : Nat) = kb := ⟨_, rfl⟩
          have hka1 : ka ≤ 1 := by rw [← hka]; split <;> omega
          have hkb1 : kb ≤ 1 := by rw [← hkb]; split <;> omega
          rw [hka] at hne
          rw [hkb] at hne'
          have HNE : Hid _ := ⟨hne⟩
          have HNE' : Hid _ := ⟨hne'⟩
          have hB02 : Below W.heap.size W W2 := hB1.trans (hB2.mono hB1.size)
          have hc3 := zzWriteChunk (some ⟨w.heap.size, 0, none⟩) w.heap.size n l W2 (by omega) (by omega) (by rw [hB02.cell (p := ⟨3, 15, none⟩) (World.block_lt_of_cell? _ _ HR.out.tab)]; exact HR.out.tab) (HR.out.sa.kept hB02)
          rw [hl] at hc3
          clear hc2 hSab hne hne'
          go_wp2_with (first | (go_at_call 7; refine (HNE.out _).mono ?_; rintro e w' ⟨rfl, rfl⟩) | (go_at_call 7; refine (HNE'.out _).mono ?_; rintro e w' ⟨rfl, rfl⟩))
          refine Calls.mono (show Calls _ 8 _ _ _ from hc3) ?_
          rintro e W3 hO
          obtain ⟨oa, ca, ga, rfl, hSo, hca, hB3⟩ := ofOut hO
          have HSo : Hid _ := ⟨hSo⟩
          obtain ⟨na, hna⟩ : ∃ na, (out l).length = na := ⟨_, rfl⟩
          have hna2 : na ≤ 524300 := by rw [← hna]; exact out_len l (by omega)
          rw [hna] at hca ⊢
          have hB03 : Below W.heap.size W W3 := hB02.trans (hB3.mono hB02.size)
          have hc4 := zzWriteChunk (some ⟨wA.heap.size, 0, none⟩) wA.heap.size n' l' W3 (by omega) (by omega) (by rw [hB03.cell (p := ⟨3, 15, none⟩) (World.block_lt_of_cell? _ _ HR.out.tab)]; exact HR.out.tab) (HR.out.sb.kept hB03)
          rw [hl'] at hc4
          clear hc3 hO hSo
          go_wp2_with (go_at_call 8; refine Calls.mono (show Calls _ 8 _ _ _ from hc4) ?_)
          rintro e W4 hO
          obtain ⟨ob, cb, gb, rfl, hSo, hcb, hB4⟩ := ofOut hO
          have HSp : Hid _ := ⟨hSo⟩
          obtain ⟨nb, hnb⟩ : ∃ nb, (out l').length = nb := ⟨_, rfl⟩
          have hnb2 : nb ≤ 524300 := by rw [← hnb]; exact out_len l' (by omega)
          rw [hnb] at hcb ⊢
          have hc5 := zzWriteLast 0 W4
          clear hc4 hO hSo
          go_wp2_with (go_at_call 9; refine Calls.mono (show Calls _ 9 _ _ _ from hc5) ?_)
          rintro e W5 hO
          obtain ⟨ol, cl, gl, rfl, hSo, hcl, hB5⟩ := ofOut hO
          obtain rfl := hSo.head (by decide)
          have HSq : Hid _ := ⟨hSo⟩
          have hc6 := decode_any gl cl [] W5 (by decide) (by simp) hSo hcl
          obtain ⟨nl, hnl⟩ : ∃ nl, (encs []).length = nl := ⟨_, rfl⟩
          have hnl2 : nl = 5 := by rw [← hnl]; rfl
          have HNL : Hid _ := ⟨hnl2⟩
          have hnl3 : nl ≤ 5 := by omega
          rw [hnl] at hcl hc6 ⊢
          clear hc5 hO hSo hnl2
          go_wp2_with (go_at_call 10; refine Calls.mono (show Calls _ 10 _ _ _ from hc6) ?_)
          rintro e W6 hO
          obtain ⟨da, dc, dg, rfl, hSd, hB6⟩ := ofDecoded hO
          clear hc6 hO hSd
          simp only [List.flatten_nil, List.length_nil]
          go_wp2_with fail
          obtain ⟨W7, hW7⟩ : ∃ W7, W6.alloc (.cells #[.slice da 0 dc, .int .i64 0, .slice none 0 0, .slice none 0 0, .bool true] 34) = W7 := ⟨_, rfl⟩
          have hB7 : Below W6.heap.size W6 W7 := by rw [← hW7]; exact (Below.refl _ _).alloc (Nat.le_refl _) _
          rw [hW7]
          clear hW7
          have hB57 : Below W5.heap.size W5 W7 := hB6.trans (hB7.mono hB6.size)
          have hB47 : Below W4.heap.size W4 W7 := hB5.trans (hB57.mono hB5.size)
          have hB37 : Below W3.heap.size W3 W7 := hB4.trans (hB47.mono hB4.size)
          have hB07 : Below W.heap.size W W7 := hB03.trans (hB37.mono hB03.size)
          obtain ⟨n1, hn1⟩ : ∃ n1, (out l ++ encs []).length = n1 := ⟨_, rfl⟩
          have hn1b : n1 ≤ 524305 := by rw [← hn1, List.length_append, hna, hnl]; omega
          have hc7 := cat_any oa ga ca (some ⟨gl, 0, none⟩) gl cl (out l) (encs []) W7 (by omega) (by omega) (HSo.out.kept hB37) (HSq.out.kept hB57)
          rw [hna, hnl, hn1] at hc7
          refine Calls.mono (show Calls _ 6 _ _ _ from hc7) ?_
          rintro e W8 ⟨rfl, hB8, hS8⟩
          have e1 : encs (parts l) = out l ++ encs [] := by have := encs_parts l []; rwa [List.append_nil] at this
          have hc8 := decode_any W7.heap.size n1 (parts l) W8 (by rw [e1, hn1]; omega) (parts_ok l (by omega)) (by rw [e1]; exact hS8) (by rw [e1, hn1]; exact Nat.le_refl _)
          rw [e1, hn1] at hc8
          clear hc7 hS8 e1
          go_wp2_with (go_at_call 10; refine Calls.mono (show Calls _ 10 _ _ _ from hc8) ?_)
          rintro e W9 hO
          obtain ⟨o9, c9, g9, rfl, hS9, hB9⟩ := ofDecoded hO
          have hpk : (parts l).length = ka := by rw [parts_len, hl]; exact hka
          rw [parts_flat] at hS9
          rw [parts_flat, hl, hpk]
          have hB89 : Below W7.heap.size W7 W9 := hB8.trans (hB9.mono hB8.size)
          have hB19 : Below W1.heap.size W1 W9 := (hB2.trans ((hB3.trans (hB37.mono hB3.size)).mono hB2.size)).trans (hB89.mono (Nat.le_trans hB2.size (Nat.le_trans hB3.size hB37.size)))
          have hSw9 := HSw.out.kept hB19
          have hX : ∀ o, Below W9.heap.size W9 (W9.alloc o) := fun o => (Below.refl _ _).alloc (Nat.le_refl _) o
          have hEQ : ∀ o q, Calls Tryd.prog 11 #[.slice o9 n c9, .slice aw n cw] ((W9.alloc o).drewN q) fun e w' => e = .returned (.bool true) ∧ ∃ n, w' = ((W9.alloc o).drewN q).drewN n := fun o q => by
            have := eq_any2 o9 g9 c9 aw W.heap.size cw l ((W9.alloc o).drewN q) (by omega) ⟨(hS9.kept (hX o)).head, (hS9.kept (hX o)).cell⟩ ⟨(hSw9.kept (hX o)).head, (hSw9.kept (hX o)).cell⟩
            rw [hl] at this
            exact this
          have HEQ : Hid _ := ⟨hEQ⟩
          have hNQ : ∀ X, Calls Tryd.prog 7 #[.slice aw n cw] X fun e w' => e = .returned (.int .i64 ka) ∧ w' = X := fun X => by have := nonEmpty_q aw n cw X (by omega); rw [hka] at this; exact this
          have HNQ : Hid _ := ⟨hNQ⟩
          clear hc8 hO hEQ hNQ
          go_wp2_with fail
          go_quiet (first
            | (go_at_call 7; refine Calls.quiet_of_same (HNQ.out _))
            | (go_at_call 11; refine Calls.quiet_of (HEQ.out _ _)))
          go_wp2_with fail
          obtain ⟨X, hXW⟩ : ∃ X, (W9.alloc (.cells #[.slice o9 n c9, .int .i64 ka, .slice none 0 0, .slice none 0 0, .bool true] 34)).drewN nq = X := ⟨_, rfl⟩
          have hB9X : Below W9.heap.size W9 X := by rw [← hXW]; exact below_drewN (hX _) _
          rw [hXW]
          clear hXW hX HEQ HNQ hS9 hSw9
          have hB7X : Below W7.heap.size W7 X := hB89.trans (hB9X.mono hB89.size)
          have hB5X : Below W5.heap.size W5 X := hB57.trans (hB7X.mono hB57.size)
          have hB4X : Below W4.heap.size W4 X := hB47.trans (hB7X.mono hB47.size)
          have hB3X : Below W3.heap.size W3 X := hB37.trans (hB7X.mono hB37.size)
          have hB0X : Below W.heap.size W X := hB07.trans (hB7X.mono hB07.size)
          obtain ⟨n2, hn2⟩ : ∃ n2, (out l ++ out l').length = n2 := ⟨_, rfl⟩
          have hn2b : n2 ≤ 1048600 := by rw [← hn2, List.length_append, hna, hnb]; omega
          have hd1 := cat_any oa ga ca ob gb cb (out l) (out l') X (by omega) (by omega) (HSo.out.kept hB3X) (HSp.out.kept hB4X)
          rw [hna, hnb, hn2] at hd1
          refine Calls.mono (show Calls _ 6 _ _ _ from hd1) ?_
          rintro e X1 ⟨rfl, hBX1, hSX1⟩
          obtain ⟨n3, hn3⟩ : ∃ n3, (out l ++ out l' ++ encs []).length = n3 := ⟨_, rfl⟩
          have hn3b : n3 ≤ 1048605 := by rw [← hn3, List.length_append, hn2, hnl]; omega
          have hd2 := cat_any (some ⟨X.heap.size, 0, none⟩) X.heap.size n2 (some ⟨gl, 0, none⟩) gl cl (out l ++ out l') (encs []) X1 (by omega) (by omega) hSX1 (HSq.out.kept (hB5X.trans (hBX1.mono hB5X.size)))
          rw [hn2, hnl, hn3] at hd2
          clear hd1 hSX1
          go_wp2_with (go_at_call 6; refine Calls.mono (show Calls _ 6 _ _ _ from hd2) ?_)
          rintro e X2 ⟨rfl, hBX2, hSX2⟩
          have e2 : encs (parts l ++ parts l') = out l ++ out l' ++ encs [] := by
            have := encs_parts l' []
            rw [List.append_nil] at this
            rw [encs_parts, this, List.append_assoc]
          have hd3 := decode_any X1.heap.size n3 (parts l ++ parts l') X2 (by rw [e2, hn3]; omega) (fun c hc => by
            rcases List.mem_append.1 hc with h | h
            · exact parts_ok l (by omega) c h
            · exact parts_ok l' (by omega) c h) (by rw [e2]; exact hSX2) (by rw [e2, hn3]; exact Nat.le_refl _)
          rw [e2, hn3] at hd3
          clear hd2 hSX2 e2
          go_wp2_with (go_at_call 10; refine Calls.mono (show Calls _ 10 _ _ _ from hd3) ?_)
          rintro e X3 hO
          obtain ⟨o3, c3, g3, rfl, hS3, hBX3⟩ := ofDecoded hO
          have hpk2 : ((parts l ++ parts l').length : Int) = (ka : Int) + kb := by
            have hpk' : (parts l').length = kb := by rw [parts_len, hl']; exact hkb
            rw [List.length_append, hpk, hpk']
            omega
          have hfl : (parts l ++ parts l').flatten = l ++ l' := by rw [List.flatten_append, parts_flat, parts_flat]
          rw [hfl] at hS3
          rw [hfl, hnab, hpk2]
          have hBXX3 : Below X.heap.size X X3 := (hBX1.trans (hBX2.mono hBX1.size)).trans (hBX3.mono (Nat.le_trans hBX1.size hBX2.size))
          have hB03X : Below W.heap.size W X3 := hB0X.trans (hBXX3.mono hB0X.size)
          have hB29 : Below W2.heap.size W2 X3 := hB3.trans ((hB3X.trans (hBXX3.mono hB3X.size)).mono hB3.size)
          have hSab3 := HSab.out.kept hB29
          have hY : ∀ o, Below X3.heap.size X3 (X3.alloc o) := fun o => (Below.refl _ _).alloc (Nat.le_refl _) o
          have hEQ : ∀ o, Calls Tryd.prog 11 #[.slice o3 nab c3, .slice (some ⟨W1.heap.size, 0, none⟩) nab nab] (X3.alloc o) fun e w' => e = .returned (.bool true) ∧ Below (X3.alloc o).heap.size (X3.alloc o) w' := fun o => by
            have := eq_any o3 g3 c3 (some ⟨W1.heap.size, 0, none⟩) W1.heap.size nab (l ++ l') (X3.alloc o) (by omega) (hS3.kept (hY o)) (hSab3.kept (hY o))
            rw [hnab] at this
            exact this
          have HEQ : Hid _ := ⟨hEQ⟩
          clear hd3 hO hEQ hS3 hSab3
          go_wp2_with (go_at_call 11; refine (HEQ.out _).mono ?_)
          rintro e X5 ⟨rfl, hBX5⟩
          have hd5 : X5.cell? ⟨X3.heap.size, 2, none⟩ = some (.slice none 0 0) := by
            rw [hBX5.cell (p := ⟨X3.heap.size, 2, none⟩) (by simp), Lib.cell_of_heap (blk_alloc_new X3 _)]
            rfl
          go_wp2_with fail
          go_ret
          refine ⟨rfl, ?_⟩
          have hB35 : Below X3.heap.size X3 X5 := (hY _).trans (hBX5.mono (hY _).size)
          have hBW5 : Below W.heap.size W X5 := hB03X.trans (hB35.mono hB03X.size)
          exact HR.out.since.trans (hBW5.mono HR.out.since.size)
        | none =>
          have hnA := fun W => run_neq_slice_nil_any (P := Tryd.prog) W 22 5 (some pa) n c 0 0 Tryd.underlying22
          have hmkA := run_make_row' (P := Tryd.prog) 22 5 (.int .u8 0) 1 Tryd.underlying22 Tryd.info5 rfl .i64 .i64 n (by omega) (by omega)
          obtain ⟨wA, hcpA, hBA, hS1⟩ := copyFresh w pa n c l hl (hA.cell pa rfl)
          have hpB : Arg wA none n' c' l' := hA'.kept hBA
          have hnB := fun W => run_neq_slice_nil_any (P := Tryd.prog) W 22 5 none n' c' 0 0 Tryd.underlying22
          obtain rfl := hpB.none rfl
          have hle' : l' = [] := List.eq_nil_of_length_eq_zero hl'
          have hBB : Below wA.heap.size wA wA := Below.refl _ _
          have hS2 : Sl wA none 0 l' := by rw [hle']; exact Sl.nil _ _ _
          have hBw : Below w.heap.size w wA := hBA.trans (hBB.mono hBA.size)
          have hR : Ready w wA (some ⟨w.heap.size, 0, none⟩) none w.heap.size 0 l l' := ⟨hBw, by rw [hBw.cell (p := ⟨3, 15, none⟩) (World.block_lt_of_cell? _ _ hT)]; exact hT, hS1.kept hBB, hS2⟩
          have HR : Hid _ := ⟨hR⟩
          clear hpB hBA hBB hR hS1 hS2 hBw hA hA' hT hle'
          go_enter Tryd.func3, Tryd.ntmps3
          go_wp2_with (go_at_call 4; refine Calls.mono (show Calls _ 4 _ _ _ from h4) ?_; rintro e w' ⟨rfl, rfl⟩)
          clear hnA hnB
          clear hcpA hmkA
          have hc1 := clone_any (some ⟨w.heap.size, 0, none⟩) w.heap.size n l wA (by omega) HR.out.sa
          rw [hl] at hc1
          refine Calls.mono (show Calls _ 5 _ _ _ from hc1) ?_
          rintro e W1 ⟨aw, cw, rfl, hB1, hSw⟩
          have HSw : Hid _ := ⟨hSw⟩
          obtain ⟨nab, hnab⟩ : ∃ nab, (l ++ l').length = nab := ⟨_, rfl⟩
          have hnab2 : nab ≤ 1048576 := by rw [← hnab, List.length_append]; omega
          have hc2 := cat_any (some ⟨w.heap.size, 0, none⟩) w.heap.size n none 0 c' l l' W1 (by omega) (by omega) (HR.out.sa.kept hB1) (HR.out.sb.kept hB1)
          rw [hl, hl', hnab] at hc2
          clear hc1 hSw
          go_wp2_with (go_at_call 6; refine Calls.mono (show Calls _ 6 _ _ _ from hc2) ?_)
          rintro e W2 ⟨rfl, hB2, hSab⟩
          have HSab : Hid _ := ⟨hSab⟩
          have hne : ∀ X, _ := fun X => nonEmpty_any (some ⟨w.heap.size, 0, none⟩) n n X (by omega)
          have hne' : ∀ X, _ := fun X => nonEmpty_any none 0 c' X (by omega)
          obtain ⟨ka, hka⟩ : ∃ ka, (if 0 < n then 1 else 0 : Nat) = ka := ⟨_, rfl⟩
          obtain ⟨kb, hkb⟩ : ∃ kb, (if 0 < 0 then 1 else 0 : Nat) = kb := ⟨_, rfl⟩
          have hka1 : ka ≤ 1 := by rw [← hka]; split <;> omega
          have hkb1 : kb ≤ 1 := by rw [← hkb]; split <;> omega
          rw [hka] at hne
          rw [hkb] at hne'
          have HNE : Hid _ := ⟨hne⟩
          have HNE' : Hid _ := ⟨hne'⟩
          have hB02 : Below wA.heap.size wA W2 := hB1.trans (hB2.mono hB1.size)
          have hc3 := zzWriteChunk (some ⟨w.heap.size, 0, none⟩) w.heap.size n l W2 (by omega) (by omega) (by rw [hB02.cell (p := ⟨3, 15, none⟩) (World.block_lt_of_cell? _ _ HR.out.tab)]; exact HR.out.tab) (HR.out.sa.kept hB02)
          rw [hl] at hc3
          clear hc2 hSab hne hne'
          go_wp2_with (first | (go_at_call 7; refine (HNE.out _).mono ?_; rintro e w' ⟨rfl, rfl⟩) | (go_at_call 7; refine (HNE'.out _).mono ?_; rintro e w' ⟨rfl, rfl⟩))
          refine Calls.mono (show Calls _ 8 _ _ _ from hc3) ?_
          rintro e W3 hO
          obtain ⟨oa, ca, ga, rfl, hSo, hca, hB3⟩ := ofOut hO
          have HSo : Hid _ := ⟨hSo⟩
          obtain ⟨na, hna⟩ : ∃ na, (out l).length = na := ⟨_, rfl⟩
          have hna2 : na ≤ 524300 := by rw [← hna]; exact out_len l (by omega)
          rw [hna] at hca ⊢
          have hB03 : Below wA.heap.size wA W3 := hB02.trans (hB3.mono hB02.size)
          have hc4 := zzWriteChunk none 0 c' l' W3 (by omega) (by omega) (by rw [hB03.cell (p := ⟨3, 15, none⟩) (World.block_lt_of_cell? _ _ HR.out.tab)]; exact HR.out.tab) (HR.out.sb.kept hB03)
          rw [hl'] at hc4
          clear hc3 hO hSo
          go_wp2_with (go_at_call 8; refine Calls.mono (show Calls _ 8 _ _ _ from hc4) ?_)
          rintro e W4 hO
          obtain ⟨ob, cb, gb, rfl, hSo, hcb, hB4⟩ := ofOut hO
          have HSp : Hid _ := ⟨hSo⟩
          obtain ⟨nb, hnb⟩ : ∃ nb, (out l').length = nb := ⟨_, rfl⟩
          have hnb2 : nb ≤ 524300 := by rw [← hnb]; exact out_len l' (by omega)
          rw [hnb] at hcb ⊢
          have hc5 := zzWriteLast 0 W4
          clear hc4 hO hSo
          go_wp2_with (go_at_call 9; refine Calls.mono (show Calls _ 9 _ _ _ from hc5) ?_)
          rintro e W5 hO
          obtain ⟨ol, cl, gl, rfl, hSo, hcl, hB5⟩ := ofOut hO
          obtain rfl := hSo.head (by decide)
          have HSq : Hid _ := ⟨hSo⟩
          have hc6 := decode_any gl cl [] W5 (by decide) (by simp) hSo hcl
          obtain ⟨nl, hnl⟩ : ∃ nl, (encs []).length = nl := ⟨_, rfl⟩
          have hnl2 : nl = 5 := by rw [← hnl]; rfl
          have HNL : Hid _ := ⟨hnl2⟩
          have hnl3 : nl ≤ 5 := by omega
          rw [hnl] at hcl hc6 ⊢
          clear hc5 hO hSo hnl2
          go_wp2_with (go_at_call 10; refine Calls.mono (show Calls _ 10 _ _ _ from hc6) ?_)
          rintro e W6 hO
          obtain ⟨da, dc, dg, rfl, hSd, hB6⟩ := ofDecoded hO
          clear hc6 hO hSd
          simp only [List.flatten_nil, List.length_nil]
          go_wp2_with fail
          obtain ⟨W7, hW7⟩ : ∃ W7, W6.alloc (.cells #[.slice da 0 dc, .int .i64 0, .slice none 0 0, .slice none 0 0, .bool true] 34) = W7 := ⟨_, rfl⟩
          have hB7 : Below W6.heap.size W6 W7 := by rw [← hW7]; exact (Below.refl _ _).alloc (Nat.le_refl _) _
          rw [hW7]
          clear hW7
          have hB57 : Below W5.heap.size W5 W7 := hB6.trans (hB7.mono hB6.size)
          have hB47 : Below W4.heap.size W4 W7 := hB5.trans (hB57.mono hB5.size)
          have hB37 : Below W3.heap.size W3 W7 := hB4.trans (hB47.mono hB4.size)
          have hB07 : Below wA.heap.size wA W7 := hB03.trans (hB37.mono hB03.size)
          obtain ⟨n1, hn1⟩ : ∃ n1, (out l ++ encs []).length = n1 := ⟨_, rfl⟩
          have hn1b : n1 ≤ 524305 := by rw [← hn1, List.length_append, hna, hnl]; omega
          have hc7 := cat_any oa ga ca (some ⟨gl, 0, none⟩) gl cl (out l) (encs []) W7 (by omega) (by omega) (HSo.out.kept hB37) (HSq.out.kept hB57)
          rw [hna, hnl, hn1] at hc7
          refine Calls.mono (show Calls _ 6 _ _ _ from hc7) ?_
          rintro e W8 ⟨rfl, hB8, hS8⟩
          have e1 : encs (parts l) = out l ++ encs [] := by have := encs_parts l []; rwa [List.append_nil] at this
          have hc8 := decode_any W7.heap.size n1 (parts l) W8 (by rw [e1, hn1]; omega) (parts_ok l (by omega)) (by rw [e1]; exact hS8) (by rw [e1, hn1]; exact Nat.le_refl _)
          rw [e1, hn1] at hc8
          clear hc7 hS8 e1
          go_wp2_with (go_at_call 10; refine Calls.mono (show Calls _ 10 _ _ _ from hc8) ?_)
          rintro e W9 hO
          obtain ⟨o9, c9, g9, rfl, hS9, hB9⟩ := ofDecoded hO
          have hpk : (parts l).length = ka := by rw [parts_len, hl]; exact hka
          rw [parts_flat] at hS9
          rw [parts_flat, hl, hpk]
          have hB89 : Below W7.heap.size W7 W9 := hB8.trans (hB9.mono hB8.size)
          have hB19 : Below W1.heap.size W1 W9 := (hB2.trans ((hB3.trans (hB37.mono hB3.size)).mono hB2.size)).trans (hB89.mono (Nat.le_trans hB2.size (Nat.le_trans hB3.size hB37.size)))
          have hSw9 := HSw.out.kept hB19
          have hX : ∀ o, Below W9.heap.size W9 (W9.alloc o) := fun o => (Below.refl _ _).alloc (Nat.le_refl _) o
          have hEQ : ∀ o q, Calls Tryd.prog 11 #[.slice o9 n c9, .slice aw n cw] ((W9.alloc o).drewN q) fun e w' => e = .returned (.bool true) ∧ ∃ n, w' = ((W9.alloc o).drewN q).drewN n := fun o q => by
            have := eq_any2 o9 g9 c9 aw wA.heap.size cw l ((W9.alloc o).drewN q) (by omega) ⟨(hS9.kept (hX o)).head, (hS9.kept (hX o)).cell⟩ ⟨(hSw9.kept (hX o)).head, (hSw9.kept (hX o)).cell⟩
            rw [hl] at this
            exact this
          have HEQ : Hid _ := ⟨hEQ⟩
          have hNQ : ∀ X, Calls Tryd.prog 7 #[.slice aw n cw] X fun e w' => e = .returned (.int .i64 ka) ∧ w' = X := fun X => by have := nonEmpty_q aw n cw X (by omega); rw [hka] at this; exact this
          have HNQ : Hid _ := ⟨hNQ⟩
          clear hc8 hO hEQ hNQ
          go_wp2_with fail
          go_quiet (first
            | (go_at_call 7; refine Calls.quiet_of_same (HNQ.out _))
            | (go_at_call 11; refine Calls.quiet_of (HEQ.out _ _)))
          go_wp2_with fail
          obtain ⟨X, hXW⟩ : ∃ X, (W9.alloc (.cells #[.slice o9 n c9, .int .i64 ka, .slice none 0 0, .slice none 0 0, .bool true] 34)).drewN nq = X := ⟨_, rfl⟩
          have hB9X : Below W9.heap.size W9 X := by rw [← hXW]; exact below_drewN (hX _) _
          rw [hXW]
          clear hXW hX HEQ HNQ hS9 hSw9
          have hB7X : Below W7.heap.size W7 X := hB89.trans (hB9X.mono hB89.size)
          have hB5X : Below W5.heap.size W5 X := hB57.trans (hB7X.mono hB57.size)
          have hB4X : Below W4.heap.size W4 X := hB47.trans (hB7X.mono hB47.size)
          have hB3X : Below W3.heap.size W3 X := hB37.trans (hB7X.mono hB37.size)
          have hB0X : Below wA.heap.size wA X := hB07.trans (hB7X.mono hB07.size)
          obtain ⟨n2, hn2⟩ : ∃ n2, (out l ++ out l').length = n2 := ⟨_, rfl⟩
          have hn2b : n2 ≤ 1048600 := by rw [← hn2, List.length_append, hna, hnb]; omega
          have hd1 := cat_any oa ga ca ob gb cb (out l) (out l') X (by omega) (by omega) (HSo.out.kept hB3X) (HSp.out.kept hB4X)
          rw [hna, hnb, hn2] at hd1
          refine Calls.mono (show Calls _ 6 _ _ _ from hd1) ?_
          rintro e X1 ⟨rfl, hBX1, hSX1⟩
          obtain ⟨n3, hn3⟩ : ∃ n3, (out l ++ out l' ++ encs []).length = n3 := ⟨_, rfl⟩
          have hn3b : n3 ≤ 1048605 := by rw [← hn3, List.length_append, hn2, hnl]; omega
          have hd2 := cat_any (some ⟨X.heap.size, 0, none⟩) X.heap.size n2 (some ⟨gl, 0, none⟩) gl cl (out l ++ out l') (encs []) X1 (by omega) (by omega) hSX1 (HSq.out.kept (hB5X.trans (hBX1.mono hB5X.size)))
          rw [hn2, hnl, hn3] at hd2
          clear hd1 hSX1
          go_wp2_with (go_at_call 6; refine Calls.mono (show Calls _ 6 _ _ _ from hd2) ?_)
          rintro e X2 ⟨rfl, hBX2, hSX2⟩
          have e2 : encs (parts l ++ parts l') = out l ++ out l' ++ encs [] := by
            have := encs_parts l' []
            rw [List.append_nil] at this
            rw [encs_parts, this, List.append_assoc]
          have hd3 := decode_any X1.heap.size n3 (parts l ++ parts l') X2 (by rw [e2, hn3]; omega) (fun c hc => by
            rcases List.mem_append.1 hc with h | h
            · exact parts_ok l (by omega) c h
            · exact parts_ok l' (by omega) c h) (by rw [e2]; exact hSX2) (by rw [e2, hn3]; exact Nat.le_refl _)
          rw [e2, hn3] at hd3
          clear hd2 hSX2 e2
          go_wp2_with (go_at_call 10; refine Calls.mono (show Calls _ 10 _ _ _ from hd3) ?_)
          rintro e X3 hO
          obtain ⟨o3, c3, g3, rfl, hS3, hBX3⟩ := ofDecoded hO
          have hpk2 : ((parts l ++ parts l').length : Int) = (ka : Int) + kb := by
            have hpk' : (parts l').length = kb := by rw [parts_len, hl']; exact hkb
            rw [List.length_append, hpk, hpk']
            omega
          have hfl : (parts l ++ parts l').flatten = l ++ l' := by rw [List.flatten_append, parts_flat, parts_flat]
          rw [hfl] at hS3
          rw [hfl, hnab, hpk2]
          have hBXX3 : Below X.heap.size X X3 := (hBX1.trans (hBX2.mono hBX1.size)).trans (hBX3.mono (Nat.le_trans hBX1.size hBX2.size))
          have hB03X : Below wA.heap.size wA X3 := hB0X.trans (hBXX3.mono hB0X.size)
          have hB29 : Below W2.heap.size W2 X3 := hB3.trans ((hB3X.trans (hBXX3.mono hB3X.size)).mono hB3.size)
          have hSab3 := HSab.out.kept hB29
          have hY : ∀ o, Below X3.heap.size X3 (X3.alloc o) := fun o => (Below.refl _ _).alloc (Nat.le_refl _) o
          have hEQ : ∀ o, Calls Tryd.prog 11 #[.slice o3 nab c3, .slice (some ⟨W1.heap.size, 0, none⟩) nab nab] (X3.alloc o) fun e w' => e = .returned (.bool true) ∧ Below (X3.alloc o).heap.size (X3.alloc o) w' := fun o => by
            have := eq_any o3 g3 c3 (some ⟨W1.heap.size, 0, none⟩) W1.heap.size nab (l ++ l') (X3.alloc o) (by omega) (hS3.kept (hY o)) (hSab3.kept (hY o))
            rw [hnab] at this
            exact this
          have HEQ : Hid _ := ⟨hEQ⟩
          clear hd3 hO hEQ hS3 hSab3
          go_wp2_with (go_at_call 11; refine (HEQ.out _).mono ?_)
          rintro e X5 ⟨rfl, hBX5⟩
          have hd5 : X5.cell? ⟨X3.heap.size, 2, none⟩ = some (.slice none 0 0) := by
            rw [hBX5.cell (p := ⟨X3.heap.size, 2, none⟩) (by simp), Lib.cell_of_heap (blk_alloc_new X3 _)]
            rfl
          go_wp2_with fail
          go_ret
          refine ⟨rfl, ?_⟩
          have hB35 : Below X3.heap.size X3 X5 := (hY _).trans (hBX5.mono (hY _).size)
          have hBW5 : Below wA.heap.size wA X5 := hB03X.trans (hB35.mono hB03X.size)
          exact HR.out.since.trans (hBW5.mono HR.out.since.size)
      | none =>
        cases a' with
        | some pb =>
          have hnA := fun W => run_neq_slice_nil_any (P := Tryd.prog) W 22 5 none n c 0 0 Tryd.underlying22
          obtain rfl := hA.none rfl
          have hle : l = [] := List.eq_nil_of_length_eq_zero hl
          have hBA : Below w.heap.size w w := Below.refl _ _
          have hS1 : Sl w none 0 l := by rw [hle]; exact Sl.nil _ _ _
          have hpB : Arg w (some pb) n' c' l' := hA'.kept hBA
          have hnB := fun W => run_neq_slice_nil_any (P := Tryd.prog) W 22 5 (some pb) n' c' 0 0 Tryd.underlying22
          have hmkB := run_make_row' (P := Tryd.prog) 22 5 (.int .u8 0) 1 Tryd.underlying22 Tryd.info5 rfl .i64 .i64 n' (by omega) (by omega)
          obtain ⟨W, hcpB, hBB, hS2⟩ := copyFresh w pb n' c' l' hl' (hpB.cell pb rfl)
          have hBw : Below w.heap.size w W := hBA.trans (hBB.mono hBA.size)
          have hR : Ready w W none (some ⟨w.heap.size, 0, none⟩) 0 w.heap.size l l' := ⟨hBw, by rw [hBw.cell (p := ⟨3, 15, none⟩) (World.block_lt_of_cell? _ _ hT)]; exact hT, hS1.kept hBB, hS2⟩
          have HR : Hid _ := ⟨hR⟩
          clear hpB hBA hBB hR hS1 hS2 hBw hA hA' hT hle
          go_enter Tryd.func3, Tryd.ntmps3
          go_wp2_with (go_at_call 4; refine Calls.mono (show Calls _ 4 _ _ _ from h4) ?_; rintro e w' ⟨rfl, rfl⟩)
          clear hnA hnB
          clear hcpB hmkB
          have hc1 := clone_any none 0 c l W (by omega) HR.out.sa
          rw [hl] at hc1
          refine Calls.mono (show Calls _ 5 _ _ _ from hc1) ?_
          rintro e W1 ⟨aw, cw, rfl, hB1, hSw⟩
          have HSw : Hid _ := ⟨hSw⟩
          obtain ⟨nab, hnab⟩ : ∃ nab, (l ++ l').length = nab := ⟨_, rfl⟩
          have hnab2 : nab ≤ 1048576 := by rw [← hnab, List.length_append]; omega
          have hc2 := cat_any none 0 c (some ⟨w.heap.size, 0, none⟩) w.heap.size n' l l' W1 (by omega) (by omega) (HR.out.sa.kept hB1) (HR.out.sb.kept hB1)
          rw [hl, hl', hnab] at hc2
          clear hc1 hSw
          go_wp2_with (go_at_call 6; refine Calls.mono (show Calls _ 6 _ _ _ from hc2) ?_)
          rintro e W2 ⟨rfl, hB2, hSab⟩
          have HSab : Hid _ := ⟨hSab⟩
          have hne : ∀ X, _ := fun X => nonEmpty_any none 0 c X (by omega)
          have hne' : ∀ X, _ := fun X => nonEmpty_any (some ⟨w.heap.size, 0, none⟩) n' n' X (by omega)
          obtain ⟨ka, hka⟩ : ∃ ka, (if 0 < 0 then 1 else 0 : Nat) = ka := ⟨_, rfl⟩
          obtain ⟨kb, hkb⟩ : ∃ kb, (if 0 < n' then 1 else 0 : Nat) = kb := ⟨_, rfl⟩
          have hka1 : ka ≤ 1 := by rw [← hka]; split <;> omega
          have hkb1 : kb ≤ 1 := by rw [← hkb]; split <;> omega
          rw [hka] at hne
          rw [hkb] at hne'
          have HNE : Hid _ := ⟨hne⟩
          have HNE' : Hid _ := ⟨hne'⟩
          have hB02 : Below W.heap.size W W2 := hB1.trans (hB2.mono hB1.size)
          have hc3 := zzWriteChunk none 0 c l W2 (by omega) (by omega) (by rw [hB02.cell (p := ⟨3, 15, none⟩) (World.block_lt_of_cell? _ _ HR.out.tab)]; exact HR.out.tab) (HR.out.sa.kept hB02)
          rw [hl] at hc3
          clear hc2 hSab hne hne'
          go_wp2_with (first | (go_at_call 7; refine (HNE.out _).mono ?_; rintro e w' ⟨rfl, rfl⟩) | (go_at_call 7; refine (HNE'.out _).mono ?_; rintro e w' ⟨rfl, rfl⟩))
          refine Calls.mono (show Calls _ 8 _ _ _ from hc3) ?_
          rintro e W3 hO
          obtain ⟨oa, ca, ga, rfl, hSo, hca, hB3⟩ := ofOut hO
          have HSo : Hid _ := ⟨hSo⟩
          obtain ⟨na, hna⟩ : ∃ na, (out l).length = na := ⟨_, rfl⟩
          have hna2 : na ≤ 524300 := by rw [← hna]; exact out_len l (by omega)
          rw [hna] at hca ⊢
          have hB03 : Below W.heap.size W W3 := hB02.trans (hB3.mono hB02.size)
          have hc4 := zzWriteChunk (some ⟨w.heap.size, 0, none⟩) w.heap.size n' l' W3 (by omega) (by omega) (by rw [hB03.cell (p := ⟨3, 15, none⟩) (World.block_lt_of_cell? _ _ HR.out.tab)]; exact HR.out.tab) (HR.out.sb.kept hB03)
          rw [hl'] at hc4
          clear hc3 hO hSo
          go_wp2_with (go_at_call 8; refine Calls.mono (show Calls _ 8 _ _ _ from hc4) ?_)
          rintro e W4 hO
          obtain ⟨ob, cb, gb, rfl, hSo, hcb, hB4⟩ := ofOut hO
          have HSp : Hid _ := ⟨hSo⟩
          obtain ⟨nb, hnb⟩ : ∃ nb, (out l').length = nb := ⟨_, rfl⟩
          have hnb2 : nb ≤ 524300 := by rw [← hnb]; exact out_len l' (by omega)
          rw [hnb] at hcb ⊢
          have hc5 := zzWriteLast 0 W4
          clear hc4 hO hSo
          go_wp2_with (go_at_call 9; refine Calls.mono (show Calls _ 9 _ _ _ from hc5) ?_)
          rintro e W5 hO
          obtain ⟨ol, cl, gl, rfl, hSo, hcl, hB5⟩ := ofOut hO
          obtain rfl := hSo.head (by decide)
          have HSq : Hid _ := ⟨hSo⟩
          have hc6 := decode_any gl cl [] W5 (by decide) (by simp) hSo hcl
          obtain ⟨nl, hnl⟩ : ∃ nl, (encs []).length = nl := ⟨_, rfl⟩
          have hnl2 : nl = 5 := by rw [← hnl]; rfl
          have HNL : Hid _ := ⟨hnl2⟩
          have hnl3 : nl ≤ 5 := by omega
          rw [hnl] at hcl hc6 ⊢
          clear hc5 hO hSo hnl2
          go_wp2_with (go_at_call 10; refine Calls.mono (show Calls _ 10 _ _ _ from hc6) ?_)
          rintro e W6 hO
          obtain ⟨da, dc, dg, rfl, hSd, hB6⟩ := ofDecoded hO
          clear hc6 hO hSd
          simp only [List.flatten_nil, List.length_nil]
          go_wp2_with fail
          obtain ⟨W7, hW7⟩ : ∃ W7, W6.alloc (.cells #[.slice da 0 dc, .int .i64 0, .slice none 0 0, .slice none 0 0, .bool true] 34) = W7 := ⟨_, rfl⟩
          have hB7 : Below W6.heap.size W6 W7 := by rw [← hW7]; exact (Below.refl _ _).alloc (Nat.le_refl _) _
          rw [hW7]
          clear hW7
          have hB57 : Below W5.heap.size W5 W7 := hB6.trans (hB7.mono hB6.size)
          have hB47 : Below W4.heap.size W4 W7 := hB5.trans (hB57.mono hB5.size)
          have hB37 : Below W3.heap.size W3 W7 := hB4.trans (hB47.mono hB4.size)
          have hB07 : Below W.heap.size W W7 := hB03.trans (hB37.mono hB03.size)
          obtain ⟨n1, hn1⟩ : ∃ n1, (out l ++ encs []).length = n1 := ⟨_, rfl⟩
          have hn1b : n1 ≤ 524305 := by rw [← hn1, List.length_append, hna, hnl]; omega
          have hc7 := cat_any oa ga ca (some ⟨gl, 0, none⟩) gl cl (out l) (encs []) W7 (by omega) (by omega) (HSo.out.kept hB37) (HSq.out.kept hB57)
          rw [hna, hnl, hn1] at hc7
          refine Calls.mono (show Calls _ 6 _ _ _ from hc7) ?_
          rintro e W8 ⟨rfl, hB8, hS8⟩
          have e1 : encs (parts l) = out l ++ encs [] := by have := encs_parts l []; rwa [List.append_nil] at this
          have hc8 := decode_any W7.heap.size n1 (parts l) W8 (by rw [e1, hn1]; omega) (parts_ok l (by omega)) (by rw [e1]; exact hS8) (by rw [e1, hn1]; exact Nat.le_refl _)
          rw [e1, hn1] at hc8
          clear hc7 hS8 e1
          go_wp2_with (go_at_call 10; refine Calls.mono (show Calls _ 10 _ _ _ from hc8) ?_)
          rintro e W9 hO
          obtain ⟨o9, c9, g9, rfl, hS9, hB9⟩ := ofDecoded hO
          have hpk : (parts l).length = ka := by rw [parts_len, hl]; exact hka
          rw [parts_flat] at hS9
          rw [parts_flat, hl, hpk]
          have hB89 : Below W7.heap.size W7 W9 := hB8.trans (hB9.mono hB8.size)
          have hB19 : Below W1.heap.size W1 W9 := (hB2.trans ((hB3.trans (hB37.mono hB3.size)).mono hB2.size)).trans (hB89.mono (Nat.le_trans hB2.size (Nat.le_trans hB3.size hB37.size)))
          have hSw9 := HSw.out.kept hB19
          have hX : ∀ o, Below W9.heap.size W9 (W9.alloc o) := fun o => (Below.refl _ _).alloc (Nat.le_refl _) o
          have hEQ : ∀ o q, Calls Tryd.prog 11 #[.slice o9 0 c9, .slice aw 0 cw] ((W9.alloc o).drewN q) fun e w' => e = .returned (.bool true) ∧ ∃ n, w' = ((W9.alloc o).drewN q).drewN n := fun o q => by
            have := eq_any2 o9 g9 c9 aw W.heap.size cw l ((W9.alloc o).drewN q) (by omega) ⟨(hS9.kept (hX o)).head, (hS9.kept (hX o)).cell⟩ ⟨(hSw9.kept (hX o)).head, (hSw9.kept (hX o)).cell⟩
            rw [hl] at this
            exact this
          have HEQ : Hid _ := ⟨hEQ⟩
          have hNQ : ∀ X, Calls Tryd.prog 7 #[.slice aw 0 cw] X fun e w' => e = .returned (.int .i64 ka) ∧ w' = X := fun X => by have := nonEmpty_q aw 0 cw X (by omega); rw [hka] at this; exact this
          have HNQ : Hid _ := ⟨hNQ⟩
          clear hc8 hO hEQ hNQ
          go_wp2_with fail
          go_quiet (first
            | (go_at_call 7; refine Calls.quiet_of_same (HNQ.out _))
            | (go_at_call 11; refine Calls.quiet_of (HEQ.out _ _)))
          go_wp2_with fail
          obtain ⟨X, hXW⟩ : ∃ X, (W9.alloc (.cells #[.slice o9 0 c9, .int .i64 ka, .slice none 0 0, .slice none 0 0, .bool true] 34)).drewN nq = X := ⟨_, rfl⟩
          have hB9X : Below W9.heap.size W9 X := by rw [← hXW]; exact below_drewN (hX _) _
          rw [hXW]
          clear hXW hX HEQ HNQ hS9 hSw9
          have hB7X : Below W7.heap.size W7 X := hB89.trans (hB9X.mono hB89.size)
          have hB5X : Below W5.heap.size W5 X := hB57.trans (hB7X.mono hB57.size)
          have hB4X : Below W4.heap.size W4 X := hB47.trans (hB7X.mono hB47.size)
          have hB3X : Below W3.heap.size W3 X := hB37.trans (hB7X.mono hB37.size)
          have hB0X : Below W.heap.size W X := hB07.trans (hB7X.mono hB07.size)
          obtain ⟨n2, hn2⟩ : ∃ n2, (out l ++ out l').length = n2 := ⟨_, rfl⟩
          have hn2b : n2 ≤ 1048600 := by rw [← hn2, List.length_append, hna, hnb]; omega
          have hd1 := cat_any oa ga ca ob gb cb (out l) (out l') X (by omega) (by omega) (HSo.out.kept hB3X) (HSp.out.kept hB4X)
          rw [hna, hnb, hn2] at hd1
          refine Calls.mono (show Calls _ 6 _ _ _ from hd1) ?_
          rintro e X1 ⟨rfl, hBX1, hSX1⟩
          obtain ⟨n3, hn3⟩ : ∃ n3, (out l ++ out l' ++ encs []).length = n3 := ⟨_, rfl⟩
          have hn3b : n3 ≤ 1048605 := by rw [← hn3, List.length_append, hn2, hnl]; omega
          have hd2 := cat_any (some ⟨X.heap.size, 0, none⟩) X.heap.size n2 (some ⟨gl, 0, none⟩) gl cl (out l ++ out l') (encs []) X1 (by omega) (by omega) hSX1 (HSq.out.kept (hB5X.trans (hBX1.mono hB5X.size)))
          rw [hn2, hnl, hn3] at hd2
          clear hd1 hSX1
          go_wp2_with (go_at_call 6; refine Calls.mono (show Calls _ 6 _ _ _ from hd2) ?_)
          rintro e X2 ⟨rfl, hBX2, hSX2⟩
          have e2 : encs (parts l ++ parts l') = out l ++ out l' ++ encs [] := by
            have := encs_parts l' []
            rw [List.append_nil] at this
            rw [encs_parts, this, List.append_assoc]
          have hd3 := decode_any X1.heap.size n3 (parts l ++ parts l') X2 (by rw [e2, hn3]; omega) (fun c hc => by
            rcases List.mem_append.1 hc with h | h
            · exact parts_ok l (by omega) c h
            · exact parts_ok l' (by omega) c h) (by rw [e2]; exact hSX2) (by rw [e2, hn3]; exact Nat.le_refl _)
          rw [e2, hn3] at hd3
          clear hd2 hSX2 e2
          go_wp2_with (go_at_call 10; refine Calls.mono (show Calls _ 10 _ _ _ from hd3) ?_)
          rintro e X3 hO
          obtain ⟨o3, c3, g3, rfl, hS3, hBX3⟩ := ofDecoded hO
          have hpk2 : ((parts l ++ parts l').length : Int) = (ka : Int) + kb := by
            have hpk' : (parts l').length = kb := by rw [parts_len, hl']; exact hkb
            rw [List.length_append, hpk, hpk']
            omega
          have hfl : (parts l ++ parts l').flatten = l ++ l' := by rw [List.flatten_append, parts_flat, parts_flat]
          rw [hfl] at hS3
          rw [hfl, hnab, hpk2]
          have hBXX3 : Below X.heap.size X X3 := (hBX1.trans (hBX2.mono hBX1.size)).trans (hBX3.mono (Nat.le_trans hBX1.size hBX2.size))
          have hB03X : Below W.heap.size W X3 := hB0X.trans (hBXX3.mono hB0X.size)
          have hB29 : Below W2.heap.size W2 X3 := hB3.trans ((hB3X.trans (hBXX3.mono hB3X.size)).mono hB3.size)
          have hSab3 := HSab.out.kept hB29
          have hY : ∀ o, Below X3.heap.size X3 (X3.alloc o) := fun o => (Below.refl _ _).alloc (Nat.le_refl _) o
          have hEQ : ∀ o, Calls Tryd.prog 11 #[.slice o3 nab c3, .slice (some ⟨W1.heap.size, 0, none⟩) nab nab] (X3.alloc o) fun e w' => e = .returned (.bool true) ∧ Below (X3.alloc o).heap.size (X3.alloc o) w' := fun o => by
            have := eq_any o3 g3 c3 (some ⟨W1.heap.size, 0, none⟩) W1.heap.size nab (l ++ l') (X3.alloc o) (by omega) (hS3.kept (hY o)) (hSab3.kept (hY o))
            rw [hnab] at this
            exact this
          have HEQ : Hid _ := ⟨hEQ⟩
          clear hd3 hO hEQ hS3 hSab3
          go_wp2_with (go_at_call 11; refine (HEQ.out _).mono ?_)
          rintro e X5 ⟨rfl, hBX5⟩
          have hd5 : X5.cell? ⟨X3.heap.size, 2, none⟩ = some (.slice none 0 0) := by
            rw [hBX5.cell (p := ⟨X3.heap.size, 2, none⟩) (by simp), Lib.cell_of_heap (blk_alloc_new X3 _)]
            rfl
          go_wp2_with fail
          go_ret
          refine ⟨rfl, ?_⟩
          have hB35 : Below X3.heap.size X3 X5 := (hY _).trans (hBX5.mono (hY _).size)
          have hBW5 : Below W.heap.size W X5 := hB03X.trans (hB35.mono hB03X.size)
          exact HR.out.since.trans (hBW5.mono HR.out.since.size)
        | none =>
          have hnA := fun W => run_neq_slice_nil_any (P := Tryd.prog) W 22 5 none n c 0 0 Tryd.underlying22
          obtain rfl := hA.none rfl
          have hle : l = [] := List.eq_nil_of_length_eq_zero hl
          have hBA : Below w.heap.size w w := Below.refl _ _
          have hS1 : Sl w none 0 l := by rw [hle]; exact Sl.nil _ _ _
          have hpB : Arg w none n' c' l' := hA'.kept hBA
          have hnB := fun W => run_neq_slice_nil_any (P := Tryd.prog) W 22 5 none n' c' 0 0 Tryd.underlying22
          obtain rfl := hpB.none rfl
          have hle' : l' = [] := List.eq_nil_of_length_eq_zero hl'
          have hBB : Below w.heap.size w w := Below.refl _ _
          have hS2 : Sl w none 0 l' := by rw [hle']; exact Sl.nil _ _ _
          have hBw : Below w.heap.size w w := hBA.trans (hBB.mono hBA.size)
          have hR : Ready w w none none 0 0 l l' := ⟨hBw, by rw [hBw.cell (p := ⟨3, 15, none⟩) (World.block_lt_of_cell? _ _ hT)]; exact hT, hS1.kept hBB, hS2⟩
          have HR : Hid _ := ⟨hR⟩
          clear hpB hBA hBB hR hS1 hS2 hBw hA hA' hT hle hle'
          go_enter Tryd.func3, Tryd.ntmps3
          go_wp2_with (go_at_call 4; refine Calls.mono (show Calls _ 4 _ _ _ from h4) ?_; rintro e w' ⟨rfl, rfl⟩)
          clear hnA hnB
          have hc1 := clone_any none 0 c l w (by omega) HR.out.sa
          rw [hl] at hc1
          refine Calls.mono (show Calls _ 5 _ _ _ from hc1) ?_
          rintro e W1 ⟨aw, cw, rfl, hB1, hSw⟩
          have HSw : Hid _ := ⟨hSw⟩
          obtain ⟨nab, hnab⟩ : ∃ nab, (l ++ l').length = nab := ⟨_, rfl⟩
          have hnab2 : nab ≤ 1048576 := by rw [← hnab, List.length_append]; omega
          have hc2 := cat_any none 0 c none 0 c' l l' W1 (by omega) (by omega) (HR.out.sa.kept hB1) (HR.out.sb.kept hB1)
          rw [hl, hl', hnab] at hc2
          clear hc1 hSw
          go_wp2_with (go_at_call 6; refine Calls.mono (show Calls _ 6 _ _ _ from hc2) ?_)
          rintro e W2 ⟨rfl, hB2, hSab⟩
          have HSab : Hid _ := ⟨hSab⟩
          have hne : ∀ X, _ := fun X => nonEmpty_any none 0 c X (by omega)
          have hne' : ∀ X, _ := fun X => nonEmpty_any none 0 c' X (by omega)
          obtain ⟨ka, hka⟩ : ∃ ka, (if 0 < 0 then 1 else 0 : Nat) = ka := ⟨_, rfl⟩
          obtain ⟨kb, hkb⟩ : ∃ kb, (if 0 < 0 then 1 else 0 : Nat) = kb := ⟨_, rfl⟩
          have hka1 : ka ≤ 1 := by rw [← hka]; split <;> omega
          have hkb1 : kb ≤ 1 := by rw [← hkb]; split <;> omega
          rw [hka] at hne
          rw [hkb] at hne'
          have HNE : Hid _ := ⟨hne⟩
          have HNE' : Hid _ := ⟨hne'⟩
          have hB02 : Below w.heap.size w W2 := hB1.trans (hB2.mono hB1.size)
          have hc3 := zzWriteChunk none 0 c l W2 (by omega) (by omega) (by rw [hB02.cell (p := ⟨3, 15, none⟩) (World.block_lt_of_cell? _ _ HR.out.tab)]; exact HR.out.tab) (HR.out.sa.kept hB02)
          rw [hl] at hc3
          clear hc2 hSab hne hne'
          go_wp2_with (first | (go_at_call 7; refine (HNE.out _).mono ?_; rintro e w' ⟨rfl, rfl⟩) | (go_at_call 7; refine (HNE'.out _).mono ?_; rintro e w' ⟨rfl, rfl⟩))
          refine Calls.mono (show Calls _ 8 _ _ _ from hc3) ?_
          rintro e W3 hO
          obtain ⟨oa, ca, ga, rfl, hSo, hca, hB3⟩ := ofOut hO
          have HSo : Hid _ := ⟨hSo⟩
          obtain ⟨na, hna⟩ : ∃ na, (out l).length = na := ⟨_, rfl⟩
          have hna2 : na ≤ 524300 := by rw [← hna]; exact out_len l (by omega)
          rw [hna] at hca ⊢
          have hB03 : Below w.heap.size w W3 := hB02.trans (hB3.mono hB02.size)
          have hc4 := zzWriteChunk none 0 c' l' W3 (by omega) (by omega) (by rw [hB03.cell (p := ⟨3, 15, none⟩) (World.block_lt_of_cell? _ _ HR.out.tab)]; exact HR.out.tab) (HR.out.sb.kept hB03)
          rw [hl'] at hc4
          clear hc3 hO hSo
          go_wp2_with (go_at_call 8; refine Calls.mono (show Calls _ 8 _ _ _ from hc4) ?_)
          rintro e W4 hO
          obtain ⟨ob, cb, gb, rfl, hSo, hcb, hB4⟩ := ofOut hO
          have HSp : Hid _ := ⟨hSo⟩
          obtain ⟨nb, hnb⟩ : ∃ nb, (out l').length = nb := ⟨_, rfl⟩
          have hnb2 : nb ≤ 524300 := by rw [← hnb]; exact out_len l' (by omega)
          rw [hnb] at hcb ⊢
          have hc5 := zzWriteLast 0 W4
          clear hc4 hO hSo
          go_wp2_with (go_at_call 9; refine Calls.mono (show Calls _ 9 _ _ _ from hc5) ?_)
          rintro e W5 hO
          obtain ⟨ol, cl, gl, rfl, hSo, hcl, hB5⟩ := ofOut hO
          obtain rfl := hSo.head (by decide)
          have HSq : Hid _ := ⟨hSo⟩
          have hc6 := decode_any gl cl [] W5 (by decide) (by simp) hSo hcl
          obtain ⟨nl, hnl⟩ : ∃ nl, (encs []).length = nl := ⟨_, rfl⟩
          have hnl2 : nl = 5 := by rw [← hnl]; rfl
          have HNL : Hid _ := ⟨hnl2⟩
          have hnl3 : nl ≤ 5 := by omega
          rw [hnl] at hcl hc6 ⊢
          clear hc5 hO hSo hnl2
          go_wp2_with (go_at_call 10; refine Calls.mono (show Calls _ 10 _ _ _ from hc6) ?_)
          rintro e W6 hO
          obtain ⟨da, dc, dg, rfl, hSd, hB6⟩ := ofDecoded hO
          clear hc6 hO hSd
          simp only [List.flatten_nil, List.length_nil]
          go_wp2_with fail
          obtain ⟨W7, hW7⟩ : ∃ W7, W6.alloc (.cells #[.slice da 0 dc, .int .i64 0, .slice none 0 0, .slice none 0 0, .bool true] 34) = W7 := ⟨_, rfl⟩
          have hB7 : Below W6.heap.size W6 W7 := by rw [← hW7]; exact (Below.refl _ _).alloc (Nat.le_refl _) _
          rw [hW7]
          clear hW7
          have hB57 : Below W5.heap.size W5 W7 := hB6.trans (hB7.mono hB6.size)
          have hB47 : Below W4.heap.size W4 W7 := hB5.trans (hB57.mono hB5.size)
          have hB37 : Below W3.heap.size W3 W7 := hB4.trans (hB47.mono hB4.size)
          have hB07 : Below w.heap.size w W7 := hB03.trans (hB37.mono hB03.size)
          obtain ⟨n1, hn1⟩ : ∃ n1, (out l ++ encs []).length = n1 := ⟨_, rfl⟩
          have hn1b : n1 ≤ 524305 := by rw [← hn1, List.length_append, hna, hnl]; omega
          have hc7 := cat_any oa ga ca (some ⟨gl, 0, none⟩) gl cl (out l) (encs []) W7 (by omega) (by omega) (HSo.out.kept hB37) (HSq.out.kept hB57)
          rw [hna, hnl, hn1] at hc7
          refine Calls.mono (show Calls _ 6 _ _ _ from hc7) ?_
          rintro e W8 ⟨rfl, hB8, hS8⟩
          have e1 : encs (parts l) = out l ++ encs [] := by have := encs_parts l []; rwa [List.append_nil] at this
          have hc8 := decode_any W7.heap.size n1 (parts l) W8 (by rw [e1, hn1]; omega) (parts_ok l (by omega)) (by rw [e1]; exact hS8) (by rw [e1, hn1]; exact Nat.le_refl _)
          rw [e1, hn1] at hc8
          clear hc7 hS8 e1
          go_wp2_with (go_at_call 10; refine Calls.mono (show Calls _ 10 _ _ _ from hc8) ?_)
          rintro e W9 hO
          obtain ⟨o9, c9, g9, rfl, hS9, hB9⟩ := ofDecoded hO
          have hpk : (parts l).length = ka := by rw [parts_len, hl]; exact hka
          rw [parts_flat] at hS9
          rw [parts_flat, hl, hpk]
          have hB89 : Below W7.heap.size W7 W9 := hB8.trans (hB9.mono hB8.size)
          have hB19 : Below W1.heap.size W1 W9 := (hB2.trans ((hB3.trans (hB37.mono hB3.size)).mono hB2.size)).trans (hB89.mono (Nat.le_trans hB2.size (Nat.le_trans hB3.size hB37.size)))
          have hSw9 := HSw.out.kept hB19
          have hX : ∀ o, Below W9.heap.size W9 (W9.alloc o) := fun o => (Below.refl _ _).alloc (Nat.le_refl _) o
          have hEQ : ∀ o q, Calls Tryd.prog 11 #[.slice o9 0 c9, .slice aw 0 cw] ((W9.alloc o).drewN q) fun e w' => e = .returned (.bool true) ∧ ∃ n, w' = ((W9.alloc o).drewN q).drewN n := fun o q => by
            have := eq_any2 o9 g9 c9 aw w.heap.size cw l ((W9.alloc o).drewN q) (by omega) ⟨(hS9.kept (hX o)).head, (hS9.kept (hX o)).cell⟩ ⟨(hSw9.kept (hX o)).head, (hSw9.kept (hX o)).cell⟩
            rw [hl] at this
            exact this
          have HEQ : Hid _ := ⟨hEQ⟩
          have hNQ : ∀ X, Calls Tryd.prog 7 #[.slice aw 0 cw] X fun e w' => e = .returned (.int .i64 ka) ∧ w' = X := fun X => by have := nonEmpty_q aw 0 cw X (by omega); rw [hka] at this; exact this
          have HNQ : Hid _ := ⟨hNQ⟩
          clear hc8 hO hEQ hNQ
          go_wp2_with fail
          go_quiet (first
            | (go_at_call 7; refine Calls.quiet_of_same (HNQ.out _))
            | (go_at_call 11; refine Calls.quiet_of (HEQ.out _ _)))
          go_wp2_with fail
          obtain ⟨X, hXW⟩ : ∃ X, (W9.alloc (.cells #[.slice o9 0 c9, .int .i64 ka, .slice none 0 0, .slice none 0 0, .bool true] 34)).drewN nq = X := ⟨_, rfl⟩
          have hB9X : Below W9.heap.size W9 X := by rw [← hXW]; exact below_drewN (hX _) _
          rw [hXW]
          clear hXW hX HEQ HNQ hS9 hSw9
          have hB7X : Below W7.heap.size W7 X := hB89.trans (hB9X.mono hB89.size)
          have hB5X : Below W5.heap.size W5 X := hB57.trans (hB7X.mono hB57.size)
          have hB4X : Below W4.heap.size W4 X := hB47.trans (hB7X.mono hB47.size)
          have hB3X : Below W3.heap.size W3 X := hB37.trans (hB7X.mono hB37.size)
          have hB0X : Below w.heap.size w X := hB07.trans (hB7X.mono hB07.size)
          obtain ⟨n2, hn2⟩ : ∃ n2, (out l ++ out l').length = n2 := ⟨_, rfl⟩
          have hn2b : n2 ≤ 1048600 := by rw [← hn2, List.length_append, hna, hnb]; omega
          have hd1 := cat_any oa ga ca ob gb cb (out l) (out l') X (by omega) (by omega) (HSo.out.kept hB3X) (HSp.out.kept hB4X)
          rw [hna, hnb, hn2] at hd1
          refine Calls.mono (show Calls _ 6 _ _ _ from hd1) ?_
          rintro e X1 ⟨rfl, hBX1, hSX1⟩
          obtain ⟨n3, hn3⟩ : ∃ n3, (out l ++ out l' ++ encs []).length = n3 := ⟨_, rfl⟩
          have hn3b : n3 ≤ 1048605 := by rw [← hn3, List.length_append, hn2, hnl]; omega
          have hd2 := cat_any (some ⟨X.heap.size, 0, none⟩) X.heap.size n2 (some ⟨gl, 0, none⟩) gl cl (out l ++ out l') (encs []) X1 (by omega) (by omega) hSX1 (HSq.out.kept (hB5X.trans (hBX1.mono hB5X.size)))
          rw [hn2, hnl, hn3] at hd2
          clear hd1 hSX1
          go_wp2_with (go_at_call 6; refine Calls.mono (show Calls _ 6 _ _ _ from hd2) ?_)
          rintro e X2 ⟨rfl, hBX2, hSX2⟩
          have e2 : encs (parts l ++ parts l') = out l ++ out l' ++ encs [] := by
            have := encs_parts l' []
            rw [List.append_nil] at this
            rw [encs_parts, this, List.append_assoc]
          have hd3 := decode_any X1.heap.size n3 (parts l ++ parts l') X2 (by rw [e2, hn3]; omega) (fun c hc => by
            rcases List.mem_append.1 hc with h | h
            · exact parts_ok l (by omega) c h
            · exact parts_ok l' (by omega) c h) (by rw [e2]; exact hSX2) (by rw [e2, hn3]; exact Nat.le_refl _)
          rw [e2, hn3] at hd3
          clear hd2 hSX2 e2
          go_wp2_with (go_at_call 10; refine Calls.mono (show Calls _ 10 _ _ _ from hd3) ?_)
          rintro e X3 hO
          obtain ⟨o3, c3, g3, rfl, hS3, hBX3⟩ := ofDecoded hO
          have hpk2 : ((parts l ++ parts l').length : Int) = (ka : Int) + kb := by
            have hpk' : (parts l').length = kb := by rw [parts_len, hl']; exact hkb
            rw [List.length_append, hpk, hpk']
            omega
          have hfl : (parts l ++ parts l').flatten = l ++ l' := by rw [List.flatten_append, parts_flat, parts_flat]
          rw [hfl] at hS3
          rw [hfl, hnab, hpk2]
          have hBXX3 : Below X.heap.size X X3 := (hBX1.trans (hBX2.mono hBX1.size)).trans (hBX3.mono (Nat.le_trans hBX1.size hBX2.size))
          have hB03X : Below w.heap.size w X3 := hB0X.trans (hBXX3.mono hB0X.size)
          have hB29 : Below W2.heap.size W2 X3 := hB3.trans ((hB3X.trans (hBXX3.mono hB3X.size)).mono hB3.size)
          have hSab3 := HSab.out.kept hB29
          have hY : ∀ o, Below X3.heap.size X3 (X3.alloc o) := fun o => (Below.refl _ _).alloc (Nat.le_refl _) o
          have hEQ : ∀ o, Calls Tryd.prog 11 #[.slice o3 nab c3, .slice (some ⟨W1.heap.size, 0, none⟩) nab nab] (X3.alloc o) fun e w' => e = .returned (.bool true) ∧ Below (X3.alloc o).heap.size (X3.alloc o) w' := fun o => by
            have := eq_any o3 g3 c3 (some ⟨W1.heap.size, 0, none⟩) W1.heap.size nab (l ++ l') (X3.alloc o) (by omega) (hS3.kept (hY o)) (hSab3.kept (hY o))
            rw [hnab] at this
            exact this
          have HEQ : Hid _ := ⟨hEQ⟩
          clear hd3 hO hEQ hS3 hSab3
          go_wp2_with (go_at_call 11; refine (HEQ.out _).mono ?_)
          rintro e X5 ⟨rfl, hBX5⟩
          have hd5 : X5.cell? ⟨X3.heap.size, 2, none⟩ = some (.slice none 0 0) := by
            rw [hBX5.cell (p := ⟨X3.heap.size, 2, none⟩) (by simp), Lib.cell_of_heap (blk_alloc_new X3 _)]
            rfl
          go_wp2_with fail
          go_ret
          refine ⟨rfl, ?_⟩
          have hB35 : Below X3.heap.size X3 X5 := (hY _).trans (hBX5.mono (hY _).size)
          have hBW5 : Below w.heap.size w X5 := hB03X.trans (hB35.mono hB03X.size)
          exact HR.out.since.trans (hBW5.mono HR.out.since.size)
    · by_cases h6 : n ≤ 524288
      · go_enter Tryd.func3, Tryd.ntmps3
        go_wp2_with (go_at_call 4; refine Calls.mono (show Calls _ 4 _ _ _ from h4) ?_; rintro e w' ⟨rfl, rfl⟩)
        go_ret
        exact ⟨rfl, Below.refl _ _⟩
      · go_enter Tryd.func3, Tryd.ntmps3
        go_wp2_with (go_at_call 4; refine Calls.mono (show Calls _ 4 _ _ _ from h4) ?_; rintro e w' ⟨rfl, rfl⟩)
        go_ret
        exact ⟨rfl, Below.refl _ _⟩
  · have e4 : decide (n + n' ≤ 1048576) = false := by simpa using ht
    rw [e4] at h4
    go_enter Tryd.func3, Tryd.ntmps3
    go_wp2_with (go_at_call 4; refine Calls.mono (show Calls _ 4 _ _ _ from h4) ?_; rintro e w' ⟨rfl, rfl⟩)
    go_ret
    exact ⟨rfl, Below.refl _ _⟩
end Go.Proofs.Qxb6616852aDoor
