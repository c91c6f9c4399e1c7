/-
  (*bytes.Buffer).Write (55).
-/
import Derived.Test.Qxb6616852aDoorBuf
namespace Go.Proofs.Qxb6616852aDoor
open Go.RowKit Go.Deep

theorem room_setLast {M b : Nat} {bs : List Value} {n : Nat} {w : World} (hb : b < M) (h : Room M b bs n w) (x : Int) : Room M b bs n (w.setCell ⟨b, 2, none⟩ (.int .i8 x)) := by
  obtain ⟨g, cap, cur, lr, hbk, hg, hgr, r⟩ := h
  exact ⟨g, cap, cur, x, Lib.heap_setCell_same (i := 2) hbk _, hg, by rw [Below.heap_setCell _ _ _ _ (show g ≠ b by omega)]; exact hgr, r⟩

/-- The copy at Write's end. -/
theorem copy_end {M b n c : Nat} {bs cs : List Value} {a : Addr} {W : World} (hb : b < M) (hn : cs.length = n) (hn1 : 1 ≤ n) (hR : Room M b bs n W)
    (hsrc : ∀ j v, cs[j]? = some v → W.cell? (a.add j) = some v) (h1c : ∀ v ∈ cs, v.oneCell' = true) :
    ∃ g cap W', W.cell? ⟨b, 0, none⟩ = some (.slice (some ⟨g, 0, none⟩) (bs.length + n) cap) ∧ bs.length + n ≤ cap ∧ cap ≤ 9223372036854775807 ∧
      (Builtin.copy_ #[22, 22] 3 #[.slice (some ⟨g, bs.length, none⟩) n (cap - bs.length), .slice (some a) n c]).run Tryd.prog W = .ok (.int .i64 n) W' ∧ Buf M b (bs ++ cs) W' ∧ But M b W W' := by
  obtain ⟨g, cap, cur, lr, hbk, hg, hgr, hc, hcm, hcs, htk⟩ := hR
  have hcp := run_copy_row (P := Tryd.prog) W 22 22 3 5 g bs.length n (cap - bs.length) a n c cur 5 cs Tryd.underlying22 Tryd.size5 hgr (by rw [hn]; exact (Nat.min_self n).symm) hsrc (by rw [hn]; omega) h1c
  rw [hn] at hcp
  have hgb : g ≠ b := by omega
  have hl : (bs ++ cs).length = bs.length + n := by rw [List.length_append, hn]
  refine ⟨g, cap, _, by rw [Lib.cell_of_heap hbk]; rfl, hc, hcm, hcp, ⟨hb, .inr ⟨by omega, g, cap, _, lr, ?_, hg, setRow_heap W g cur _ 5 (0, 0) hgr, by rw [hl]; omega, hcm, ?_, ?_⟩⟩, (But.refl M b W).setRow hg _⟩
  · rw [setRow_other _ _ _ _ (Ne.symm hgb), hl]; exact hbk
  · simp only [htk, List.size_toArray, List.length_append, hn, List.length_drop, Array.length_toList]; omega
  · rw [htk, List.toList_toArray, List.take_append_of_le_length (by omega), List.take_of_length_le (by omega)]

set_option maxHeartbeats 6400000 in
set_option maxRecDepth 100000 in
theorem bufWrite (M b n c : Nat) (bs cs : List Value) (a : Addr) (w : World) (h : Buf M b bs w) (hM : M ≤ w.heap.size) (h1 : ∀ v ∈ bs, v.oneCell' = true)
    (hn : cs.length = n) (hn1 : 1 ≤ n) (ha : a.block < M) (hab : a.block ≠ b) (hsrc : ∀ j v, cs[j]? = some v → w.cell? (a.add j) = some v) (h1c : ∀ v ∈ cs, v.oneCell' = true) (hlim : bs.length + n ≤ 1099511627776) :
    Calls Tryd.prog 55 #[.pointer (some ⟨b, 0, none⟩), .slice (some a) n c] w fun e w' => e = .returned (.tuple #[.int .i64 n, .nilIface]) ∧ Buf M b (bs ++ cs) w' ∧ But M b w w' := by
  obtain ⟨hb, hcase⟩ := id h
  have hfin : ∀ W, Room M b bs n W → But M b w W → Hid (∃ g cap W', W.cell? ⟨b, 0, none⟩ = some (.slice (some ⟨g, 0, none⟩) (bs.length + n) cap) ∧ bs.length + n ≤ cap ∧ cap ≤ 9223372036854775807 ∧
      (Builtin.copy_ #[22, 22] 3 #[.slice (some ⟨g, bs.length, none⟩) n (cap - bs.length), .slice (some a) n c]).run Tryd.prog W = .ok (.int .i64 n) W' ∧ Buf M b (bs ++ cs) W' ∧ But M b w W') := fun W hR hk => by
    obtain ⟨g, cap, W', p1, p2, p3, p4, p5, p6⟩ := copy_end (c := c) hb hn hn1 hR (fun j v hj => by rw [hk.cell (by rw [Lib.block_add]; exact ha) (by rw [Lib.block_add]; exact hab)]; exact hsrc j v hj) h1c
    exact ⟨g, cap, W', p1, p2, p3, p4, p5, hk.trans p6⟩
  have HF : Hid _ := ⟨hfin⟩
  clear hfin hsrc h1c
  obtain ⟨lr, v, hbk⟩ : ∃ lr v, w.heap[b]? = some (.cells #[v, .int .i64 0, .int .i8 lr] 39 (0, 0)) := by
    rcases hcase with ⟨_, lr, hbk⟩ | ⟨_, g, cap, cur, lr, hbk, _⟩
    · exact ⟨lr, _, hbk⟩
    · exact ⟨lr, _, hbk⟩
  have c2 : w.cell? ⟨b, 2, none⟩ = some (.int .i8 lr) := by rw [Lib.cell_of_heap hbk]; rfl
  have f2 : w.frozen? ⟨b, 2, none⟩ = false := Lib.frozen_of_heap hbk 2
  have hk0 : But M b w (w.setCell ⟨b, 2, none⟩ (.int .i8 0)) := (But.refl M b w).setB 2 _
  have hM0 : M ≤ (w.setCell ⟨b, 2, none⟩ (.int .i8 0)).heap.size := by simpa [World.setCell] using hM
  clear hbk v
  rcases hcase with ⟨rfl, lr2, hbk⟩ | ⟨hl0, hR⟩
  · have hbk2 : (w.setCell ⟨b, 2, none⟩ (.int .i8 0)).heap[b]? = some (.cells #[.slice none 0 0, .int .i64 0, .int .i8 0] 39 (0, 0)) := Lib.heap_setCell_same (i := 2) hbk _
    have c0 : (w.setCell ⟨b, 2, none⟩ (.int .i8 0)).cell? ⟨b, 0, none⟩ = some (.slice none 0 0) := by rw [Lib.cell_of_heap hbk2]; rfl
    have hgrow : Calls Tryd.prog 58 #[.pointer (some ⟨b, 0, none⟩), .int .i64 n] (w.setCell ⟨b, 2, none⟩ (.int .i8 0)) fun e w' => e = .returned (.int .i64 0) ∧ Room M b [] n w' ∧ But M b (w.setCell ⟨b, 2, none⟩ (.int .i8 0)) w' := by
      by_cases h64 : n ≤ 64
      · exact grow_small M b n 0 _ hb hM0 hbk2 hn1 h64
      · exact grow_big M b n 0 _ hb hM0 hbk2 (by omega) (by omega)
    have HG : Hid _ := ⟨hgrow⟩
    have htry := Tryd.Buffer_tryGrow_none b none 0 0 n _ c0 (Nat.le_refl _) (Nat.zero_le _) (by omega)
    have HT : Hid _ := ⟨htry⟩
    clear hgrow htry c0 hbk2 hbk h hM0
    go_enter Tryd.func55, Tryd.ntmps55
    go_wp2_with (go_at_call 57; refine Calls.mono (show Calls _ 57 _ _ _ from HT.out) ?_)
    rintro e W1 ⟨rfl, rfl⟩
    go_wp2_with (go_at_call 58; refine Calls.mono (show Calls _ 58 _ _ _ from HG.out) ?_)
    rintro e W2 ⟨rfl, hRo, hk⟩
    obtain ⟨g, cap, W', p1, p2, p3, p4, p5, p6⟩ := (HF.out W2 hRo (hk0.trans hk)).out
    clear HT HG
    simp only [List.length_nil, Nat.zero_add, Nat.sub_zero] at p1 p2 p4
    go_wp2
    go_ret2
    exact ⟨rfl, p5, p6⟩
  · obtain ⟨g, cap, cur, lr2, hbk, hg, hgr, hc, hcm, hcs, htk⟩ := id (room_setLast hb hR 0)
    rw [Nat.add_zero] at hbk hc
    have c0 : (w.setCell ⟨b, 2, none⟩ (.int .i8 0)).cell? ⟨b, 0, none⟩ = some (.slice (some ⟨g, 0, none⟩) bs.length cap) := by rw [Lib.cell_of_heap hbk]; rfl
    have f0 := Lib.frozen_of_heap hbk 0
    by_cases hroom : n ≤ cap - bs.length
    · have htry := Tryd.Buffer_tryGrow_room b _ bs.length cap n _ c0 f0 hc (by unfold maxLen; omega) hroom
      have HT : Hid _ := ⟨htry⟩
      have hRo : Room M b bs n ((w.setCell ⟨b, 2, none⟩ (.int .i8 0)).setCell ⟨b, 0, none⟩ (.slice (some ⟨g, 0, none⟩) (bs.length + n) cap)) :=
        ⟨g, cap, cur, lr2, Lib.heap_setCell_same (i := 0) hbk _, hg, by rw [Below.heap_setCell _ _ _ _ (show g ≠ b by omega)]; exact hgr, by omega, hcm, hcs, htk⟩
      obtain ⟨g', cap', W', p1, p2, p3, p4, p5, p6⟩ := (HF.out _ hRo (hk0.setB 0 _)).out
      clear htry c0 f0 hbk h hM0 hRo
      have hne : ¬ cap' = bs.length := by omega
      go_enter Tryd.func55, Tryd.ntmps55
      go_wp2_with (go_at_call 57; refine Calls.mono (show Calls _ 57 _ _ _ from HT.out) ?_)
      rintro e W1 ⟨rfl, rfl⟩
      clear HT
      go_wp2
      go_ret2
      exact ⟨rfl, p5, p6⟩
    · have htry := Tryd.Buffer_tryGrow_none b _ bs.length cap n _ c0 hc (by unfold maxLen; omega) (by omega)
      have HT : Hid _ := ⟨htry⟩
      have hgrow := grow_row M b g bs.length cap n lr2 cur bs _ hb hM0 hbk rfl hg hgr hc hcm hcs htk hl0 h1 hn1 (by omega) (by omega)
      have HG : Hid _ := ⟨hgrow⟩
      clear hgrow htry c0 f0 hbk h hM0
      go_enter Tryd.func55, Tryd.ntmps55
      go_wp2_with (go_at_call 57; refine Calls.mono (show Calls _ 57 _ _ _ from HT.out) ?_)
      rintro e W1 ⟨rfl, rfl⟩
      go_wp2_with (go_at_call 58; refine Calls.mono (show Calls _ 58 _ _ _ from HG.out) ?_)
      rintro e W2 ⟨rfl, hRo, hk⟩
      obtain ⟨g', cap', W', p1, p2, p3, p4, p5, p6⟩ := (HF.out W2 hRo (hk0.trans hk)).out
      have hne : ¬ cap' = bs.length := by omega
      clear HT HG
      go_wp2
      go_ret2
      exact ⟨rfl, p5, p6⟩
end Go.Proofs.Qxb6616852aDoor
