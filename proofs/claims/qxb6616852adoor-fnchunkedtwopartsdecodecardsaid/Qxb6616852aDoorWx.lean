/-
  (*bufio.Writer).Write (19), its walk.
-/
import Derived.Test.Qxb6616852aDoorWw
namespace Go.Proofs.Qxb6616852aDoor
open Go.RowKit Go.Deep

/-- Behind the Buffer's Write of 'more' with nothing pending, and 'b.err = nil'. -/
theorem Wr.direct {k : Nat} {bs more : List Int} {w W : World} (h : Wr k bs [] w) (hb : Buf (k + 3) k (vc bs ++ vc more) W) (hk : But (k + 3) k w W) :
    Wr k (bs ++ more) [] (W.setCell ⟨k + 2, 0, none⟩ .nilIface) := by
  have hw : W.heap[k + 2]? = _ := (hk.block (k + 2) (by omega) (by omega)).trans h.wr
  obtain ⟨cur, h1, h2, h3⟩ := h.row
  have hv : W.heap[k + 1]? = _ := (hk.block (k + 1) (by omega) (by omega)).trans h1
  have hother : ∀ i, i ≠ k + 2 → (W.setCell ⟨k + 2, 0, none⟩ .nilIface).heap[i]? = W.heap[i]? := fun i hi => Below.heap_setCell _ _ _ _ hi
  refine ⟨?_, ?_, Lib.heap_setCell_same (i := 0) hw _, ⟨cur, by rw [hother _ (by omega)]; exact hv, h2, rfl⟩, by simp⟩
  · have := h.size; have := hk.size; simp [World.setCell]; omega
  · rw [← vc_append] at hb
    obtain ⟨hb0, ⟨p1, lr, p2⟩ | ⟨p1, g, cap, cur, lr, p2, p3, p4, p5⟩⟩ := hb
    · exact ⟨hb0, .inl ⟨p1, lr, by rw [hother _ (by omega)]; exact p2⟩⟩
    · exact ⟨hb0, .inr ⟨p1, g, cap, cur, lr, by rw [hother _ (by omega)]; exact p2, p3, by rw [hother _ (by omega)]; exact p4, p5⟩⟩

/-- The writer has taken 'tot' in all. -/
def Wrote (k : Nat) (tot : List Int) (w w' : World) : Prop := (∃ bs pend, bs ++ pend = tot ∧ Wr k bs pend w') ∧ Below k w w'

/-- The loop's state: m of cs are gone over. -/
structure Going (k b : Nat) (bs pend cs : List Int) (w wr : World) (m : Nat) (bs' pend' : List Int) (o' c' : Nat) : Prop where
  sum : bs' ++ pend' = bs ++ pend ++ cs.take m
  room : pend'.length < 4096
  st : Wr k bs' pend' wr
  since : Below k w wr
  src : SrcAt wr (some ⟨b, o', none⟩) (cs.drop m)
  cap : (cs.drop m).length ≤ c'
  near : b < k ∨ (m = 0 ∧ pend' = pend)

theorem SrcAt.kept {k b o : Nat} {cs : List Int} {W W' : World} (h : SrcAt W (some ⟨b, o, none⟩) cs) (hb : b < k) (hk : Below k W W') : SrcAt W' (some ⟨b, o, none⟩) cs := fun hp => by
  obtain ⟨a, ha, hc⟩ := h hp
  obtain rfl := Option.some.inj ha
  refine ⟨_, rfl, fun j v hj => ?_⟩
  rw [hk.cell (by rw [Lib.block_add]; exact hb)]
  exact hc j v hj

set_option maxHeartbeats 6400000 in
set_option maxRecDepth 100000 in
theorem wWrite (k b o n c : Nat) (bs pend cs : List Int) (w : World) (h : Wr k bs pend w) (hn : cs.length = n) (hc : n ≤ c) (hroom : pend.length < 4096)
    (hbig : 4096 < pend.length + n → b < k) (hs : SrcAt w (some ⟨b, o, none⟩) cs) (hlim : (bs ++ pend ++ cs).length ≤ 1073741824) :
    Calls Tryd.prog 19 #[.pointer (some ⟨k + 2, 0, none⟩), .slice (some ⟨b, o, none⟩) n c] w fun e w' => e = .returned (.tuple #[.int .i64 n, .nilIface]) ∧ Wrote k (bs ++ pend ++ cs) w w' := by
  have hm := method_write ⟨k, 0, none⟩
  have hnl := nilAhead_write ⟨k, 0, none⟩
  have hG : Going k b bs pend cs w w 0 bs pend o c := ⟨by simp, hroom, h, Below.refl _ _, by simpa using hs, by simp; omega, .inr ⟨rfl, rfl⟩⟩
  have hn2 : n ≤ 1073741824 := by rw [List.length_append] at hlim; omega
  clear h hs hroom hc
  go_enter Tryd.func19, Tryd.ntmps19
  go_wp2_with fail
  go_loopw [1, 4] (fun x y wr => ∃ (m o' c' : Nat) (bs' pend' : List Int), m ≤ n ∧ x = .slice (some ⟨b, o', none⟩) (n - m) c' ∧ y = .int .i64 m ∧ Going k b bs pend cs w wr m bs' pend' o' c')
    (fun x _ _ => match x with | .slice _ l _ => l | _ => 0)
  case atStart => exact ⟨0, o, c, bs, pend, Nat.zero_le _, rfl, rfl, hG⟩
  case round =>
    clear hG
    obtain ⟨m, o', c', bs', pend', hmn, rfl, rfl, hG⟩ := hrel
    obtain ⟨l, hl⟩ : ∃ l, n - m = l := ⟨_, rfl⟩
    rw [hl]
    have hcap := hG.cap
    rw [List.length_drop, hn, hl] at hcap
    have hpl := hG.room
    obtain ⟨q, hq⟩ : ∃ q, pend'.length = q := ⟨_, rfl⟩
    rw [hq] at hpl
    have H : Hid _ := ⟨hG⟩
    have HA : Hid _ := ⟨avail wr hG.st⟩
    clear hG
    go_wp2_with (go_at_call 23; refine Calls.mono (show Calls _ 23 _ _ _ from HA.out) ?_)
    rintro e W1 ⟨rfl, n1, hW1⟩
    have hw1 : Wr k bs' pend' W1 := by rw [hW1]; exact H.out.st.drewN _
    have hb1 : Below k wr W1 := by rw [hW1]; exact below_drewN (Below.refl _ _) _
    have hs1 : SrcAt W1 (some ⟨b, o', none⟩) (cs.drop m) := by rw [hW1]; exact H.out.src
    have d0 := hw1.c0
    have d1 := hw1.c1
    have d2 := hw1.c2
    have d3 := hw1.c3
    have df0 := hw1.f 0
    rw [hq] at d2 ⊢
    have hdl : (cs.drop m).length = l := by rw [List.length_drop, hn, hl]
    clear hW1 HA
    rw [show ((4096 - q : Nat) : Int) = 4096 - (q : Int) by omega]
    by_cases hfit : l ≤ 4096 - q
    · -- IT FITS
      obtain ⟨W', hcp, p0, p2, pf, pW, pB⟩ := copyIn (m := l) (sc := c') (sp := some ⟨b, o', none⟩) (cs := cs.drop m) (hw1.drewN 1) (by rw [hdl, hq]; exact (Nat.min_eq_left hfit).symm) hs1
      rw [hdl, hq] at hcp
      rw [hq] at p2 pW
      rw [List.take_of_length_le (by omega)] at pW
      have HC : Hid _ := ⟨hcp⟩
      have HW : Hid _ := ⟨pW⟩
      have HB : Hid _ := ⟨pB⟩
      have f1 : (q : Int) ≤ 4096 := by omega
      have f2 : ¬ 4096 = q := by omega
      have hml : (m : Int) + l = n := by omega
      clear hcp pW pB hw1 hs1
      go_wp2_with fail
      go_region_law (refine step_copy_run rfl (.tmp 80) (.tmp 81) 22 22 rfl (.slice (some ⟨k + 1, q, none⟩) (4096 - q) (4096 - q)) (.slice (some ⟨b, o', none⟩) l c') (by simp [Act.eval, Act.put]) (by simp [Act.eval, Act.put]) _ W' HC.out ?_)
      all_goals (
        go_wp2_with fail
        go_ret2
        refine ⟨rfl, ⟨bs', pend' ++ cs.drop m, ?_, ?_⟩, ?_⟩
        · rw [← List.append_assoc, H.out.sum, List.append_assoc, List.take_append_drop]
        · have h4 := HW.out
          rw [show ((q + l : Nat) : Int) = (q : Int) + l by omega] at h4
          exact h4
        · exact (H.out.since.trans (hb1.trans ((below_drewN (Below.refl k W1) 1).trans HB.out))).setCell (p := ⟨k + 2, 2, none⟩) (by simp) _)
    · have hbk : b < k := by
        rcases H.out.near with h1 | ⟨h1, h2⟩
        · exact h1
        · rw [h2] at hq
          exact hbig (by omega)
      by_cases hq0 : q = 0
      · -- STRAIGHT ON
        subst hq0
        have hpe : pend' = [] := List.eq_nil_of_length_eq_zero hq
        subst hpe
        have hbf := buffered W1 hw1
        obtain ⟨a, ha, hcells⟩ := hs1 (by omega)
        obtain rfl := Option.some.inj ha
        have hbl : (vc bs').length + l ≤ 1099511627776 := by
          have := congrArg List.length H.out.sum
          rw [List.append_nil] at this
          rw [vc_length, this]
          rw [List.length_append, List.length_append] at hlim
          rw [List.length_append, List.length_append, List.length_take]
          omega
        have hbw := bufWrite (k + 3) k l c' (vc bs') (vc (cs.drop m)) ⟨b, o', none⟩ W1 hw1.buf hw1.size (vc_one _) (by rw [vc_length, hdl]) (by omega) (by show b < k + 3; omega) (by show b ≠ k; omega) hcells (vc_one _) hbl
        have HB : Hid _ := ⟨hbf⟩
        have HW : Hid _ := ⟨hbw⟩
        have H1 : Hid _ := ⟨hw1⟩
        have f1 : (4096 : Int) < l := by omega
        clear hbf hbw hs1 hcells hw1 hbl
        go_wp2_with (go_at_call 24; refine Calls.mono (show Calls _ 24 _ _ _ from HB.out) ?_; rintro e w' ⟨rfl, rfl⟩)
        refine Calls.mono (show Calls _ 55 _ _ _ from HW.out) ?_
        rintro e W2 ⟨rfl, hb2, hk2⟩
        have g0 : W2.cell? ⟨k + 2, 0, none⟩ = some .nilIface := (hk2.cell (p := ⟨k + 2, 0, none⟩) (by simp) (by simp)).trans d0
        have gf : W2.frozen? ⟨k + 2, 0, none⟩ = false := (World.frozen?_of_block (a := ⟨k + 2, 0, none⟩) (hk2.block (k + 2) (by omega) (by omega))).trans df0
        have HB2 : Hid _ := ⟨hb2⟩
        have HK2 : Hid _ := ⟨hk2⟩
        have hml : (m : Int) + l = n := by omega
        clear hb2 hk2 HB HW
        go_wp2_with fail
        all_goals (
          go_roundw
          case rel =>
            obtain ⟨o2, ho2⟩ : ∃ o2, (if c' = l then some (⟨b, o', none⟩ : Addr) else some ⟨b, o' + l, none⟩) = some ⟨b, o2, none⟩ := by split <;> exact ⟨_, rfl⟩
            refine ⟨n, o2, c' - l, bs' ++ cs.drop m, [], Nat.le_refl _, by rw [ho2, Nat.sub_self], rfl, ⟨?_, by simp, H1.out.direct HB2.out HK2.out, (H.out.since.trans (hb1.trans HK2.out.toBelow)).setCell (p := ⟨k + 2, 0, none⟩) (by simp) _, ?_, ?_, .inl hbk⟩⟩
            · have h5 := H.out.sum
              rw [List.append_nil] at h5 ⊢
              rw [h5, List.append_assoc, List.take_append_drop, List.take_of_length_le (by omega)]
            · intro hp
              rw [List.length_drop] at hp
              omega
            · rw [List.length_drop]; omega
          case measure => simp; omega)
      · -- FILL AND FLUSH
        obtain ⟨r, hr⟩ : ∃ r, 4096 - q = r := ⟨_, rfl⟩
        obtain ⟨W', hcp, p0, p2, pf, pW, pB⟩ := copyIn (m := r) (sc := c') (sp := some ⟨b, o', none⟩) (cs := cs.drop m) (hw1.drewN 1) (by rw [hdl, hq, hr]; exact (Nat.min_eq_right (by omega)).symm) hs1
        rw [hdl, hq, hr] at hcp
        rw [hq] at p2 pW
        have hbl : bs'.length ≤ 1073741824 := by
          have := congrArg List.length H.out.sum
          rw [List.length_append, List.length_append, List.length_take] at this
          rw [List.length_append] at hlim
          omega
        have hfl := flush _ pW hbl
        rw [show ((q + r : Nat) : Int) = (q : Int) + r by omega] at hfl
        have HF : Hid _ := ⟨hfl⟩
        have HC : Hid _ := ⟨hcp⟩
        have HB : Hid _ := ⟨pB⟩
        have HS : Hid _ := ⟨hs1⟩
        have HBu : Hid _ := ⟨buffered W1 hw1⟩
        have f1 : (q : Int) ≤ 4096 := by omega
        have f2 : ¬ 4096 = q := by omega
        have f3 : ¬ (q : Int) = 0 := by omega
        have f4 : (4096 : Int) - q < l := by omega
        have f5 : ¬ c' = r := by omega
        have f6 : r < l := by omega
        clear hcp pW pB hw1 hs1 hfl hbl
        rw [hq] at HBu
        go_wp2_with (go_at_call 24; refine Calls.mono (show Calls _ 24 _ _ _ from HBu.out) ?_; rintro e w' ⟨rfl, rfl⟩)
        go_region_law (refine step_copy_run rfl (.tmp 43) (.tmp 44) 22 22 rfl (.slice (some ⟨k + 1, q, none⟩) r r) (.slice (some ⟨b, o', none⟩) l c') (by simp [Act.eval, Act.put]) (by simp [Act.eval, Act.put]) _ W' HC.out ?_)
        all_goals (
          go_wp2_with (go_at_call 14; refine Calls.mono (show Calls _ 14 _ _ _ from HF.out) ?_)
          rintro e W3 ⟨rfl, hw3, hb3⟩
          have HW3 : Hid _ := ⟨hw3⟩
          have HB3 : Hid _ := ⟨hb3⟩
          clear hw3 hb3
          go_wp2_with fail
          go_roundw
          case rel =>
            have hB : Below k wr W3 := hb1.trans (((below_drewN (Below.refl k W1) 1).trans HB.out).trans ((Below.refl k W').setCell (p := ⟨k + 2, 2, none⟩) (by simp) (.int .i64 ((q : Int) + r)) |>.trans HB3.out))
            refine ⟨m + r, o' + r, c' - r, bs' ++ (pend' ++ (cs.drop m).take r), [], by omega, ?_, by go_num, ⟨?_, by simp, HW3.out, H.out.since.trans hB, ?_, ?_, .inl hbk⟩⟩
            · congr 1; omega
            · rw [List.append_nil, ← List.append_assoc, H.out.sum, List.take_add, List.append_assoc (bs ++ pend)]
            · have h6 := (H.out.src.kept hbk hB).drop (cap := c') r (by omega)
              rw [if_neg f5, List.drop_drop] at h6
              exact h6
            · rw [List.length_drop]; omega
          case measure => simp; omega)
end Go.Proofs.Qxb6616852aDoor
