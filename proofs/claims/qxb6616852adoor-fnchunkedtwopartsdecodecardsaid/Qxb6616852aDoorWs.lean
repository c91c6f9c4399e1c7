/-
  (*bufio.Writer).WriteString (21) OF A SHORT STRING; NewWriter (12).
-/
import Derived.Test.Qxb6616852aDoorWx
namespace Go.Proofs.Qxb6616852aDoor
open Go.RowKit Go.Deep

/-- A string's bytes. -/
def strB (s : ByteArray) : List Int := s.data.toList.map fun b => (b.toNat : Int)

theorem strB_length (s : ByteArray) : (strB s).length = s.size := by simp [strB]

/-- 'copy(dst, s)', dst in a row from place o on: as many bytes as go in. -/
theorem run_copy_str {P : Program} (w : World) (dT sT ty elem : TypeId) (g o dLen dCap m : Nat) (s : ByteArray) (cur : Array Value) (t : TypeId)
    (hu : P.underlying dT = some (.slice elem)) (hs : (P.info? elem).map (·.size) = some 1) (hg : w.heap[g]? = some (.cells cur t (0, 0))) (hm : Nat.min s.size dLen = m) (hfit : o + m ≤ cur.size) :
    (Builtin.copy_ #[dT, sT] ty #[.slice (some ⟨g, o, none⟩) dLen dCap, .string s]).run P w =
      .ok (goInt m) (w.setRow g (cur.toList.take o ++ vc ((strB s).take m) ++ cur.toList.drop (o + m)).toArray) := by
  have hms : m ≤ s.size := by rw [← hm]; exact Nat.min_le_left _ _
  have hlen : (vc ((strB s).take m)).length = m := by rw [vc_length, List.length_take, strB_length]; omega
  have hst := run_storeCells_at P g o t (vc ((strB s).take m)) 0 cur w hg (by rw [hlen]; simpa using hfit) (vc_one _)
  have htk : List.take m (List.map (fun b : UInt8 => Value.int IntKind.u8 (b.toNat : Int)) s.data.toList) = vc ((strB s).take m) := by
    simp [vc, strB, List.map_take, Function.comp_def]
  rw [hlen] at hst
  simp only [Nat.add_zero] at hst
  cases hq : P.info? elem with
  | none => simp [hq] at hs
  | some i =>
    simp [Builtin.copy_, run_underlying hu, Builtin.lenOf, Builtin.firstCells, sizeOf, typeInfo, hq, hm]
    rw [htk, hst]
    simp [Result.andThen]

theorem run_copy_str_none {P : Program} (w : World) (dT sT ty elem : TypeId) (d : Option Addr) (s : ByteArray)
    (hu : P.underlying dT = some (.slice elem)) (hs : (P.info? elem).map (·.size) = some 1) :
    (Builtin.copy_ #[dT, sT] ty #[.slice d 0 0, .string s]).run P w = .ok (goInt 0) w := by
  cases hq : P.info? elem with
  | none => simp [hq] at hs
  | some i =>
    cases d <;> simp [Builtin.copy_, run_underlying hu, Builtin.lenOf, Builtin.firstCells, sizeOf, typeInfo, hq, storeCells]

/-- 'b.n += 0' changes nothing. -/
theorem Wr.same {k : Nat} {bs pend : List Int} {W : World} (h : Wr k bs pend W) : Wr k bs pend (W.setCell ⟨k + 2, 2, none⟩ (.int .i64 pend.length)) := by
  have hother : ∀ i, i ≠ k + 2 → (W.setCell ⟨k + 2, 2, none⟩ (.int .i64 pend.length)).heap[i]? = W.heap[i]? := fun i hi => Below.heap_setCell _ _ _ _ hi
  obtain ⟨cur, h1, h2, h3⟩ := h.row
  refine ⟨by have := h.size; simp [World.setCell]; omega, ?_, Lib.heap_setCell_same (i := 2) h.wr _, ⟨cur, (hother _ (by omega)).trans h1, h2, h3⟩, h.len⟩
  obtain ⟨hb0, ⟨p1, lr, p2⟩ | ⟨p1, g, cap, cur', lr, p2, p3, p4, p5⟩⟩ := h.buf
  · exact ⟨hb0, .inl ⟨p1, lr, by rw [hother _ (by omega)]; exact p2⟩⟩
  · exact ⟨hb0, .inr ⟨p1, g, cap, cur', lr, by rw [hother _ (by omega)]; exact p2, p3, by rw [hother _ (by omega)]; exact p4, p5⟩⟩

/-- 'copy(b.buf[b.n:], s)': m bytes go over, whatever b.n is. -/
theorem copyStr {k m q : Nat} {bs pend : List Int} {s : ByteArray} {W : World} (h : Wr k bs pend W) (hq : pend.length = q) (hm : m = Nat.min s.size (4096 - q)) :
    ∃ W', (Builtin.copy_ #[22, 9] 3 #[.slice (if 4096 = q then some ⟨k + 1, 0, none⟩ else some ⟨k + 1, q, none⟩) (4096 - q) (4096 - q), .string s]).run Tryd.prog W = .ok (.int .i64 m) W' ∧
      W'.cell? ⟨k + 2, 0, none⟩ = some .nilIface ∧ W'.cell? ⟨k + 2, 2, none⟩ = some (.int .i64 q) ∧ W'.frozen? ⟨k + 2, 2, none⟩ = false ∧
      Wr k bs (pend ++ (strB s).take m) (W'.setCell ⟨k + 2, 2, none⟩ (.int .i64 (q + m : Nat))) ∧ Below k W W' := by
  subst hq
  have hl := h.len
  by_cases h4 : 4096 = pend.length
  · rw [if_pos h4]
    have hm0 : m = 0 := by rw [hm, ← h4]; exact Nat.min_eq_right (Nat.zero_le _)
    subst hm0
    refine ⟨W, ?_, h.c0, h.c2, h.f 2, ?_, Below.refl _ _⟩
    · rw [show 4096 - pend.length = 0 by omega]
      exact run_copy_str_none W 22 9 3 5 _ s Tryd.underlying22 Tryd.size5
    · rw [List.take_zero, List.append_nil]
      exact h.same
  · rw [if_neg h4]
    obtain ⟨cur, h1, h2, h3⟩ := h.row
    have hmm : m ≤ s.size ∧ m ≤ 4096 - pend.length := by rw [hm]; exact ⟨Nat.min_le_left _ _, Nat.min_le_right _ _⟩
    have htl : ((strB s).take m).length = m := by rw [List.length_take, strB_length]; omega
    have hcop := Wr.copied (more := (strB s).take m) h h1 h2 h3 (by omega)
    rw [htl] at hcop
    have hr := run_copy_str (P := Tryd.prog) W 22 9 3 5 (k + 1) pend.length (4096 - pend.length) (4096 - pend.length) m s cur 5 Tryd.underlying22 Tryd.size5 h1 hm.symm (by omega)
    have ho1 : ∀ i, i ≠ k + 1 → (W.setRow (k + 1) (cur.toList.take pend.length ++ vc ((strB s).take m) ++ cur.toList.drop (pend.length + m)).toArray).heap[i]? = W.heap[i]? := fun i hi => setRow_other _ _ _ _ hi
    have hw1 : (W.setRow (k + 1) (cur.toList.take pend.length ++ vc ((strB s).take m) ++ cur.toList.drop (pend.length + m)).toArray).heap[k + 2]? = _ := (ho1 (k + 2) (by omega)).trans h.wr
    exact ⟨_, hr, by rw [Lib.cell_of_heap hw1]; rfl, by rw [Lib.cell_of_heap hw1]; rfl, Lib.frozen_of_heap hw1 2, hcop, ⟨rfl, rfl, rfl, by simp, fun i hi => ho1 i (by omega)⟩⟩

def pendOf (k : Nat) (W : World) : Nat := match W.cell? ⟨k + 2, 2, none⟩ with
  | some (.int _ i) => i.toNat
  | _ => 0
theorem Wr.pend {k : Nat} {bs pend : List Int} {W : World} (h : Wr k bs pend W) : pendOf k W = pend.length := by simp [pendOf, h.c2]

/-- The loop's state: m bytes of s are gone over, t is left. -/
structure GoingS (k : Nat) (bs pend : List Int) (s : ByteArray) (w wr : World) (m : Nat) (t : ByteArray) (bs' pend' : List Int) : Prop where
  sum : bs' ++ pend' = bs ++ pend ++ (strB s).take m
  st : Wr k bs' pend' wr
  since : Below k w wr
  left : strB t = (strB s).drop m

theorem strB_extract (t : ByteArray) (m : Nat) : strB (t.extract m t.size) = (strB t).drop m := by
  simp [strB]
  rw [List.take_of_length_le (by simp)]

set_option maxHeartbeats 6400000 in
set_option maxRecDepth 100000 in
theorem wStr (k : Nat) (bs pend : List Int) (s : ByteArray) (w : World) (h : Wr k bs pend w) (hs1 : 1 ≤ s.size) (hs4 : s.size ≤ 4096) (hlim : (bs ++ pend ++ strB s).length ≤ 1073741824) :
    Calls Tryd.prog 21 #[.pointer (some ⟨k + 2, 0, none⟩), .string s] w fun e w' => e = .returned (.tuple #[.int .i64 s.size, .nilIface]) ∧ Wrote k (bs ++ pend ++ strB s) w w' := by
  have hG : GoingS k bs pend s w w 0 s bs pend := ⟨by simp, h, Below.refl _ _, by simp⟩
  have hsl := strB_length s
  obtain ⟨n, hn⟩ : ∃ n, s.size = n := ⟨_, rfl⟩
  rw [hn] at hsl hs1 hs4 ⊢
  clear h
  go_enter Tryd.func21, Tryd.ntmps21
  go_wp2_with fail
  go_loopw [1, 8] (fun x y wr => ∃ (m : Nat) (t : ByteArray) (bs' pend' : List Int), m ≤ n ∧ x = .string t ∧ y = .int .i64 m ∧ GoingS k bs pend s w wr m t bs' pend')
    (fun x _ wr => (match x with | .string t => t.size | _ => 0) + pendOf k wr)
  case atStart => exact ⟨0, s, bs, pend, Nat.zero_le _, rfl, rfl, hG⟩
  case round =>
    clear hG
    obtain ⟨m, t, bs', pend', hmn, rfl, rfl, hG⟩ := hrel
    have htl : t.size = n - m := by
      have := congrArg List.length hG.left
      rw [strB_length, List.length_drop, hsl] at this
      exact this
    obtain ⟨l, hl⟩ : ∃ l, t.size = l := ⟨_, rfl⟩
    have hln : m + l = n := by omega
    have hpl := hG.st.len
    obtain ⟨q, hq⟩ : ∃ q, pend'.length = q := ⟨_, rfl⟩
    rw [hq] at hpl
    have H : Hid _ := ⟨hG⟩
    have HA : Hid _ := ⟨avail wr hG.st⟩
    have HL : Hid _ := ⟨hln⟩
    clear hG htl hln
    go_wp2_with (go_at_call 23; refine Calls.mono (show Calls _ 23 _ _ _ from HA.out) ?_)
    rintro e W1 ⟨rfl, n1, hW1⟩
    have hw1 : Wr k bs' pend' W1 := by rw [hW1]; exact H.out.st.drewN _
    have hb1 : Below k wr W1 := by rw [hW1]; exact below_drewN (Below.refl _ _) _
    have d0 := hw1.c0
    have d1 := hw1.c1
    have d2 := hw1.c2
    rw [hq] at d2 ⊢
    clear hW1 HA
    rw [show ((4096 - q : Nat) : Int) = 4096 - (q : Int) by omega]
    obtain ⟨D, hD⟩ : ∃ D, (if 4096 = q then some (⟨k + 1, 0, none⟩ : Addr) else some ⟨k + 1, q, none⟩) = D := ⟨_, rfl⟩
    have f1 : (q : Int) ≤ 4096 := by omega
    by_cases hfit : l ≤ 4096 - q
    · obtain ⟨W', hcp, p0, p2, pf, pW, pB⟩ := copyStr (m := l) (s := t) (hw1.drewN 1) hq (by rw [hl]; exact (Nat.min_eq_left hfit).symm)
      rw [List.take_of_length_le (by rw [strB_length]; omega)] at pW
      rw [hD] at hcp
      have HC : Hid _ := ⟨hcp⟩
      have HW : Hid _ := ⟨pW⟩
      have HB : Hid _ := ⟨pB⟩
      have hml : (m : Int) + l = n := by have := HL.out; omega
      clear hcp pW pB hw1
      go_wp2_with fail
      go_region_law (refine step_copy_run rfl (.tmp 101) (.tmp 102) 22 9 rfl (.slice D (4096 - q) (4096 - q)) (.string t) (by simp [Act.eval, Act.put]) (by simp [Act.eval, Act.put]) _ W' HC.out ?_)
      all_goals (
        go_wp2_with fail
        go_ret2
        refine ⟨rfl, ⟨bs', pend' ++ strB t, ?_, ?_⟩, ?_⟩
        · rw [← List.append_assoc, H.out.sum, List.append_assoc, H.out.left, List.take_append_drop]
        · have h4 := HW.out
          rw [show ((q + l : Nat) : Int) = (q : Int) + l by omega] at h4
          exact h4
        · exact (H.out.since.trans (hb1.trans ((below_drewN (Below.refl k W1) 1).trans HB.out))).setCell (p := ⟨k + 2, 2, none⟩) (by simp) _)
    · obtain ⟨r, hr⟩ : ∃ r, 4096 - q = r := ⟨_, rfl⟩
      obtain ⟨W', hcp, p0, p2, pf, pW, pB⟩ := copyStr (m := r) (s := t) (hw1.drewN 1) hq (by rw [hl, hr]; exact (Nat.min_eq_right (by omega)).symm)
      rw [hD, hr] at hcp
      have hln := HL.out
      have hbl : bs'.length ≤ 1073741824 := by
        have := congrArg List.length H.out.sum
        rw [List.length_append, List.length_append, List.length_take] at this
        rw [List.length_append] at hlim
        omega
      have hfl := flush _ pW hbl
      rw [show ((q + r : Nat) : Int) = (q : Int) + r by omega] at hfl
      have HF : Hid _ := ⟨hfl⟩
      have HC : Hid _ := ⟨hcp⟩
      have HB : Hid _ := ⟨pB⟩
      have HBu : Hid _ := ⟨buffered W1 hw1⟩
      have f3 : ¬ (q : Int) = 0 := by omega
      have f4 : (4096 : Int) - q < l := by omega
      have f6 : r < l := by omega
      have f7 : (r : Int) ≤ l := by omega
      clear hcp pW pB hw1 hfl hbl hln
      rw [hq] at HBu
      go_wp2_with (go_at_call 24; refine Calls.mono (show Calls _ 24 _ _ _ from HBu.out) ?_; rintro e w' ⟨rfl, rfl⟩)
      go_region_law (refine step_copy_run rfl (.tmp 64) (.tmp 65) 22 9 rfl (.slice D r r) (.string t) (by simp [Act.eval, Act.put]) (by simp [Act.eval, Act.put]) _ W' HC.out ?_)
      all_goals (
        go_wp2_with (go_at_call 14; refine Calls.mono (show Calls _ 14 _ _ _ from HF.out) ?_)
        rintro e W3 ⟨rfl, hw3, hb3⟩
        have HW3 : Hid _ := ⟨hw3⟩
        have HB3 : Hid _ := ⟨hb3⟩
        clear hw3 hb3
        go_wp2_with fail
        go_roundw
        case rel =>
          have hB : Below k wr W3 := hb1.trans (((below_drewN (Below.refl k W1) 1).trans HB.out).trans ((Below.refl k W').setCell (p := ⟨k + 2, 2, none⟩) (by simp) (.int .i64 ((q : Int) + r)) |>.trans HB3.out))
          have hln := HL.out
          refine ⟨m + r, t.extract r t.size, bs' ++ (pend' ++ (strB t).take r), [], by omega, ?_, by go_num, ⟨?_, HW3.out, H.out.since.trans hB, ?_⟩⟩
          · rw [hl]
          · rw [List.append_nil, ← List.append_assoc, H.out.sum, List.take_add, List.append_assoc (bs ++ pend), H.out.left]
          · rw [strB_extract, H.out.left, List.drop_drop]
        case measure =>
          rw [HW3.out.pend, H.out.st.pend, hq]
          show (t.extract r l).size + 0 < t.size + q
          have hx := congrArg List.length (strB_extract t r)
          rw [strB_length, List.length_drop, strB_length, hl] at hx
          omega)
end Go.Proofs.Qxb6616852aDoor
