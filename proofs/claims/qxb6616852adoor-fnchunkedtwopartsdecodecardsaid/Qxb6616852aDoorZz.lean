/-
  WriteChunk (13), WriteLastChunk (16), ZZWriteChunk (8), ZZWriteLastChunk (9).
-/
import Derived.Test.Qxb6616852aDoorWs
import Derived.Test.Qxb6616852aDoorNew
import Derived.Test.Qxb6616852aDoorEnc
namespace Go.Proofs.Qxb6616852aDoor
open Go.RowKit Go.Deep

theorem len52 : Tryd.prog.arrayLen 52 = 16 := by kernel_rfl
theorem elem52 : Tryd.prog.elem 52 = 5 := by kernel_rfl
theorem sl52 (W : World) (b : Nat) : (Instr.sliceAt 52 (.pointer (some ⟨b, 0, none⟩)) none (some (.int .i64 0)) none).run Tryd.prog W = .ok (.slice (some ⟨b, 0, none⟩) 0 16) W := by
  have h := run_sliceAt_array_h (P := Tryd.prog) W 52 ⟨b, 0, none⟩ (by rw [len52, elem52]; exact Tryd.underlying52) .i64 0 (by omega) (by rw [len52]; omega)
  rw [h, elem52, Tryd.sizeOf5, Result.andThen_ok]
  simp [slicedAt, len52, Lib.addr_add]

theorem Wr.move0 {k : Nat} {pend : List Int} {W W' : World} (h : Wr k [] pend W) (hb : ∀ i, i < k + 3 → W'.heap[i]? = W.heap[i]?) (hs : k + 3 ≤ W'.heap.size) : Wr k [] pend W' := by
  obtain ⟨cur, h1, h2, h3⟩ := h.row
  refine ⟨hs, ?_, (hb _ (by omega)).trans h.wr, ⟨cur, (hb _ (by omega)).trans h1, h2, h3⟩, h.len⟩
  obtain ⟨hb0, ⟨p1, lr, p2⟩ | ⟨p1, _⟩⟩ := h.buf
  · exact ⟨hb0, .inl ⟨p1, lr, (hb _ (by omega)).trans p2⟩⟩
  · simp [vc] at p1

theorem crlf : strB ⟨#[13, 10]⟩ = [13, 10] := by decide
theorem zcrlf : strB ⟨#[48, 13, 10]⟩ = [48, 13, 10] := by decide

/-- A letter's row as a source. -/
theorem Lettered.src {sb u : Nat} {w w' : World} (h : Lettered sb u w w') : SrcAt w' (some ⟨sb, 0, none⟩) (hexb u) := fun _ => ⟨_, rfl, fun j v hj => by
  by_cases hlt : j < (hexb u).length
  · rw [Lib.addr_add, Nat.zero_add, h.cell j hlt]
    rw [← hj]
    simp [vc, nth, hlt]
  · rw [List.getElem?_eq_none (by rw [vc_length]; omega)] at hj
    cases hj⟩

theorem Sl.src {w : World} {b : Nat} {l : List Int} (h : Sl w (some ⟨b, 0, none⟩) b l) : SrcAt w (some ⟨b, 0, none⟩) l := fun _ => ⟨_, rfl, fun j v hj => by
  by_cases hlt : j < l.length
  · rw [Lib.addr_add, Nat.zero_add, h.cell j hlt]
    rw [← hj]
    simp [vc, nth, hlt]
  · rw [List.getElem?_eq_none (by rw [vc_length]; omega)] at hj
    cases hj⟩

theorem wrote_write {k b o n c : Nat} {tot cs : List Int} {w w1 : World} (h : Wrote k tot w w1) (hn : cs.length = n) (hc : n ≤ c) (ht : tot.length < 4096)
    (hbig : 4096 < tot.length + n → b < k) (hs : SrcAt w1 (some ⟨b, o, none⟩) cs) (hlim : (tot ++ cs).length ≤ 1073741824) :
    Calls Tryd.prog 19 #[.pointer (some ⟨k + 2, 0, none⟩), .slice (some ⟨b, o, none⟩) n c] w1 fun e w' => e = .returned (.tuple #[.int .i64 n, .nilIface]) ∧ Wrote k (tot ++ cs) w w' := by
  obtain ⟨⟨bs, pend, rfl, hw⟩, hb⟩ := h
  have hl : pend.length ≤ (bs ++ pend).length := by rw [List.length_append]; omega
  exact (wWrite k b o n c bs pend cs w1 hw hn hc (by omega) (fun h => hbig (by omega)) hs hlim).mono (fun e w' ⟨h1, h2, h3⟩ => ⟨h1, h2, hb.trans h3⟩)

theorem wrote_str {k : Nat} {tot : List Int} {w w1 : World} (s : ByteArray) (h : Wrote k tot w w1) (hs1 : 1 ≤ s.size) (hs4 : s.size ≤ 4096) (hlim : (tot ++ strB s).length ≤ 1073741824) :
    Calls Tryd.prog 21 #[.pointer (some ⟨k + 2, 0, none⟩), .string s] w1 fun e w' => e = .returned (.tuple #[.int .i64 s.size, .nilIface]) ∧ Wrote k (tot ++ strB s) w w' := by
  obtain ⟨⟨bs, pend, rfl, hw⟩, hb⟩ := h
  exact (wStr k bs pend s w1 hw hs1 hs4 hlim).mono (fun e w' ⟨h1, h2, h3⟩ => ⟨h1, h2, hb.trans h3⟩)

set_option maxHeartbeats 3200000 in
set_option maxRecDepth 100000 in
theorem writeChunk (k b c : Nat) (l : List Int) (w : World) (h : Wr k [] [] w) (hl1 : 1 ≤ l.length) (hl2 : l.length ≤ 1048575) (hc : l.length ≤ c) (hb : b < k)
    (hT : w.cell? ⟨3, 15, none⟩ = some (.int .u8 4)) (hs : Sl w (some ⟨b, 0, none⟩) b l) :
    Calls Tryd.prog 13 #[.pointer (some ⟨k + 2, 0, none⟩), .slice (some ⟨b, 0, none⟩) l.length c] w fun e w' => e = .returned .nilIface ∧ Wrote k (encn l) w w' := by
  have hx5 : (hexb l.length).length ≤ 5 := by rw [hexb_length]; exact hexl_len 4 _ (by omega)
  obtain ⟨n, hn⟩ : ∃ n, l.length = n := ⟨_, rfl⟩
  obtain ⟨Z, hZ⟩ : ∃ Z : Array Value, Array.replicate 16 (.int .u8 0) = Z := ⟨_, rfl⟩
  have hz : ∀ W : World, (zeroValue 52).run Tryd.prog W = .ok (.agg Z) W := fun W => by rw [← hZ]; exact zero52 W
  have hsz := h.size
  have hZs : Z.size = 16 := by rw [← hZ]; simp
  have h52 := sl52
  rw [hn] at hl1 hl2 hc hx5 ⊢
  have hnew : (w.alloc (.cells Z 52)).heap[w.heap.size]? = some (.cells Z 52 (0, 0)) := blk_alloc_new _ _
  have hap := appendInt w.heap.size n (w.alloc (.cells Z 52)) (by omega) (by rw [World.cell?_alloc_old _ _ _ (show 3 ≠ w.heap.size by omega)]; exact hT) (by simp)
    (fun j hj => by rw [Lib.cell_of_heap hnew]; simp [hZs, hj]) (fun j _ => Lib.frozen_of_heap hnew j)
  have hb0 : Below w.heap.size w (w.alloc (.cells Z 52)) := (Below.refl _ _).alloc (Nat.le_refl _) _
  have HA : Hid _ := ⟨hap⟩
  have H : Hid _ := ⟨h⟩
  have HS : Hid _ := ⟨hs⟩
  have hn0 : ¬ (n : Int) = 0 := by omega
  clear hap h hs hnew hZ
  go_enter Tryd.func13, Tryd.ntmps13
  go_wp2_with (go_at_call 20; refine Calls.mono (show Calls _ 20 _ _ _ from HA.out) ?_)
  rintro e W1 ⟨rfl, hL⟩
  have hsz0 : (w.alloc (.cells Z 52)).heap.size = w.heap.size + 1 := by simp
  have hbl : ∀ i, i < w.heap.size → W1.heap[i]? = w.heap[i]? := fun i hi => (hL.but.block i (by omega) (by omega)).trans (hb0.block i hi)
  have hB1 : Below k w W1 := ⟨hL.but.os.trans hb0.os, hL.but.tape.trans hb0.tape, hL.but.output.trans hb0.output, Nat.le_trans hb0.size hL.but.size, fun i hi => hbl i (by omega)⟩
  have hW1 : Wrote k [] w W1 := ⟨⟨[], [], rfl, H.out.move0 (fun i hi => hbl i (by omega)) (by have := hB1.size; omega)⟩, hB1⟩
  have hc1 := wrote_write (b := w.heap.size) (o := 0) (c := 16) hW1 rfl (by omega) (by simp) (by simp; omega) hL.src (by simp; omega)
  rw [List.nil_append] at hc1
  clear HA hL hW1
  go_wp2_with (go_at_call 19; refine Calls.mono (show Calls _ 19 _ _ _ from hc1) ?_)
  rintro e W2 ⟨rfl, hW2⟩
  have hc2 := wrote_str ⟨#[13, 10]⟩ hW2 (by decide) (by decide) (by rw [List.length_append, crlf]; simp; omega)
  clear hc1 hW2
  go_wp2_with (go_at_call 21; refine Calls.mono (show Calls _ 21 _ _ _ from hc2) ?_)
  rintro e W3 ⟨rfl, hW3⟩
  have hs3 : Sl W3 (some ⟨b, 0, none⟩) b l := ⟨fun _ => rfl, fun i hi => by rw [hW3.2.cell (p := ⟨b, i, none⟩) hb]; exact HS.out.cell i hi⟩
  have hc3 := wrote_write (c := c) hW3 hn hc (by rw [List.length_append, crlf]; simp; omega) (fun _ => hb) hs3.src (by rw [List.length_append, List.length_append, crlf]; simp; omega)
  clear hc2 hW3 hs3
  go_wp2_with (go_at_call 19; refine Calls.mono (show Calls _ 19 _ _ _ from hc3) ?_)
  rintro e W4 ⟨rfl, hW4⟩
  have hc4 := wrote_str ⟨#[13, 10]⟩ hW4 (by decide) (by decide) (by rw [List.length_append, List.length_append, List.length_append, crlf]; simp; omega)
  clear hc3 hW4
  go_wp2_with (go_at_call 21; refine Calls.mono (show Calls _ 21 _ _ _ from hc4) ?_)
  rintro e W5 ⟨rfl, hW5⟩
  have HF : Hid _ := ⟨hW5⟩
  clear hc4 hW5
  go_wp2_with fail
  go_ret
  refine ⟨rfl, ?_⟩
  have h5 := HF.out
  rw [crlf] at h5
  have e5 : encn l = hexb n ++ [13, 10] ++ l ++ [13, 10] := by rw [encn, hn]; simp
  rw [e5]
  exact h5

set_option maxHeartbeats 3200000 in
set_option maxRecDepth 100000 in
theorem writeLast (k c : Nat) (w : World) (h : Wr k [] [] w) :
    Calls Tryd.prog 16 #[.pointer (some ⟨k + 2, 0, none⟩), .slice none 0 c] w fun e w' => e = .returned .nilIface ∧ Wrote k (encs []) w w' := by
  have hW : Wrote k [] w w := ⟨⟨[], [], rfl, h⟩, Below.refl _ _⟩
  have hc1 := wrote_str ⟨#[48, 13, 10]⟩ hW (by decide) (by decide) (by rw [zcrlf]; simp)
  clear h hW
  go_enter Tryd.func16, Tryd.ntmps16
  go_wp2_with (go_at_call 21; refine Calls.mono (show Calls _ 21 _ _ _ from hc1) ?_)
  rintro e W2 ⟨rfl, hW2⟩
  have hc2 := wrote_str ⟨#[13, 10]⟩ hW2 (by decide) (by decide) (by rw [List.nil_append, List.length_append, zcrlf, crlf]; simp)
  clear hc1 hW2
  go_wp2_with fail
  go_loop [13] (fun x => x = .int .i64 0) (fun _ => 0)
  case atStart => rfl
  case round =>
    obtain rfl := hrel
    go_wp2_with (go_at_call 21; refine Calls.mono (show Calls _ 21 _ _ _ from hc2) ?_)
    rintro e W3 rfl hW3
    have HF : Hid _ := ⟨hW3⟩
    clear hc2 hW3
    go_wp2_with fail
    go_ret
    refine ⟨rfl, ?_⟩
    have h5 := HF.out
    rw [zcrlf, crlf] at h5
    exact h5

/-- What ZZWriteChunk writes. -/
def out (l : List Int) : List Int := if l = [] then [] else encn l

/-- A slice that reads t, with no less room. -/
def Out (t : List Int) (w : World) (e : Ending) (w' : World) : Prop :=
  (∃ ao cap g, e = .returned (.tuple #[.slice ao t.length cap, .nilIface]) ∧ Sl w' ao g t ∧ t.length ≤ cap) ∧ Below w.heap.size w w'

theorem sl_of_own {W : World} {cap : Nat} {ao : Option Addr} {l : List Int} (h : W.ownsRow 0 5 1 (.slice ao l.length cap) l.length (vc l)) : (∃ g, Sl W ao g l) ∧ l.length ≤ cap := by
  rcases h.2 with ⟨h0, h1⟩ | ⟨g, cap', cur, h0, hB, hg, hc, _, _, htk⟩
  · exact ⟨⟨0, fun hp => by omega, fun i hi => by omega⟩, by omega⟩
  · injection h0 with e1 e2 e3
    refine ⟨⟨g, fun _ => e1, fun i hi => ?_⟩, by rw [e3]; exact hc⟩
    have := Lib.cells_of_row hg (l.length * 1) i (.int .u8 (nth l i)) (by rw [htk]; simp [vc, nth, hi])
    rw [Lib.addr_add, Nat.zero_add] at this
    exact this

theorem own_form {w : World} {B n : Nat} {v : Value} {xs : List Value} (h : w.ownsRow B 5 1 v n xs) : ∃ ao cap, v = .slice ao n cap := by
  rcases h.2 with ⟨rfl, h0⟩ | ⟨g, cap, cur, rfl, _⟩
  · exact ⟨none, 0, by rw [h0]⟩
  · exact ⟨_, cap, rfl⟩

/-- b.Bytes() behind the flush. -/
theorem bytes_any {k : Nat} {t : List Int} (w : World) (h : Wr k t [] w) :
    Calls Tryd.prog 15 #[.pointer (some ⟨k, 0, none⟩)] w fun e w' => ∃ ao cap, e = .returned (.slice ao t.length cap) ∧ ((∃ g, Sl w' ao g t) ∧ t.length ≤ cap) ∧ Below k w w' := by
  refine (Tryd.Buffer_Bytes 0 k (vc t) w h.buf.isBuffer).mono ?_
  rintro e w' ⟨v, rfl, hown, n, rfl⟩
  rw [vc_length] at hown
  obtain ⟨ao, cap, rfl⟩ := own_form hown
  exact ⟨ao, cap, rfl, sl_of_own hown, below_drewN (Below.refl _ _) _⟩

/-- The Flush behind it all. -/
theorem wrote_flush {k : Nat} {tot : List Int} {w w1 : World} (h : Wrote k tot w w1) (hlim : tot.length ≤ 1073741824) :
    Calls Tryd.prog 14 #[.pointer (some ⟨k + 2, 0, none⟩)] w1 fun e w' => e = .returned .nilIface ∧ Wr k tot [] w' ∧ Below k w w' := by
  obtain ⟨⟨bs, pend, rfl, hw⟩, hb⟩ := h
  rw [List.length_append] at hlim
  exact (flush w1 hw (by omega)).mono (fun e w' ⟨h1, h2, h3⟩ => ⟨h1, h2, hb.trans h3⟩)

theorem out_length (l : List Int) (h : l.length ≤ 1048575) : (out l).length ≤ 1073741824 := by
  unfold out
  split
  · simp
  · have := hexl_len 4 l.length (by omega)
    simp [encn, hexb_length]
    omega

theorem chunk_any (k : Nat) (a : Option Addr) (b c : Nat) (l : List Int) (w : World) (h : Wr k [] [] w) (hl2 : l.length ≤ 1048575) (hc : l.length ≤ c) (hb : 0 < l.length → b < k)
    (hT : w.cell? ⟨3, 15, none⟩ = some (.int .u8 4)) (hs : Sl w a b l) :
    Calls Tryd.prog 13 #[.pointer (some ⟨k + 2, 0, none⟩), .slice a l.length c] w fun e w' => e = .returned .nilIface ∧ Wrote k (out l) w w' := by
  by_cases hl : l = []
  · subst hl
    have hW : Hid (Wrote k (out []) w w) := ⟨⟨⟨[], [], rfl, h⟩, Below.refl _ _⟩⟩
    rw [List.length_nil]
    clear h hs
    go_enter Tryd.func13, Tryd.ntmps13
    go_wp2_with fail
    go_ret
    exact ⟨rfl, hW.out⟩
  · have hp : 0 < l.length := List.length_pos_iff.2 hl
    obtain rfl := hs.head hp
    have e : out l = encn l := by rw [out, if_neg hl]
    rw [e]
    exact writeChunk k b c l w h hp hl2 hc (hb hp) hT hs

set_option maxHeartbeats 3200000 in
set_option maxRecDepth 100000 in
theorem zzWriteChunk (a : Option Addr) (b c : Nat) (l : List Int) (w : World) (hl2 : l.length ≤ 1048575) (hc : l.length ≤ c)
    (hT : w.cell? ⟨3, 15, none⟩ = some (.int .u8 4)) (hs : Sl w a b l) :
    Calls Tryd.prog 8 #[.slice a l.length c] w fun e w' => Out (out l) w e w' := by
  go_enter Tryd.func8, Tryd.ntmps8
  go_wp2_with (go_at_call 12; refine (newWriter w.heap.size _).mono ?_)
  rintro e W1 ⟨rfl, Z, hZ, hW1⟩
  have s1 : (w.alloc (.cells #[.slice none 0 0, .int .i64 0, .int .i8 0] 39)).heap.size = w.heap.size + 1 := by simp
  rw [s1] at hW1
  simp only [s1]
  have hw1 : Wr w.heap.size [] [] W1 := by rw [← hW1]; exact wr_new w Z hZ
  have hB1 : Below w.heap.size w W1 := by
    rw [← hW1]
    exact (((Below.refl _ _).alloc (Nat.le_refl _) _).alloc (by rw [s1]; omega) _).alloc (by simp; omega) _
  have hc1 := chunk_any w.heap.size a b c l W1 hw1 hl2 hc (fun hp => hs.lt hp) (by rw [hB1.cell (p := ⟨3, 15, none⟩) (World.block_lt_of_cell? _ _ hT)]; exact hT) (hs.kept hB1)
  have HC : Hid _ := ⟨hc1⟩
  clear hW1 hw1 hc1 hs hT
  go_wp2_with (go_at_call 13; refine Calls.mono (show Calls _ 13 _ _ _ from HC.out) ?_)
  rintro e W2 ⟨rfl, hW2⟩
  have hc2 := wrote_flush hW2 (out_length l hl2)
  clear hW2 HC
  go_wp2_with (go_at_call 14; refine Calls.mono (show Calls _ 14 _ _ _ from hc2) ?_)
  rintro e W3 ⟨rfl, hW3, hB3⟩
  have hc3 := bytes_any W3 hW3
  clear hc2 hW3
  go_wp2_with (go_at_call 15; refine Calls.mono (show Calls _ 15 _ _ _ from hc3) ?_)
  rintro e W4 ⟨ao, cap, rfl, ⟨⟨g, hg⟩, hcap⟩, hB4⟩
  have HG : Hid _ := ⟨hg⟩
  clear hc3 hg
  go_wp2_with fail
  go_ret2
  exact ⟨⟨ao, cap, g, rfl, HG.out, hcap⟩, hB1.trans (hB3.trans hB4)⟩

set_option maxHeartbeats 3200000 in
set_option maxRecDepth 100000 in
theorem zzWriteLast (c : Nat) (w : World) :
    Calls Tryd.prog 9 #[.slice none 0 c] w fun e w' => Out (encs []) w e w' := by
  go_enter Tryd.func9, Tryd.ntmps9
  go_wp2_with (go_at_call 12; refine (newWriter w.heap.size _).mono ?_)
  rintro e W1 ⟨rfl, Z, hZ, hW1⟩
  have s1 : (w.alloc (.cells #[.slice none 0 0, .int .i64 0, .int .i8 0] 39)).heap.size = w.heap.size + 1 := by simp
  rw [s1] at hW1
  simp only [s1]
  have hw1 : Wr w.heap.size [] [] W1 := by rw [← hW1]; exact wr_new w Z hZ
  have hB1 : Below w.heap.size w W1 := by
    rw [← hW1]
    exact (((Below.refl _ _).alloc (Nat.le_refl _) _).alloc (by rw [s1]; omega) _).alloc (by simp; omega) _
  have hc1 := writeLast w.heap.size c W1 hw1
  have HC : Hid _ := ⟨hc1⟩
  clear hW1 hw1 hc1
  go_wp2_with (go_at_call 16; refine Calls.mono (show Calls _ 16 _ _ _ from HC.out) ?_)
  rintro e W2 ⟨rfl, hW2⟩
  have hc2 := wrote_flush hW2 (by decide)
  clear hW2 HC
  go_wp2_with (go_at_call 14; refine Calls.mono (show Calls _ 14 _ _ _ from hc2) ?_)
  rintro e W3 ⟨rfl, hW3, hB3⟩
  have hc3 := bytes_any W3 hW3
  clear hc2 hW3
  go_wp2_with (go_at_call 15; refine Calls.mono (show Calls _ 15 _ _ _ from hc3) ?_)
  rintro e W4 ⟨ao, cap, rfl, ⟨⟨g, hg⟩, hcap⟩, hB4⟩
  have HG : Hid _ := ⟨hg⟩
  clear hc3 hg
  go_wp2_with fail
  go_ret2
  exact ⟨⟨ao, cap, g, rfl, HG.out, hcap⟩, hB1.trans (hB3.trans hB4)⟩
end Go.Proofs.Qxb6616852aDoor
