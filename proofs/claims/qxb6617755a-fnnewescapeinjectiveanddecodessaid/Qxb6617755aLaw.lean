/-
  THE WALK OF FnNewEscapeInjectiveAndDecodes (function 3).
-/
import Derived.Test.Qxb6617755aHolds
import Derived.Stop.BytesEq
namespace Go.Proofs.Qxb6617755a
open Go.RowKit
open Extern.Stop (cell)

/-- The eight bytes of an escape. -/
def e8 (s : ByteArray) : List UInt8 := [s.data.toList.getD 0 0, s.data.toList.getD 1 0, s.data.toList.getD 2 0, s.data.toList.getD 3 0, s.data.toList.getD 4 0, s.data.toList.getD 5 0, 0, UInt8.ofNat s.size]

theorem e8_cells (s : ByteArray) (hs : s.size ≤ 6) : (e8 s).map cell = (c8 s s.size).toList := by
  have h : (UInt8.ofNat s.size).toNat = s.size := by rw [UInt8.toNat_ofNat']; omega
  simp only [e8, c8, byteAt, List.map_cons, List.map_nil, cell, h]
  rfl

theorem e8_inj (s t : ByteArray) (hs : s.size ≤ 6) (ht : t.size ≤ 6) (h : e8 s = e8 t) : s = t := by
  have hsz : s.size = t.size := by
    have h7 : UInt8.ofNat s.size = UInt8.ofNat t.size := by
      simp only [e8, List.cons.injEq] at h
      exact h.2.2.2.2.2.2.2.1
    have := congrArg UInt8.toNat h7
    rw [UInt8.toNat_ofNat', UInt8.toNat_ofNat'] at this
    omega
  have hl : s.data.toList = t.data.toList := by
    apply List.ext_getElem?
    intro i
    have hls : s.data.toList.length = s.size := by simp
    have hlt : t.data.toList.length = t.size := by simp
    by_cases hi : i < s.size
    · have hg : s.data.toList.getD i 0 = t.data.toList.getD i 0 := by
        simp only [e8, List.cons.injEq] at h
        match i, hi with
        | 0, _ => exact h.1
        | 1, _ => exact h.2.1
        | 2, _ => exact h.2.2.1
        | 3, _ => exact h.2.2.2.1
        | 4, _ => exact h.2.2.2.2.1
        | 5, _ => exact h.2.2.2.2.2.1
        | i + 6, hi => omega
      rw [List.getD_eq_getElem?_getD, List.getD_eq_getElem?_getD] at hg
      rw [List.getElem?_eq_getElem (by omega), List.getElem?_eq_getElem (by omega)] at hg ⊢
      simpa using hg
    · rw [List.getElem?_eq_none (by omega), List.getElem?_eq_none (by omega)]
  obtain ⟨⟨a⟩⟩ := s
  obtain ⟨⟨b⟩⟩ := t
  simp only at hl
  subst hl
  rfl

theorem kept8 {W0 w3 : World} {c : Array Value} {n : Nat} (hb : Below (W0.alloc (.cells c 23)).heap.size (W0.alloc (.cells c 23)) w3) (hn : n = W0.heap.size) (o : Nat) : w3.cell? ⟨n, o, none⟩ = c[o]? := by
  subst hn
  rw [hb.cell (p := ⟨W0.heap.size, o, none⟩) (by simp), World.cell?_alloc_at _ _ _ _ rfl]

theorem run_eq8 (s t : ByteArray) (hs : s.size ≤ 6) (ht : t.size ≤ 6) (w : World) :
    (Op.equalIn 10000 23 (.agg (c8 s s.size)) (.agg (c8 t t.size))).run Try.prog w = .ok (e8 s == e8 t) w := by
  have h := run_equalIn_bytes (P := Try.prog) w 9998 23 5 8 Try.underlying23 Try.underlying5 (fun w => Try.size5 w) (e8 s) (e8 t) rfl rfl
  rw [e8_cells s hs, e8_cells t ht] at h
  exact h

theorem bytes_any (s t : ByteArray) (w : World) (hs : s.size ≤ maxLen) (ht : t.size ≤ maxLen) :
    Calls Try.prog 4 #[.string s, .string t] w fun e w' => e = .returned (.bool (decide (s.size + t.size ≤ 1048576))) ∧ w = w' := by
  unfold maxLen at hs ht
  by_cases h : s.size + t.size ≤ 1048576
  · rw [show decide (s.size + t.size ≤ 1048576) = true by simpa using h]
    go_enter Try.func4, Try.ntmps4
    go_wp2
    go_ret
    exact ⟨rfl, rfl⟩
  · rw [show decide (s.size + t.size ≤ 1048576) = false by simpa using h]
    by_cases h1 : s.size ≤ 1048576
    · by_cases h2 : t.size ≤ 1048576
      · go_enter Try.func4, Try.ntmps4
        go_wp2
        go_ret
        exact ⟨rfl, rfl⟩
      · go_enter Try.func4, Try.ntmps4
        go_wp2
        go_ret
        exact ⟨rfl, rfl⟩
    · go_enter Try.func4, Try.ntmps4
      go_wp2
      go_ret
      exact ⟨rfl, rfl⟩

theorem early (s t : ByteArray) (w : World) (hs : s.size ≤ maxLen) (ht : t.size ≤ maxLen) (h : 6 < s.size ∨ (s.size ≤ 6 ∧ 6 < t.size)) :
    Calls Try.prog 3 #[.string s, .string t] w fun e w' => e = .returned (.bool true) ∧ Below w.heap.size w w' := by
  have h5 := fun w => bytes_any s t w hs ht
  unfold maxLen at hs ht
  by_cases h1 : s.size + t.size ≤ 1048576
  · rw [show decide (s.size + t.size ≤ 1048576) = true by simpa using h1] at h5
    have H5 : Hid _ := h5
    clear h5
    rcases h with h | ⟨h, h'⟩
    all_goals
      go_enter Try.func3, Try.ntmps3
      go_wp2_with fail
      refine (H5.out _).mono ?_
      rintro e w' ⟨rfl, rfl⟩
      go_wp2_with fail
      go_ret
      exact ⟨rfl, Below.refl _ _⟩
  · rw [show decide (s.size + t.size ≤ 1048576) = false by simpa using h1] at h5
    have H5 : Hid _ := h5
    clear h5
    go_enter Try.func3, Try.ntmps3
    go_wp2_with fail
    refine (H5.out _).mono ?_
    rintro e w' ⟨rfl, rfl⟩
    go_wp2_with fail
    go_ret
    exact ⟨rfl, Below.refl _ _⟩

set_option maxHeartbeats 800000 in
theorem main_walk (s t : ByteArray) (B : Bool) (w : World) (hs : s.size ≤ 6) (ht : t.size ≤ 6) (hB : (e8 s == e8 t) = B) (hB' : (s.toList == t.toList) = B) :
    Calls Try.prog 3 #[.string s, .string t] w fun e w' => e = .returned (.bool true) ∧ Below w.heap.size w w' := by
  have h5 := fun w => bytes_any s t w (by unfold maxLen; omega) (by unfold maxLen; omega)
  rw [show decide (s.size + t.size ≤ 1048576) = true by simp; omega] at h5
  have H5 : Hid _ := h5
  have HS : Hid (∀ w, _) := fun w => zz_any s w hs
  have HT : Hid (∀ w, _) := fun w => zz_any t w ht
  have HS' : Hid (∀ w, _) := fun w => holds_any s w hs
  have HT' : Hid (∀ w, _) := fun w => holds_any t w ht
  have hE := run_eq8 s t hs ht
  rw [hB] at hE
  clear h5 hB
  unfold c8 at hE HS HT HS' HT'
  go_enter Try.func3, Try.ntmps3
  go_wp2_with fail
  refine (H5.out _).mono ?_
  rintro e w' ⟨rfl, rfl⟩
  go_wp2_with fail
  refine (HS.out _).mono ?_
  rintro e w1 ⟨rfl, o1, o2, o3, rfl⟩
  go_wp2_with fail
  refine (HT.out _).mono ?_
  rintro e w2 ⟨rfl, o4, o5, o6, rfl⟩
  go_wp2_with fail
  refine (HS'.out _).mono ?_
  rintro e w3 ⟨rfl, hb3⟩
  have hc3 := kept8 (n := w.heap.size + 1 + 1 + 1 + 1 + 1 + 1 + 1) hb3 (by simp)
  have Hb3 : Hid (Below w.heap.size w w3) := by
    refine Below.trans ?_ (hb3.mono (by simp; omega))
    repeat (refine Below.alloc ?_ (by simp <;> omega) _)
    exact Below.refl _ _
  clear hb3
  go_wp2_with fail
  refine (HT'.out _).mono ?_
  rintro e w4 ⟨rfl, hb4⟩
  go_wp2_with fail
  go_ret
  exact ⟨rfl, Hb3.out.trans (hb4.mono Hb3.out.size)⟩

theorem walk (s t : ByteArray) (w : World) (hs : s.size ≤ maxLen) (ht : t.size ≤ maxLen) :
    Calls Try.prog 3 #[.string s, .string t] w fun e w' => e = .returned (.bool true) ∧ Below w.heap.size w w' := by
  by_cases h : 6 < s.size ∨ (s.size ≤ 6 ∧ 6 < t.size)
  · exact early s t w hs ht h
  · have h1 : s.size ≤ 6 := by omega
    have h2 : t.size ≤ 6 := by omega
    by_cases e : s = t
    · subst e
      exact main_walk s s true w h1 h2 (by simp) (by simp)
    · refine main_walk s t false w h1 h2 ?_ ?_
      · exact beq_eq_false_iff_ne.2 fun he => e (e8_inj s t h1 h2 he)
      · refine beq_eq_false_iff_ne.2 fun he => e ?_
        rw [ByteArray.toList_eq, ByteArray.toList_eq] at he
        obtain ⟨⟨a⟩⟩ := s
        obtain ⟨⟨b⟩⟩ := t
        simp only at he
        rw [he]
end Go.Proofs.Qxb6617755a
