/-
  THE WALK OF FnProvisioningIndexSplitAndRoot (function 3).
-/
import Derived.Test.Qxb6617752aCopy
namespace Go.Proofs.Qxb6617752a
open Go.RowKit Go.Deep

/-- Is one of the first t flags set? -/
def anyTo (F : Nat → Bool) : Nat → Bool
  | 0 => false
  | t + 1 => if F t = true then true else anyTo F t

theorem anyTo_no {F : Nat → Bool} (t : Nat) (h : anyTo F t = false) : ∀ i, i < t → F i = false := by
  induction t with
  | zero => intro i hi; omega
  | succ t ih =>
    unfold anyTo at h
    intro i hi
    by_cases h2 : F t = true
    · simp [h2] at h
    · simp [h2] at h
      by_cases e : i = t
      · subst e; simpa using h2
      · exact ih h i (by omega)

theorem anyTo_yes {F : Nat → Bool} (t : Nat) (h : anyTo F t = true) : ∃ i, i < t ∧ F i = true := by
  induction t with
  | zero => simp [anyTo] at h
  | succ t ih =>
    unfold anyTo at h
    by_cases h2 : F t = true
    · exact ⟨t, by omega, h2⟩
    · simp [h2] at h
      obtain ⟨i, hi, hF⟩ := ih h
      exact ⟨i, by omega, hF⟩

theorem ret_bool {a b : Bool} (h : a = b) : Ending.returned (.bool a) = .returned (.bool b) := by rw [h]

theorem chain9 {w w2 w3 w4 w5 w6 w7 w8 w9 : World} (h2 : Below w.heap.size w w2) (h3 : Below w2.heap.size w2 w3) (h4 : Below w3.heap.size w3 w4) (h5 : Below w4.heap.size w4 w5)
    (h6 : Below w5.heap.size w5 w6) (h7 : Below w6.heap.size w6 w7) (h8 : Below w7.heap.size w7 w8) (h9 : Below w8.heap.size w8 w9) : Below w.heap.size w w9 := by
  have s2 := h2.size
  have s3 := h3.size
  have s4 := h4.size
  have s5 := h5.size
  have s6 := h6.size
  have s7 := h7.size
  have s8 := h8.size
  exact ((((((h2.trans (h3.mono (by omega))).trans (h4.mono (by omega))).trans (h5.mono (by omega))).trans (h6.mono (by omega))).trans (h7.mono (by omega))).trans (h8.mono (by omega))).trans (h9.mono (by omega))

set_option maxHeartbeats 1000000 in
theorem split_right (a : Addr) (n c k : Nat) (F : Nat → Bool) (V L R : Int) (w : World) (hn : n ≤ 65536) (hk : k ≤ n)
    (hcell : ∀ i, i < n → w.cell? (a.add i) = some (.bool (F i)))
    (hV : Pl.lastIdx F n = V) (hL : Pl.lastIdx F k = L) (hR : Pl.lastIdx (fun i => F (k + i)) (n - k) = R)
    (hT : Pl.lastIdx (Pl.upd F n true) (n + 1) = n) (hF : Pl.lastIdx (Pl.upd F n false) (n + 1) = V)
    (hcase : 0 ≤ R ∧ V ≤ k + R ∧ k + R ≤ V) :
    Calls Try.prog 3 #[.slice (some a) n c, .int .i64 k] w fun e w' => e = .returned (.bool true) ∧ Below w.heap.size w w' := by
  have h5 := fun w => bytes5_any (some a) n c k w (by unfold maxLen; omega)
  rw [show decide (n ≤ 1048576) = true by simp; omega] at h5
  have H5 : Hid _ := h5
  clear h5
  obtain ⟨w2, hcp, hb2, hr2⟩ := copy_fresh w a n c F hcell
  clear hcell
  have hmk := run_make_row' (P := Try.prog) 22 4 (.bool false) 1 Try.underlying22 Try.info4 rfl .i64 .i64 n (by omega) (by omega)
  have hVb := Pl.lastIdx_bd F n
  rw [hV] at hVb
  have hRb := Pl.lastIdx_bd (fun i => F (k + i)) (n - k)
  rw [hR] at hRb
  obtain ⟨c1, c2, c3⟩ := hcase
  obtain ⟨v1, v2⟩ := hVb
  obtain ⟨r1, r2⟩ := hRb
  have r3 : R ≤ (n : Int) := by omega
  clear r2
  have HVV : Hid _ := hV
  have HLL : Hid _ := hL
  have HRR : Hid _ := hR
  have HTT : Hid _ := hT
  have HFF : Hid _ := hF
  clear hV hL hR hT hF
  have hnn := fun w => run_neq_slice_nil_any (P := Try.prog) w 22 4 (some a) n c 0 0 Try.underlying22
  go_enter Try.func3, Try.ntmps3
  go_wp2_with fail
  refine (H5 _).mono ?_
  rintro e w' ⟨rfl, rfl⟩
  go_wp2_with fail
  refine (zz_row _ hr2 (Nat.le_refl _) (by omega) HVV.out).mono ?_
  rintro e w3 ⟨rfl, hb3⟩
  have hr3 := row_kept hr2 hb3
  clear hcp hmk
  go_wp2_with fail
  refine (zz_row _ hr3 hk (by omega) HLL.out).mono ?_
  rintro e w4 ⟨rfl, hb4⟩
  have hr4 := row_kept hr3 hb4
  go_wp2_with fail
  refine (zz_tail _ hr4 (fun _ => rfl) (by omega) (by omega) HRR.out).mono ?_
  rintro e w5 ⟨rfl, hb5⟩
  have hr5 := row_kept hr4 hb5
  go_wp2_with fail
  refine (root_row true _ hr5 hn).mono ?_
  rintro e w6 ⟨rfl, hb6, hs6⟩
  have hr6 := row_kept hr5 hb6
  go_wp2_with fail
  refine (zz_row _ hs6 (Nat.le_refl _) (by omega) HTT.out).mono ?_
  rintro e w7 ⟨rfl, hb7⟩
  have hr7 := row_kept hr6 hb7
  go_wp2_with fail
  refine (root_row false _ hr7 hn).mono ?_
  rintro e w8 ⟨rfl, hb8, hs8⟩
  have hr8 := row_kept hr7 hb8
  go_wp2_with fail
  refine (zz_row _ hs8 (Nat.le_refl _) (by omega) HFF.out).mono ?_
  rintro e w9 ⟨rfl, hb9⟩
  have hr9 := row_kept hr8 hb9
  have hB : Below w.heap.size w w9 := chain9 hb2 hb3 hb4 hb5 hb6 hb7 hb8 hb9
  clear hb2 hb3 hb4 hb5 hb6 hb7 hb8 hb9 hr2 hr3 hr4 hr5 hr6 hr7 hr8 hs6 hs8 HTT HFF HLL HRR H5 hnn
  go_wp2_with fail
  go_loop [10, 11] (fun b i => ∃ t : Nat, t ≤ n ∧ i = .int .i64 t ∧ b = .bool (anyTo F t)) (fun _ i => n - (intOf i).toNat)
  case atStart => exact ⟨0, Nat.zero_le _, rfl, rfl⟩
  case round =>
    obtain ⟨t, ht, rfl, rfl⟩ := hrel
    by_cases hlt : t < n
    · have hc := hr9.cell hlt
      cases hFt : F t
      · have HS : Hid (anyTo F (t + 1) = anyTo F t) := by show _ = _; simp [anyTo, hFt]
        rw [hFt] at hc
        go_wp2_with fail
        go_round
        case rel => exact ⟨t + 1, by omega, by go_num, by rw [HS.out]⟩
        case measure => simp [intOf]; omega
      · have HS : Hid (anyTo F (t + 1) = true) := by show _ = _; simp [anyTo, hFt]
        rw [hFt] at hc
        go_wp2_with fail
        go_round
        case rel => exact ⟨t + 1, by omega, by go_num, by rw [HS.out]⟩
        case measure => simp [intOf]; omega
    · obtain rfl : t = n := by omega
      cases hA : anyTo F t
      · have hv := Pl.lastIdx_none t (anyTo_no t hA)
        rw [HVV.out] at hv
        have hv1 : (V == -1) = true := by simp [hv]
        clear hv
        go_wp2_with fail
        go_ret
        exact ⟨ret_bool (by simp), hB⟩
      · obtain ⟨i, hi, hFi⟩ := anyTo_yes t hA
        obtain ⟨q1, q2, q3⟩ := Pl.lastIdx_hit t i hi hFi
        rw [HVV.out] at q1 q2 q3
        have hc := hr9.cell (i := V.toNat) (by omega)
        rw [q3] at hc
        clear hFi q3
        go_wp2_with fail
        go_ret
        exact ⟨rfl, hB⟩

set_option maxHeartbeats 1000000 in
theorem split_left (a : Addr) (n c k : Nat) (F : Nat → Bool) (V L R : Int) (w : World) (hn : n ≤ 65536) (hk : k ≤ n)
    (hcell : ∀ i, i < n → w.cell? (a.add i) = some (.bool (F i)))
    (hV : Pl.lastIdx F n = V) (hL : Pl.lastIdx F k = L) (hR : Pl.lastIdx (fun i => F (k + i)) (n - k) = R)
    (hT : Pl.lastIdx (Pl.upd F n true) (n + 1) = n) (hF : Pl.lastIdx (Pl.upd F n false) (n + 1) = V)
    (hcase : k < n ∧ R < 0 ∧ V ≤ L ∧ L ≤ V) :
    Calls Try.prog 3 #[.slice (some a) n c, .int .i64 k] w fun e w' => e = .returned (.bool true) ∧ Below w.heap.size w w' := by
  have h5 := fun w => bytes5_any (some a) n c k w (by unfold maxLen; omega)
  rw [show decide (n ≤ 1048576) = true by simp; omega] at h5
  have H5 : Hid _ := h5
  clear h5
  obtain ⟨w2, hcp, hb2, hr2⟩ := copy_fresh w a n c F hcell
  clear hcell
  have hmk := run_make_row' (P := Try.prog) 22 4 (.bool false) 1 Try.underlying22 Try.info4 rfl .i64 .i64 n (by omega) (by omega)
  have hVb := Pl.lastIdx_bd F n
  rw [hV] at hVb
  have hRb := Pl.lastIdx_bd (fun i => F (k + i)) (n - k)
  rw [hR] at hRb
  obtain ⟨c0, c1, c2, c3⟩ := hcase
  obtain ⟨v1, v2⟩ := hVb
  obtain ⟨r1, r2⟩ := hRb
  have r3 : R ≤ (n : Int) := by omega
  clear r2
  have HVV : Hid _ := hV
  have HLL : Hid _ := hL
  have HRR : Hid _ := hR
  have HTT : Hid _ := hT
  have HFF : Hid _ := hF
  clear hV hL hR hT hF
  have hnn := fun w => run_neq_slice_nil_any (P := Try.prog) w 22 4 (some a) n c 0 0 Try.underlying22
  go_enter Try.func3, Try.ntmps3
  go_wp2_with fail
  refine (H5 _).mono ?_
  rintro e w' ⟨rfl, rfl⟩
  go_wp2_with fail
  refine (zz_row _ hr2 (Nat.le_refl _) (by omega) HVV.out).mono ?_
  rintro e w3 ⟨rfl, hb3⟩
  have hr3 := row_kept hr2 hb3
  clear hcp hmk
  go_wp2_with fail
  refine (zz_row _ hr3 hk (by omega) HLL.out).mono ?_
  rintro e w4 ⟨rfl, hb4⟩
  have hr4 := row_kept hr3 hb4
  go_wp2_with fail
  refine (zz_tail _ hr4 (fun _ => rfl) (by omega) (by omega) HRR.out).mono ?_
  rintro e w5 ⟨rfl, hb5⟩
  have hr5 := row_kept hr4 hb5
  go_wp2_with fail
  refine (root_row true _ hr5 hn).mono ?_
  rintro e w6 ⟨rfl, hb6, hs6⟩
  have hr6 := row_kept hr5 hb6
  go_wp2_with fail
  refine (zz_row _ hs6 (Nat.le_refl _) (by omega) HTT.out).mono ?_
  rintro e w7 ⟨rfl, hb7⟩
  have hr7 := row_kept hr6 hb7
  go_wp2_with fail
  refine (root_row false _ hr7 hn).mono ?_
  rintro e w8 ⟨rfl, hb8, hs8⟩
  have hr8 := row_kept hr7 hb8
  go_wp2_with fail
  refine (zz_row _ hs8 (Nat.le_refl _) (by omega) HFF.out).mono ?_
  rintro e w9 ⟨rfl, hb9⟩
  have hr9 := row_kept hr8 hb9
  have hB : Below w.heap.size w w9 := chain9 hb2 hb3 hb4 hb5 hb6 hb7 hb8 hb9
  clear hb2 hb3 hb4 hb5 hb6 hb7 hb8 hb9 hr2 hr3 hr4 hr5 hr6 hr7 hr8 hs6 hs8 HTT HFF HLL HRR H5 hnn
  go_wp2_with fail
  go_loop [10, 11] (fun b i => ∃ t : Nat, t ≤ n ∧ i = .int .i64 t ∧ b = .bool (anyTo F t)) (fun _ i => n - (intOf i).toNat)
  case atStart => exact ⟨0, Nat.zero_le _, rfl, rfl⟩
  case round =>
    obtain ⟨t, ht, rfl, rfl⟩ := hrel
    by_cases hlt : t < n
    · have hc := hr9.cell hlt
      cases hFt : F t
      · have HS : Hid (anyTo F (t + 1) = anyTo F t) := by show _ = _; simp [anyTo, hFt]
        rw [hFt] at hc
        go_wp2_with fail
        go_round
        case rel => exact ⟨t + 1, by omega, by go_num, by rw [HS.out]⟩
        case measure => simp [intOf]; omega
      · have HS : Hid (anyTo F (t + 1) = true) := by show _ = _; simp [anyTo, hFt]
        rw [hFt] at hc
        go_wp2_with fail
        go_round
        case rel => exact ⟨t + 1, by omega, by go_num, by rw [HS.out]⟩
        case measure => simp [intOf]; omega
    · obtain rfl : t = n := by omega
      cases hA : anyTo F t
      · have hv := Pl.lastIdx_none t (anyTo_no t hA)
        rw [HVV.out] at hv
        have hv1 : (V == -1) = true := by simp [hv]
        clear hv
        go_wp2_with fail
        go_ret
        exact ⟨ret_bool (by simp), hB⟩
      · obtain ⟨i, hi, hFi⟩ := anyTo_yes t hA
        obtain ⟨q1, q2, q3⟩ := Pl.lastIdx_hit t i hi hFi
        rw [HVV.out] at q1 q2 q3
        have hc := hr9.cell (i := V.toNat) (by omega)
        rw [q3] at hc
        clear hFi q3
        go_wp2_with fail
        go_ret
        exact ⟨rfl, hB⟩

set_option maxHeartbeats 1000000 in
theorem split_end (a : Addr) (n c k : Nat) (F : Nat → Bool) (V L R : Int) (w : World) (hn : n ≤ 65536) (hk : k ≤ n)
    (hcell : ∀ i, i < n → w.cell? (a.add i) = some (.bool (F i)))
    (hV : Pl.lastIdx F n = V) (hL : Pl.lastIdx F k = L) (hR : Pl.lastIdx (fun i => F (k + i)) (n - k) = R)
    (hT : Pl.lastIdx (Pl.upd F n true) (n + 1) = n) (hF : Pl.lastIdx (Pl.upd F n false) (n + 1) = V)
    (hcase : n ≤ k ∧ R < 0 ∧ V ≤ L ∧ L ≤ V) :
    Calls Try.prog 3 #[.slice (some a) n c, .int .i64 k] w fun e w' => e = .returned (.bool true) ∧ Below w.heap.size w w' := by
  have h5 := fun w => bytes5_any (some a) n c k w (by unfold maxLen; omega)
  rw [show decide (n ≤ 1048576) = true by simp; omega] at h5
  have H5 : Hid _ := h5
  clear h5
  obtain ⟨w2, hcp, hb2, hr2⟩ := copy_fresh w a n c F hcell
  clear hcell
  have hmk := run_make_row' (P := Try.prog) 22 4 (.bool false) 1 Try.underlying22 Try.info4 rfl .i64 .i64 n (by omega) (by omega)
  have hVb := Pl.lastIdx_bd F n
  rw [hV] at hVb
  have hRb := Pl.lastIdx_bd (fun i => F (k + i)) (n - k)
  rw [hR] at hRb
  obtain ⟨c0, c1, c2, c3⟩ := hcase
  obtain ⟨v1, v2⟩ := hVb
  obtain ⟨r1, r2⟩ := hRb
  have r3 : R ≤ (n : Int) := by omega
  clear r2
  have HVV : Hid _ := hV
  have HLL : Hid _ := hL
  have HRR : Hid _ := hR
  have HTT : Hid _ := hT
  have HFF : Hid _ := hF
  clear hV hL hR hT hF
  have hnn := fun w => run_neq_slice_nil_any (P := Try.prog) w 22 4 (some a) n c 0 0 Try.underlying22
  go_enter Try.func3, Try.ntmps3
  go_wp2_with fail
  refine (H5 _).mono ?_
  rintro e w' ⟨rfl, rfl⟩
  go_wp2_with fail
  refine (zz_row _ hr2 (Nat.le_refl _) (by omega) HVV.out).mono ?_
  rintro e w3 ⟨rfl, hb3⟩
  have hr3 := row_kept hr2 hb3
  clear hcp hmk
  go_wp2_with fail
  refine (zz_row _ hr3 hk (by omega) HLL.out).mono ?_
  rintro e w4 ⟨rfl, hb4⟩
  have hr4 := row_kept hr3 hb4
  go_wp2_with fail
  refine (zz_row (m := 0) (V := -1) _ hr4 (Nat.zero_le _) (Nat.zero_le _) rfl).mono ?_
  rintro e w5 ⟨rfl, hb5⟩
  have hr5 := row_kept hr4 hb5
  go_wp2_with fail
  refine (root_row true _ hr5 hn).mono ?_
  rintro e w6 ⟨rfl, hb6, hs6⟩
  have hr6 := row_kept hr5 hb6
  go_wp2_with fail
  refine (zz_row _ hs6 (Nat.le_refl _) (by omega) HTT.out).mono ?_
  rintro e w7 ⟨rfl, hb7⟩
  have hr7 := row_kept hr6 hb7
  go_wp2_with fail
  refine (root_row false _ hr7 hn).mono ?_
  rintro e w8 ⟨rfl, hb8, hs8⟩
  have hr8 := row_kept hr7 hb8
  go_wp2_with fail
  refine (zz_row _ hs8 (Nat.le_refl _) (by omega) HFF.out).mono ?_
  rintro e w9 ⟨rfl, hb9⟩
  have hr9 := row_kept hr8 hb9
  have hB : Below w.heap.size w w9 := chain9 hb2 hb3 hb4 hb5 hb6 hb7 hb8 hb9
  clear hb2 hb3 hb4 hb5 hb6 hb7 hb8 hb9 hr2 hr3 hr4 hr5 hr6 hr7 hr8 hs6 hs8 HTT HFF HLL HRR H5 hnn
  go_wp2_with fail
  go_loop [10, 11] (fun b i => ∃ t : Nat, t ≤ n ∧ i = .int .i64 t ∧ b = .bool (anyTo F t)) (fun _ i => n - (intOf i).toNat)
  case atStart => exact ⟨0, Nat.zero_le _, rfl, rfl⟩
  case round =>
    obtain ⟨t, ht, rfl, rfl⟩ := hrel
    by_cases hlt : t < n
    · have hc := hr9.cell hlt
      cases hFt : F t
      · have HS : Hid (anyTo F (t + 1) = anyTo F t) := by show _ = _; simp [anyTo, hFt]
        rw [hFt] at hc
        go_wp2_with fail
        go_round
        case rel => exact ⟨t + 1, by omega, by go_num, by rw [HS.out]⟩
        case measure => simp [intOf]; omega
      · have HS : Hid (anyTo F (t + 1) = true) := by show _ = _; simp [anyTo, hFt]
        rw [hFt] at hc
        go_wp2_with fail
        go_round
        case rel => exact ⟨t + 1, by omega, by go_num, by rw [HS.out]⟩
        case measure => simp [intOf]; omega
    · obtain rfl : t = n := by omega
      cases hA : anyTo F t
      · have hv := Pl.lastIdx_none t (anyTo_no t hA)
        rw [HVV.out] at hv
        have hv1 : (V == -1) = true := by simp [hv]
        clear hv
        go_wp2_with fail
        go_ret
        exact ⟨ret_bool (by simp), hB⟩
      · obtain ⟨i, hi, hFi⟩ := anyTo_yes t hA
        obtain ⟨q1, q2, q3⟩ := Pl.lastIdx_hit t i hi hFi
        rw [HVV.out] at q1 q2 q3
        have hc := hr9.cell (i := V.toNat) (by omega)
        rw [q3] at hc
        clear hFi q3
        go_wp2_with fail
        go_ret
        exact ⟨rfl, hB⟩

theorem split_early (a : Option Addr) (n c : Nat) (k : Int) (w : World) (hm : n ≤ maxLen) (h : 65536 < n ∨ (n ≤ 65536 ∧ k < 0) ∨ (n ≤ 65536 ∧ 0 ≤ k ∧ (n : Int) < k)) :
    Calls Try.prog 3 #[.slice a n c, .int .i64 k] w fun e w' => e = .returned (.bool true) ∧ Below w.heap.size w w' := by
  have h5 := fun w => bytes5_any a n c k w hm
  unfold maxLen at hm
  by_cases h1 : n ≤ 1048576
  · rw [show decide (n ≤ 1048576) = true by simpa using h1] at h5
    have H5 : Hid _ := h5
    clear h5
    rcases h with h | h | h
    all_goals
      go_enter Try.func3, Try.ntmps3
      go_wp2_with fail
      refine (H5 _).mono ?_
      rintro e w' ⟨rfl, rfl⟩
      go_wp2_with fail
      go_ret
      exact ⟨rfl, Below.refl _ _⟩
  · rw [show decide (n ≤ 1048576) = false by simpa using h1] at h5
    have H5 : Hid _ := h5
    clear h5
    go_enter Try.func3, Try.ntmps3
    go_wp2_with fail
    refine (H5 _).mono ?_
    rintro e w' ⟨rfl, rfl⟩
    go_wp2_with fail
    go_ret
    exact ⟨rfl, Below.refl _ _⟩

set_option maxHeartbeats 1000000 in
theorem split_nil (w : World) :
    Calls Try.prog 3 #[.slice none 0 0, .int .i64 0] w fun e w' => e = .returned (.bool true) ∧ Below w.heap.size w w' := by
  have h5 := fun w => bytes5_any none 0 0 0 w (Nat.zero_le _)
  rw [show decide (0 ≤ 1048576) = true from rfl] at h5
  have H5 : Hid _ := h5
  clear h5
  have hZ : ∀ w, Calls Try.prog 6 #[.slice none 0 0] w fun e w' => e = .returned (.int .i64 (-1)) ∧ Below w.heap.size w w' := fun w =>
    zz_any none 0 0 0 0 (fun _ => false) w (Nat.zero_le _) (fun h => absurd h (Nat.lt_irrefl _)) (fun i hi => absurd hi (Nat.not_lt_zero _))
  have HZ : Hid _ := hZ
  clear hZ
  have hnn := fun w => run_neq_slice_nil_any (P := Try.prog) w 22 4 none 0 0 0 0 Try.underlying22
  go_enter Try.func3, Try.ntmps3
  go_wp2_with fail
  refine (H5 _).mono ?_
  rintro e w' ⟨rfl, rfl⟩
  go_wp2_with fail
  refine (HZ.out _).mono ?_
  rintro e w3 ⟨rfl, hb3⟩
  go_wp2_with fail
  refine (HZ.out _).mono ?_
  rintro e w4 ⟨rfl, hb4⟩
  go_wp2_with fail
  refine (HZ.out _).mono ?_
  rintro e w5 ⟨rfl, hb5⟩
  go_wp2_with fail
  refine (root_any none 0 0 0 0 (fun _ => false) true _ (Nat.zero_le _) (fun h => absurd h (Nat.lt_irrefl _)) (fun i hi => absurd hi (Nat.not_lt_zero _))).mono ?_
  rintro e w6 ⟨rfl, hb6, hs6⟩
  go_wp2_with fail
  refine (zz_row (V := 0) _ hs6 (Nat.le_refl _) (by omega) rfl).mono ?_
  rintro e w7 ⟨rfl, hb7⟩
  go_wp2_with fail
  refine (root_any none 0 0 0 0 (fun _ => false) false _ (Nat.zero_le _) (fun h => absurd h (Nat.lt_irrefl _)) (fun i hi => absurd hi (Nat.not_lt_zero _))).mono ?_
  rintro e w8 ⟨rfl, hb8, hs8⟩
  go_wp2_with fail
  refine (zz_row (V := -1) _ hs8 (Nat.le_refl _) (by omega) rfl).mono ?_
  rintro e w9 ⟨rfl, hb9⟩
  have hB : Below w.heap.size w w9 := chain9 (Below.refl _ _) hb3 hb4 hb5 hb6 hb7 hb8 hb9
  clear hb3 hb4 hb5 hb6 hb7 hb8 hb9 hs6 hs8 H5 HZ hnn
  go_wp2_with fail
  refine wp_loop_rounds 1 ?_
  rw [rounds_succ]
  go_wp2_with fail
  go_ret
  exact ⟨rfl, hB⟩

theorem split_walk (a : Option Addr) (n c : Nat) (F : Nat → Bool) (k : Int) (w : World) (hm : n ≤ maxLen)
    (hf : (a = none ∧ n = 0 ∧ c = 0) ∨ ∃ x, a = some x ∧ ∀ i, i < n → w.cell? (x.add i) = some (.bool (F i))) :
    Calls Try.prog 3 #[.slice a n c, .int .i64 k] w fun e w' => e = .returned (.bool true) ∧ Below w.heap.size w w' := by
  by_cases h : 65536 < n ∨ (n ≤ 65536 ∧ k < 0) ∨ (n ≤ 65536 ∧ 0 ≤ k ∧ (n : Int) < k)
  · exact split_early a n c k w hm h
  · obtain ⟨k, rfl⟩ := Int.eq_ofNat_of_zero_le (by omega : 0 ≤ k)
    have hn : n ≤ 65536 := by omega
    have hk : k ≤ n := by omega
    clear h
    rcases hf with ⟨rfl, rfl, rfl⟩ | ⟨x, rfl, hcell⟩
    · obtain rfl : k = 0 := by omega
      exact split_nil w
    · have hT : Pl.lastIdx (Pl.upd F n true) (n + 1) = n := by rw [Pl.lastIdx_succ]; simp [Pl.upd]
      have hF : Pl.lastIdx (Pl.upd F n false) (n + 1) = Pl.lastIdx F n := by
        rw [Pl.lastIdx_succ, ← Pl.upd_lo F n false]; simp [Pl.upd]
      have hs := Pl.lastIdx_split F k (n - k)
      rw [show k + (n - k) = n by omega] at hs
      by_cases hR : 0 ≤ Pl.lastIdx (fun i => F (k + i)) (n - k)
      · rw [if_pos hR] at hs
        exact split_right x n c k F _ _ _ w hn hk hcell rfl rfl rfl hT hF ⟨hR, by omega, by omega⟩
      · rw [if_neg hR] at hs
        by_cases hkn : k < n
        · exact split_left x n c k F _ _ _ w hn hk hcell rfl rfl rfl hT hF ⟨hkn, by omega, by omega, by omega⟩
        · exact split_end x n c k F _ _ _ w hn hk hcell rfl rfl rfl hT hF ⟨by omega, by omega, by omega, by omega⟩

end Go.Proofs.Qxb6617752a
