/-
  THE WALK OF FnProvisioningIndexSetAndClear (function 4).
-/
import Derived.Test.Qxb6617752aCopy
namespace Go.Proofs.Qxb6617752a
open Go.RowKit Go.Deep


theorem chain7 {w w2 w3 w4 w5 w6 w7 : World} (h2 : Below w.heap.size w w2) (h3 : Below w2.heap.size w2 w3) (h4 : Below w3.heap.size w3 w4) (h5 : Below w4.heap.size w4 w5)
    (h6 : Below w5.heap.size w5 w6) (h7 : Below w6.heap.size w6 w7) : Below w.heap.size w w7 := by
  have s2 := h2.size
  have s3 := h3.size
  have s4 := h4.size
  have s5 := h5.size
  have s6 := h6.size
  exact ((((h2.trans (h3.mono (by omega))).trans (h4.mono (by omega))).trans (h5.mono (by omega))).trans (h6.mono (by omega))).trans (h7.mono (by omega))

set_option maxHeartbeats 800000 in
theorem set_below (b off n c j : Nat) (F : Nat → Bool) (V S C : Int) (w : World) (hn : n ≤ 65536) (hj : j < n)
    (hcell : ∀ i, i < n → w.cell? ⟨b, off + i, none⟩ = some (.bool (F i)))
    (hV : Pl.lastIdx F n = V) (hS : Pl.lastIdx (Pl.upd F j true) n = S) (hC : Pl.lastIdx (Pl.upd F j false) n = C)
    (h1 : V < j) (hSj : S = j) (hCV : C = V) :
    Calls Try.prog 4 #[.slice (some ⟨b, off, none⟩) n c, .int .i64 j] w fun e w' => e = .returned (.bool true) ∧ Below w.heap.size w w' := by
  have h5 := fun w => bytes8_any (some ⟨b, off, none⟩) n c j w (by unfold maxLen; omega)
  rw [show decide (n ≤ 1048576) = true by simp; omega] at h5
  have H5 : Hid _ := h5
  clear h5
  obtain ⟨w2, hcp, hb2, hr2⟩ := copy_fresh w ⟨b, off, none⟩ n c F (fun i hi => by rw [addr_plain]; exact hcell i hi)
  clear hcell
  have hmk := run_make_row' (P := Try.prog) 22 4 (.bool false) 1 Try.underlying22 Try.info4 rfl .i64 .i64 n (by omega) (by omega)
  subst hSj hCV
  have HVV : Hid _ := hV
  have HSS : Hid _ := hS
  have HCC : Hid _ := hC
  clear hV hS hC
  have hnn := fun w => run_neq_slice_nil_any (P := Try.prog) w 22 4 (some ⟨b, off, none⟩) n c 0 0 Try.underlying22
  go_enter Try.func4, Try.ntmps4
  go_wp2_with fail
  refine (H5 _).mono ?_
  rintro e w' ⟨rfl, rfl⟩
  go_wp2_with fail
  refine (zz_row _ hr2 (Nat.le_refl _) (by omega) HVV.out).mono ?_
  rintro e w3 ⟨rfl, hb3⟩
  have hr3 := row_kept hr2 hb3
  go_wp2_with fail
  refine (flag_row true _ hr3 hn hj).mono ?_
  rintro e w4 ⟨rfl, hb4, hs4⟩
  have hr4 := row_kept hr3 hb4
  go_wp2_with fail
  refine (zz_row _ hs4 (Nat.le_refl _) (by omega) HSS.out).mono ?_
  rintro e w5 ⟨rfl, hb5⟩
  have hr5 := row_kept hr4 hb5
  go_wp2_with fail
  refine (flag_row false _ hr5 hn hj).mono ?_
  rintro e w6 ⟨rfl, hb6, hs6⟩
  have hr6 := row_kept hr5 hb6
  go_wp2_with fail
  refine (zz_row _ hs6 (Nat.le_refl _) (by omega) HCC.out).mono ?_
  rintro e w7 ⟨rfl, hb7⟩
  go_wp2_with fail
  go_ret
  exact ⟨rfl, chain7 hb2 hb3 hb4 hb5 hb6 hb7⟩

set_option maxHeartbeats 800000 in
theorem set_above (b off n c j : Nat) (F : Nat → Bool) (V S C : Int) (w : World) (hn : n ≤ 65536) (hj : j < n)
    (hcell : ∀ i, i < n → w.cell? ⟨b, off + i, none⟩ = some (.bool (F i)))
    (hV : Pl.lastIdx F n = V) (hS : Pl.lastIdx (Pl.upd F j true) n = S) (hC : Pl.lastIdx (Pl.upd F j false) n = C)
    (h1 : (j : Int) < V) (hSj : S = V) (hCV : C = V) :
    Calls Try.prog 4 #[.slice (some ⟨b, off, none⟩) n c, .int .i64 j] w fun e w' => e = .returned (.bool true) ∧ Below w.heap.size w w' := by
  have h5 := fun w => bytes8_any (some ⟨b, off, none⟩) n c j w (by unfold maxLen; omega)
  rw [show decide (n ≤ 1048576) = true by simp; omega] at h5
  have H5 : Hid _ := h5
  clear h5
  obtain ⟨w2, hcp, hb2, hr2⟩ := copy_fresh w ⟨b, off, none⟩ n c F (fun i hi => by rw [addr_plain]; exact hcell i hi)
  clear hcell
  have hmk := run_make_row' (P := Try.prog) 22 4 (.bool false) 1 Try.underlying22 Try.info4 rfl .i64 .i64 n (by omega) (by omega)
  subst hSj hCV
  have HVV : Hid _ := hV
  have HSS : Hid _ := hS
  have HCC : Hid _ := hC
  clear hV hS hC
  have hnn := fun w => run_neq_slice_nil_any (P := Try.prog) w 22 4 (some ⟨b, off, none⟩) n c 0 0 Try.underlying22
  go_enter Try.func4, Try.ntmps4
  go_wp2_with fail
  refine (H5 _).mono ?_
  rintro e w' ⟨rfl, rfl⟩
  go_wp2_with fail
  refine (zz_row _ hr2 (Nat.le_refl _) (by omega) HVV.out).mono ?_
  rintro e w3 ⟨rfl, hb3⟩
  have hr3 := row_kept hr2 hb3
  go_wp2_with fail
  refine (flag_row true _ hr3 hn hj).mono ?_
  rintro e w4 ⟨rfl, hb4, hs4⟩
  have hr4 := row_kept hr3 hb4
  go_wp2_with fail
  refine (zz_row _ hs4 (Nat.le_refl _) (by omega) HSS.out).mono ?_
  rintro e w5 ⟨rfl, hb5⟩
  have hr5 := row_kept hr4 hb5
  go_wp2_with fail
  refine (flag_row false _ hr5 hn hj).mono ?_
  rintro e w6 ⟨rfl, hb6, hs6⟩
  have hr6 := row_kept hr5 hb6
  go_wp2_with fail
  refine (zz_row _ hs6 (Nat.le_refl _) (by omega) HCC.out).mono ?_
  rintro e w7 ⟨rfl, hb7⟩
  go_wp2_with fail
  go_ret
  exact ⟨rfl, chain7 hb2 hb3 hb4 hb5 hb6 hb7⟩

set_option maxHeartbeats 800000 in
theorem set_at (b off n c j : Nat) (F : Nat → Bool) (V S C : Int) (w : World) (hn : n ≤ 65536) (hj : j < n)
    (hcell : ∀ i, i < n → w.cell? ⟨b, off + i, none⟩ = some (.bool (F i)))
    (hV : Pl.lastIdx F n = V) (hS : Pl.lastIdx (Pl.upd F j true) n = S) (hC : Pl.lastIdx (Pl.upd F j false) n = C)
    (L : Int) (hL : Pl.lastIdx F j = L) (h1 : V = j) (hSj : S = j) (hCV : C = L) (hlt : L < j) :
    Calls Try.prog 4 #[.slice (some ⟨b, off, none⟩) n c, .int .i64 j] w fun e w' => e = .returned (.bool true) ∧ Below w.heap.size w w' := by
  have h5 := fun w => bytes8_any (some ⟨b, off, none⟩) n c j w (by unfold maxLen; omega)
  rw [show decide (n ≤ 1048576) = true by simp; omega] at h5
  have H5 : Hid _ := h5
  clear h5
  obtain ⟨w2, hcp, hb2, hr2⟩ := copy_fresh w ⟨b, off, none⟩ n c F (fun i hi => by rw [addr_plain]; exact hcell i hi)
  clear hcell
  have hmk := run_make_row' (P := Try.prog) 22 4 (.bool false) 1 Try.underlying22 Try.info4 rfl .i64 .i64 n (by omega) (by omega)
  subst h1 hSj hCV
  have HL : Hid _ := hL
  clear hL
  have HVV : Hid _ := hV
  have HSS : Hid _ := hS
  have HCC : Hid _ := hC
  clear hV hS hC
  have hnn := fun w => run_neq_slice_nil_any (P := Try.prog) w 22 4 (some ⟨b, off, none⟩) n c 0 0 Try.underlying22
  go_enter Try.func4, Try.ntmps4
  go_wp2_with fail
  refine (H5 _).mono ?_
  rintro e w' ⟨rfl, rfl⟩
  go_wp2_with fail
  refine (zz_row _ hr2 (Nat.le_refl _) (by omega) HVV.out).mono ?_
  rintro e w3 ⟨rfl, hb3⟩
  have hr3 := row_kept hr2 hb3
  go_wp2_with fail
  refine (flag_row true _ hr3 hn hj).mono ?_
  rintro e w4 ⟨rfl, hb4, hs4⟩
  have hr4 := row_kept hr3 hb4
  go_wp2_with fail
  refine (zz_row _ hs4 (Nat.le_refl _) (by omega) HSS.out).mono ?_
  rintro e w5 ⟨rfl, hb5⟩
  have hr5 := row_kept hr4 hb5
  go_wp2_with fail
  refine (flag_row false _ hr5 hn hj).mono ?_
  rintro e w6 ⟨rfl, hb6, hs6⟩
  have hr6 := row_kept hr5 hb6
  go_wp2_with fail
  refine (zz_row _ hs6 (Nat.le_refl _) (by omega) HCC.out).mono ?_
  rintro e w7 ⟨rfl, hb7⟩
  have hr7 := row_kept hr6 hb7
  go_wp2_with fail
  refine (zz_row _ hr7 (Nat.le_of_lt hj) (by omega) HL.out).mono ?_
  rintro e w8 ⟨rfl, hb8⟩
  go_wp2_with fail
  go_ret
  exact ⟨rfl, (chain7 hb2 hb3 hb4 hb5 hb6 hb7).trans (hb8.mono (chain7 hb2 hb3 hb4 hb5 hb6 hb7).size)⟩

/-- WHAT THE WALK IS TOLD OF A SLICE OF BOOLS THAT CAME IN: it is nil; or it leads to a row whose first n cells hold F. -/
def IsFlags (w : World) (a : Option Addr) (n : Nat) (F : Nat → Bool) : Prop :=
  (a = none ∧ n = 0) ∨ ∃ b off, a = some ⟨b, off, none⟩ ∧ ∀ i, i < n → w.cell? ⟨b, off + i, none⟩ = some (.bool (F i))

set_option maxHeartbeats 800000 in
theorem set_walk (a : Option Addr) (n c : Nat) (F : Nat → Bool) (j : Int) (w : World) (hm : n ≤ maxLen) (hf : 0 < n → IsFlags w a n F) (hj : (Lit.int .i64 j).wf = true) :
    Calls Try.prog 4 #[.slice a n c, .int .i64 j] w fun e w' => e = .returned (.bool true) ∧ Below w.heap.size w w' := by
  have h5 := fun w => bytes8_any a n c j w hm
  unfold maxLen at hm
  by_cases h1 : n ≤ 1048576
  · rw [show decide (n ≤ 1048576) = true by simpa using h1] at h5
    by_cases h2 : n ≤ 65536
    · by_cases h3 : j < 0
      · have H5 : Hid _ := h5
        clear h5
        go_enter Try.func4, Try.ntmps4
        go_wp2_with fail
        refine (H5 _).mono ?_
        rintro e w' ⟨rfl, rfl⟩
        go_wp2_with fail
        go_ret
        exact ⟨rfl, Below.refl _ _⟩
      · by_cases h4 : (n : Int) ≤ j
        · have H5 : Hid _ := h5
          clear h5
          go_enter Try.func4, Try.ntmps4
          go_wp2_with fail
          refine (H5 _).mono ?_
          rintro e w' ⟨rfl, rfl⟩
          go_wp2_with fail
          go_ret
          exact ⟨rfl, Below.refl _ _⟩
        · obtain ⟨j, rfl⟩ := Int.eq_ofNat_of_zero_le (by omega : 0 ≤ j)
          rcases hf (by omega) with ⟨_, h⟩ | ⟨b, off, rfl, hcell⟩
          · omega
          · have hb := Pl.lastIdx_bd F n
            have hset := Pl.lastIdx_set F n j (by omega)
            rcases Int.lt_trichotomy (Pl.lastIdx F n) (j : Int) with h | h | h
            · exact set_below b off n c j F _ _ _ w h2 (by omega) hcell rfl rfl rfl h (by rw [hset, if_pos h]) (Pl.lastIdx_clear_other F n j (by omega))
            · exact set_at b off n c j F _ _ _ w h2 (by omega) hcell rfl rfl rfl _ rfl h (by rw [hset, if_neg (by omega), h]) (Pl.lastIdx_clear_same F n j h.symm) (Pl.lastIdx_bd F j).2
            · exact set_above b off n c j F _ _ _ w h2 (by omega) hcell rfl rfl rfl h (by rw [hset, if_neg (by omega)]) (Pl.lastIdx_clear_other F n j (by omega))
    · have H5 : Hid _ := h5
      clear h5
      go_enter Try.func4, Try.ntmps4
      go_wp2_with fail
      refine (H5 _).mono ?_
      rintro e w' ⟨rfl, rfl⟩
      go_wp2_with fail
      go_ret
      exact ⟨rfl, Below.refl _ _⟩
  · rw [show decide (n ≤ 1048576) = false by simpa using h1] at h5
    have H5 : Hid _ := h5
    clear h5
    go_enter Try.func4, Try.ntmps4
    go_wp2_with fail
    refine (H5 _).mono ?_
    rintro e w' ⟨rfl, rfl⟩
    go_wp2_with fail
    go_ret
    exact ⟨rfl, Below.refl _ _⟩

end Go.Proofs.Qxb6617752a
