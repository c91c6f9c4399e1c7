/-
  made OVER THE CHAIN, WITH ITS FRAME: what it leaves alone.
-/
import Derived.Test.Qxb6618315aBytes
namespace Go.Proofs.Qxb6618315a
open Go.RowKit Go.Deep

/-- A block that is neither a cursor's nor a set's of the chain is as it was. -/
def Apart (g : Ground) (d : Nat) (T : Nat → Nat) (w w' : World) : Prop :=
  ∀ b, b < w.heap.size → (∀ i, i ≤ g.n → b ≠ g.K i) → (∀ i, i ≤ d → b ≠ T i) → w'.heap[b]? = w.heap[b]?

theorem made_chain2 (g : Ground) (hfit : g.Fits) : ∀ (k : Nat), k ≤ g.n → ∀ (d : Nat) (T M : Nat → Nat) (w : World), Chain g d d T M none w →
    Calls Try.prog 17 #[.pointer (some ⟨g.K k, 0, none⟩)] w fun e w' => ∃ T' M', (∀ i, i ≤ d → T' i = T i) ∧ e = .returned (.pointer (some ⟨T' k, 0, none⟩)) ∧ Chain g (max d k) (max d k) T' M' none w' ∧
      w.heap.size ≤ w'.heap.size ∧ (∀ i, d < i → i ≤ k → w.heap.size ≤ T' i) ∧ Apart g d T w w' := by
  intro k
  induction k with
  | zero =>
    intro hk d T M w h
    have hc := h.cur 0 hk
    rw [if_pos (Nat.zero_le _)] at hc
    refine (made_done _ _ _ _ _ _ w hc).mono ?_
    rintro e w' ⟨rfl, rfl⟩
    exact ⟨T, M, fun _ _ => rfl, rfl, by rw [Nat.max_eq_left (Nat.zero_le _)]; exact h, Nat.le_refl _, fun i h1 h2 => by omega, fun _ _ _ _ => rfl⟩
  | succ k ih =>
    intro hk d T M w h
    have hc := h.cur (k + 1) hk
    by_cases hkd : k + 1 ≤ d
    · rw [if_pos hkd] at hc
      refine (made_done _ _ _ _ _ _ w hc).mono ?_
      rintro e w' ⟨rfl, rfl⟩
      exact ⟨T, M, fun _ _ => rfl, rfl, by rw [Nat.max_eq_left hkd]; exact h, Nat.le_refl _, fun i h1 h2 => by omega, fun _ _ _ _ => rfl⟩
    · have hmax : max d (k + 1) = k + 1 := Nat.max_eq_right (by omega)
      have hmax' : max d k = k := Nat.max_eq_right (by omega)
      rw [if_neg hkd, if_neg (by omega), Nat.add_sub_cancel] at hc
      obtain ⟨f1, f2, f3⟩ := hfit (k + 1)
      rw [hmax]
      refine (made_step _ _ _ _ _
        (fun t w1 => ∃ T' M', (∀ i, i ≤ d → T' i = T i) ∧ t = T' k ∧ Chain g k k T' M' none w1 ∧ w.heap.size ≤ w1.heap.size ∧ (∀ i, d < i → i ≤ k → w.heap.size ≤ T' i) ∧ Apart g d T w w1)
        (fun t w2 => ∃ T' M', (∀ i, i ≤ d → T' i = T i) ∧ t = T' (k + 1) ∧ Chain g k (k + 1) T' M' none w2 ∧ w.heap.size ≤ w2.heap.size ∧ (∀ i, d < i → i ≤ k + 1 → w.heap.size ≤ T' i) ∧ Apart g d T w w2) w hc ?_ ?_ ?_ ?_).mono ?_
      · refine (ih (by omega) d T M w.drew h.drew).mono ?_
        rintro e w1 ⟨T', M', h1, rfl, h2, h3, h4, h5⟩
        rw [hmax'] at h2
        exact ⟨T' k, rfl, T', M', h1, rfl, h2, h3, h4, h5⟩
      · rintro t w1 ⟨T', M', _, _, h2, _⟩
        have := h2.cur (k + 1) hk
        rw [if_neg (by omega), if_neg (by omega), Nat.add_sub_cancel] at this
        exact this
      · rintro t w1 ⟨T', M', h1, rfl, h2, h3, h4, h5⟩
        have hs := h2.set k (Nat.le_refl _)
        rw [if_neg (Nat.lt_irrefl _)] at hs
        refine (grow_new (T' k) _ _ _ w1 f1 f2 f3 hs).mono ?_
        rintro e w2 ⟨m, t, _, ht, rfl, ho, g1, g2, g3⟩
        refine ⟨t, rfl, _, _, fun i hi => by rw [upd_other _ _ (by omega)]; exact h1 i hi, (upd_same _ _ _).symm, h2.grown hk ht ho g1 g2 g3, Nat.le_trans h3 ho.size, fun i hi1 hi2 => ?_, fun b hb hK hT => ?_⟩
        · by_cases e : i = k + 1
          · subst e
            rw [upd_same]
            omega
          · rw [upd_other _ _ e]
            exact h4 i hi1 (by omega)
        · rw [ho.block b (by omega) (by
            simp only [List.mem_singleton]
            by_cases e : k ≤ d
            · rw [h1 k e]; exact hT k e
            · have := h4 k (by omega) (Nat.le_refl _)
              omega)]
          exact h5 b hb hK hT
      · rintro t w2 ⟨T', M', _, _, h2, _⟩
        have := h2.cur (k + 1) hk
        rw [if_neg (by omega), if_neg (by omega), Nat.add_sub_cancel] at this
        exact this
      · rintro e w' ⟨t, w2, ⟨T', M', h1, rfl, h2, h3, h4, h5⟩, rfl, rfl⟩
        refine ⟨T', M', h1, rfl, h2.stored, by simpa [World.setCell] using h3, h4, fun b hb hK hT => ?_⟩
        rw [Below.heap_setCell _ _ _ _ (hK (k + 1) hk)]
        exact h5 b hb hK hT
end Go.Proofs.Qxb6618315a
