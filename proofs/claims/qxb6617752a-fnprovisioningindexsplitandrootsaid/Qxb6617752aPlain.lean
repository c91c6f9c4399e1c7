/-
  PLAIN: the index of the last flag that is set, or -1. No Go in sight.
-/
namespace Go.Proofs.Qxb6617752a.Pl

/-- The greatest i below n with F i, or -1. -/
def lastIdx (F : Nat → Bool) : Nat → Int
  | 0 => -1
  | n + 1 => if F n = true then (n : Int) else lastIdx F n

theorem lastIdx_succ (F : Nat → Bool) (n : Nat) : lastIdx F (n + 1) = if F n = true then (n : Int) else lastIdx F n := rfl

theorem lastIdx_bd (F : Nat → Bool) (n : Nat) : -1 ≤ lastIdx F n ∧ lastIdx F n < n := by
  induction n with
  | zero => simp [lastIdx]
  | succ n ih =>
    unfold lastIdx
    split <;> omega

theorem lastIdx_congr {F G : Nat → Bool} (n : Nat) (h : ∀ i, i < n → F i = G i) : lastIdx F n = lastIdx G n := by
  induction n with
  | zero => rfl
  | succ n ih =>
    unfold lastIdx
    rw [h n (by omega), ih (fun i hi => h i (by omega))]

theorem lastIdx_split (F : Nat → Bool) (k m : Nat) :
    lastIdx F (k + m) = if 0 ≤ lastIdx (fun i => F (k + i)) m then (k : Int) + lastIdx (fun i => F (k + i)) m else lastIdx F k := by
  induction m with
  | zero => simp [lastIdx]
  | succ m ih =>
    show lastIdx F ((k + m) + 1) = _
    rw [lastIdx_succ, lastIdx_succ]
    by_cases h : F (k + m) = true
    · simp only [h, if_true]
      rw [if_pos (by omega)]
      omega
    · have h' : F (k + m) = false := by simpa using h
      simp only [h', Bool.false_eq_true, if_false]
      exact ih

theorem lastIdx_none {F : Nat → Bool} (n : Nat) (h : ∀ i, i < n → F i = false) : lastIdx F n = -1 := by
  induction n with
  | zero => rfl
  | succ n ih =>
    unfold lastIdx
    rw [h n (by omega)]
    simpa using ih (fun i hi => h i (by omega))

theorem lastIdx_hit {F : Nat → Bool} (n : Nat) (i : Nat) (hi : i < n) (h : F i = true) :
    0 ≤ lastIdx F n ∧ lastIdx F n < n ∧ F (lastIdx F n).toNat = true := by
  induction n with
  | zero => omega
  | succ n ih =>
    unfold lastIdx
    by_cases h2 : F n = true
    · simp only [h2, if_true]
      refine ⟨by omega, by omega, ?_⟩
      simpa using h2
    · have h2' : F n = false := by simpa using h2
      simp only [h2', Bool.false_eq_true, if_false]
      have hne : i ≠ n := fun e => by subst e; simp [h] at h2'
      have := ih (by omega)
      exact ⟨this.1, by omega, this.2.2⟩

/-- F with place j turned to x. -/
def upd (F : Nat → Bool) (j : Nat) (x : Bool) : Nat → Bool := fun i => if i = j then x else F i

theorem upd_lo (F : Nat → Bool) (j : Nat) (x : Bool) : lastIdx (upd F j x) j = lastIdx F j :=
  lastIdx_congr j fun i hi => by unfold upd; rw [if_neg (by omega)]

theorem lastIdx_set (F : Nat → Bool) (n j : Nat) (hj : j < n) :
    lastIdx (upd F j true) n = if lastIdx F n < (j : Int) then (j : Int) else lastIdx F n := by
  induction n with
  | zero => omega
  | succ n ih =>
    unfold lastIdx
    by_cases e : j = n
    · subst e
      have h1 : upd F j true j = true := by simp [upd]
      rw [h1]
      have hb := lastIdx_bd F j
      by_cases h2 : F j = true
      · simp [h2]
      · simp only [h2, if_true]
        rw [if_pos (by simpa using hb.2)]
    · have h1 : upd F j true n = F n := by unfold upd; rw [if_neg (by omega)]
      rw [h1]
      by_cases h2 : F n = true
      · simp only [h2, if_true]
        rw [if_neg (by omega)]
      · simp only [h2]
        exact ih (by omega)

theorem lastIdx_clear_other (F : Nat → Bool) (n j : Nat) (hne : (j : Int) ≠ lastIdx F n) :
    lastIdx (upd F j false) n = lastIdx F n := by
  induction n with
  | zero => rfl
  | succ n ih =>
    unfold lastIdx at hne ⊢
    by_cases h2 : F n = true
    · simp only [h2, if_true] at hne ⊢
      have h1 : upd F j false n = true := by unfold upd; rw [if_neg (by omega)]; exact h2
      rw [h1]
      simp
    · simp only [h2] at hne ⊢
      have h1 : upd F j false n = false := by
        unfold upd
        by_cases e : n = j
        · simp [e]
        · rw [if_neg e]; simpa using h2
      rw [h1]
      simpa using ih (by simpa using hne)

theorem lastIdx_clear_same (F : Nat → Bool) (n j : Nat) (hne : (j : Int) = lastIdx F n) :
    lastIdx (upd F j false) n = lastIdx F j := by
  induction n with
  | zero => simp [lastIdx] at hne
  | succ n ih =>
    by_cases h2 : F n = true
    · have e : j = n := by
        unfold lastIdx at hne
        simp only [h2, if_true] at hne
        omega
      subst e
      unfold lastIdx
      have h1 : upd F j false j = false := by simp [upd]
      rw [h1]
      have := upd_lo F j false
      cases j with
      | zero => simp [lastIdx]
      | succ m => simpa [lastIdx] using this
    · have hne' : (j : Int) = lastIdx F n := by
        unfold lastIdx at hne
        simpa [h2] using hne
      have h1 : upd F j false n = false := by
        unfold upd
        by_cases e : n = j
        · simp [e]
        · rw [if_neg e]; simpa using h2
      have := ih hne'
      show (if upd F j false n = true then (n : Int) else lastIdx (upd F j false) n) = _
      rw [h1]
      simpa using this

end Go.Proofs.Qxb6617752a.Pl
