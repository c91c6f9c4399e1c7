/-
  THE CHAIN OF SETS AND CURSORS IN MEMORY, AND WHAT made DOES TO IT.
-/
import Derived.Test.Qxb6618315aMade
namespace Go.Proofs.Qxb6618315a
open Go.RowKit Go.Deep

/-- What stands through the whole law: the world at its beginning, the number of steps, the row of cursors, the cursors' blocks, each cursor's element (cursor 0's is the zero one). -/
structure Ground where
  w0 : World
  n : Nat
  C : Nat
  K : Nat → Nat
  F : Nat → ByteArray
  G : Nat → ByteArray
  H : Nat → ByteArray

/-- The key of cursor i's element. -/
def Ground.kl (g : Ground) (i : Nat) : Lit := klOf (g.F i) (g.G i) (g.H i)

def upd (f : Nat → Nat) (i v : Nat) : Nat → Nat := fun j => if j = i then v else f j
theorem upd_same (f : Nat → Nat) (i v : Nat) : upd f i v i = v := by simp [upd]
theorem upd_other (f : Nat → Nat) {i j : Nat} (v : Nat) (h : j ≠ i) : upd f i v j = f j := by simp [upd, h]

/-- THE CHAIN: d sets are made below the root, p cursors below the root stand on theirs; T: the sets' blocks; M: the children maps'; 'last': the children map of the deepest set. -/
structure Chain (g : Ground) (p d : Nat) (T M : Nat → Nat) (last : Option Nat) (w : World) : Prop where
  below : Below g.w0.heap.size g.w0 w
  pd : p ≤ d
  dn : d ≤ g.n
  row : w.rowIs g.C 31 (g.n + 1) (fun i => .pointer (some ⟨g.K i, 0, none⟩))
  cur : ∀ i, i ≤ g.n → w.heap[g.K i]? = some (curCells (if i ≤ p then some (T i) else none) (if i = 0 then none else some (g.K (i - 1))) (g.F i) (g.G i) (g.H i))
  set : ∀ i, i ≤ d → w.heap[T i]? = some (setCells (if i < d then some (M i) else last))
  kid : ∀ i, i < d → kids w (M i) [(g.kl (i + 1), T (i + 1))]
  injK : ∀ i j, i ≤ g.n → j ≤ g.n → g.K i = g.K j → i = j
  injT : ∀ i j, i ≤ d → j ≤ d → T i = T j → i = j
  geC : g.w0.heap.size ≤ g.C
  geK : ∀ i, i ≤ g.n → g.w0.heap.size ≤ g.K i
  geT : ∀ i, i ≤ d → g.w0.heap.size ≤ T i

theorem lt_of_heap {w : World} {b : Nat} {o : Obj} (h : w.heap[b]? = some o) : b < w.heap.size := (Array.getElem?_eq_some_iff.1 h).1

theorem Only.below {bs : List Nat} {w0 w w' : World} (h : Only bs w w') (hb : Below w0.heap.size w0 w) (hbs : ∀ b ∈ bs, w0.heap.size ≤ b) : Below w0.heap.size w0 w' :=
  ⟨h.os.trans hb.os, h.tape.trans hb.tape, h.output.trans hb.output, Nat.le_trans hb.size h.size, fun k hk => by
    rw [h.block k (by have := hb.size; omega) (fun hm => by have := hbs k hm; omega)]
    exact hb.block k hk⟩

variable {g : Ground} {p d : Nat} {T M : Nat → Nat} {last : Option Nat} {w : World}

theorem Chain.curT (h : Chain g p d T M last w) {i j : Nat} (hi : i ≤ g.n) (hj : j ≤ d) : g.K i ≠ T j := fun e => by
  have h1 := h.cur i hi
  have h2 := h.set j hj
  rw [e, h2] at h1
  simp [setCells, curCells] at h1

theorem Chain.rowCur (h : Chain g p d T M last w) {i : Nat} (hi : i ≤ g.n) : g.C ≠ g.K i := fun e => by
  obtain ⟨c, hb, _⟩ := h.row
  have h1 := h.cur i hi
  rw [← e, hb] at h1
  simp [curCells] at h1

theorem Chain.rowT (h : Chain g p d T M last w) {i : Nat} (hi : i ≤ d) : g.C ≠ T i := fun e => by
  obtain ⟨c, hb, _⟩ := h.row
  have h1 := h.set i hi
  rw [← e, hb] at h1
  simp [setCells] at h1

theorem Chain.kidT (h : Chain g p d T M last w) {i j : Nat} (hi : i < d) (hj : j ≤ d) : M i ≠ T j := fun e => by
  obtain ⟨es, clock, h1⟩ := (h.kid i hi).isMap
  have h2 := h.set j hj
  rw [← e, h1] at h2
  simp [setCells] at h2

theorem Chain.kidK (h : Chain g p d T M last w) {i j : Nat} (hi : i < d) (hj : j ≤ g.n) : M i ≠ g.K j := fun e => by
  obtain ⟨es, clock, h1⟩ := (h.kid i hi).isMap
  have h2 := h.cur j hj
  rw [← e, h1] at h2
  simp [curCells] at h2

/-- Nothing of the chain has turned. -/
theorem Chain.kept {w' : World} {bs : List Nat} (h : Chain g p d T M last w) (ho : Only bs w w') (hbs : ∀ b ∈ bs, g.w0.heap.size ≤ b)
    (hC : g.C ∉ bs) (hK : ∀ i, i ≤ g.n → g.K i ∉ bs) (hT : ∀ i, i ≤ d → T i ∉ bs) (hM : ∀ i, i < d → M i ∉ bs) : Chain g p d T M last w' where
  below := ho.below h.below hbs
  pd := h.pd
  dn := h.dn
  row := h.row.of_block (ho.block _ h.row.lt hC)
  cur i hi := (ho.block _ (lt_of_heap (h.cur i hi)) (hK i hi)).trans (h.cur i hi)
  set i hi := (ho.block _ (lt_of_heap (h.set i hi)) (hT i hi)).trans (h.set i hi)
  kid i hi := (h.kid i hi).of_block (ho.block _ (h.kid i hi).lt (hM i hi))
  injK := h.injK
  injT := h.injT
  geC := h.geC
  geK := h.geK
  geT := h.geT

theorem Chain.same {w' : World} (h : Chain g p d T M last w) (ho : Only [] w w') : Chain g p d T M last w' :=
  h.kept ho (by simp) (by simp) (by simp) (by simp) (by simp)

theorem Chain.drew (h : Chain g p d T M last w) : Chain g p d T M last w.drew := h.same (Only.refl [] w).drew

/-- Behind grow at the deepest set: one set more. -/
theorem Chain.grown {k m t : Nat} {w' : World} (h : Chain g k k T M none w) (hk : k + 1 ≤ g.n) (ht : w.heap.size ≤ t) (ho : Only [T k] w w') (hT : w'.heap[T k]? = some (setCells (some m)))
    (hkid : kids w' m [(g.kl (k + 1), t)]) (hset : w'.heap[t]? = some (setCells none)) : Chain g k (k + 1) (upd T (k + 1) t) (upd M k m) none w' where
  below := ho.below h.below (by simpa using h.geT k (Nat.le_refl _))
  pd := by omega
  dn := hk
  row := h.row.of_block (ho.block _ h.row.lt (by simpa using h.rowT (Nat.le_refl _)))
  cur i hi := by
    rw [ho.block _ (lt_of_heap (h.cur i hi)) (by simpa using h.curT hi (Nat.le_refl _)), h.cur i hi]
    by_cases e : i ≤ k
    · simp only [e, if_true]
      rw [upd_other _ _ (by omega)]
    · simp only [e, if_false]
  set i hi := by
    by_cases e : i = k + 1
    · subst e
      rw [upd_same, if_neg (by omega)]
      exact hset
    · rw [upd_other _ _ e, if_pos (by omega)]
      by_cases e' : i = k
      · subst e'
        rw [upd_same]
        exact hT
      · rw [upd_other _ _ e', ho.block _ (lt_of_heap (h.set i (by omega))) (by simpa using fun e2 => e' (h.injT i k (by omega) (Nat.le_refl _) e2)), h.set i (by omega), if_pos (by omega)]
  kid i hi := by
    by_cases e : i = k
    · subst e
      rw [upd_same, upd_same]
      exact hkid
    · rw [upd_other _ _ e, upd_other _ _ (by omega)]
      exact (h.kid i (by omega)).of_block (ho.block _ (h.kid i (by omega)).lt (by simpa using h.kidT (by omega) (Nat.le_refl _)))
  injK := h.injK
  injT i j hi hj e := by
    have hlt : ∀ i, i ≤ k → T i < w.heap.size := fun i hi => lt_of_heap (h.set i hi)
    by_cases e1 : i = k + 1
    · by_cases e2 : j = k + 1
      · omega
      · subst e1
        rw [upd_same, upd_other _ _ e2] at e
        have := hlt j (by omega)
        omega
    · by_cases e2 : j = k + 1
      · subst e2
        rw [upd_same, upd_other _ _ e1] at e
        have := hlt i (by omega)
        omega
      · rw [upd_other _ _ e1, upd_other _ _ e2] at e
        exact h.injT i j (by omega) (by omega) e
  geC := h.geC
  geK := h.geK
  geT i hi := by
    by_cases e1 : i = k + 1
    · subst e1
      rw [upd_same]
      have := h.below.size
      omega
    · rw [upd_other _ _ e1]
      exact h.geT i (by omega)

/-- 'c.set = ..': the cursor stands on its set. -/
theorem Chain.stored {k : Nat} (h : Chain g k (k + 1) T M last w) : Chain g (k + 1) (k + 1) T M last (w.setCell ⟨g.K (k + 1), 0, none⟩ (.pointer (some ⟨T (k + 1), 0, none⟩))) := by
  have hk : k + 1 ≤ g.n := h.dn
  have ho : Only [g.K (k + 1)] w (w.setCell ⟨g.K (k + 1), 0, none⟩ (.pointer (some ⟨T (k + 1), 0, none⟩))) := (Only.refl _ _).setCell (by simp) _
  refine ⟨ho.below h.below (by simpa using h.geK _ hk), Nat.le_refl _, hk, h.row.of_block (ho.block _ h.row.lt (by simpa using h.rowCur hk)), fun i hi => ?_, fun i hi => ?_, fun i hi => ?_, h.injK, h.injT, h.geC, h.geK, h.geT⟩
  · by_cases e : i = k + 1
    · subst e
      have hc := h.cur (k + 1) hk
      rw [if_neg (by omega), if_neg (by omega)] at hc
      rw [if_pos (Nat.le_refl _), if_neg (by omega)]
      exact cur_set _ hc
    · rw [ho.block _ (lt_of_heap (h.cur i hi)) (by simpa using fun e2 => e (h.injK i (k + 1) hi hk e2)), h.cur i hi]
      have e4 : (i ≤ k) = (i ≤ k + 1) := propext ⟨fun h => by omega, fun h => by omega⟩
      simp only [e4]
  · rw [ho.block _ (lt_of_heap (h.set i hi)) (by simpa using fun e => h.curT hk hi e.symm)]
    exact h.set i hi
  · exact (h.kid i hi).of_block (ho.block _ (h.kid i hi).lt (by simpa using h.kidK hi hk))

/-- Every element's strings are strings of Go. -/
def Ground.Fits (g : Ground) : Prop := ∀ i, (g.F i).size ≤ maxLen ∧ (g.G i).size ≤ maxLen ∧ (g.H i).size ≤ maxLen

/-- made AT CURSOR k: the chain reaches it. -/
theorem made_chain (g : Ground) (hfit : g.Fits) : ∀ (k : Nat), k ≤ g.n → ∀ (d : Nat) (T M : Nat → Nat) (w : World), Chain g d d T M none w →
    Calls Try.prog 17 #[.pointer (some ⟨g.K k, 0, none⟩)] w fun e w' => ∃ T' M', (∀ i, i ≤ d → T' i = T i) ∧ e = .returned (.pointer (some ⟨T' k, 0, none⟩)) ∧ Chain g (max d k) (max d k) T' M' none w' := by
  intro k
  induction k with
  | zero =>
    intro hk d T M w h
    have hc := h.cur 0 hk
    rw [if_pos (Nat.zero_le _)] at hc
    refine (made_done _ _ _ _ _ _ w hc).mono ?_
    rintro e w' ⟨rfl, rfl⟩
    exact ⟨T, M, fun _ _ => rfl, rfl, by rw [Nat.max_eq_left (Nat.zero_le _)]; exact h⟩
  | succ k ih =>
    intro hk d T M w h
    have hc := h.cur (k + 1) hk
    by_cases hkd : k + 1 ≤ d
    · rw [if_pos hkd] at hc
      refine (made_done _ _ _ _ _ _ w hc).mono ?_
      rintro e w' ⟨rfl, rfl⟩
      exact ⟨T, M, fun _ _ => rfl, rfl, by rw [Nat.max_eq_left hkd]; exact h⟩
    · have hmax : max d (k + 1) = k + 1 := Nat.max_eq_right (by omega)
      have hmax' : max d k = k := Nat.max_eq_right (by omega)
      rw [if_neg hkd, if_neg (by omega), Nat.add_sub_cancel] at hc
      obtain ⟨f1, f2, f3⟩ := hfit (k + 1)
      rw [hmax]
      refine (made_step _ _ _ _ _ (fun t w1 => ∃ T' M', (∀ i, i ≤ d → T' i = T i) ∧ t = T' k ∧ Chain g k k T' M' none w1) (fun t w2 => ∃ T' M', (∀ i, i ≤ d → T' i = T i) ∧ t = T' (k + 1) ∧ Chain g k (k + 1) T' M' none w2) w hc ?_ ?_ ?_ ?_).mono ?_
      · refine (ih (by omega) d T M w.drew h.drew).mono ?_
        rintro e w1 ⟨T', M', h1, rfl, h2⟩
        rw [hmax'] at h2
        exact ⟨T' k, rfl, T', M', h1, rfl, h2⟩
      · rintro t w1 ⟨T', M', _, _, h2⟩
        have := h2.cur (k + 1) hk
        rw [if_neg (by omega), if_neg (by omega), Nat.add_sub_cancel] at this
        exact this
      · rintro t w1 ⟨T', M', h1, rfl, h2⟩
        have hs := h2.set k (Nat.le_refl _)
        rw [if_neg (Nat.lt_irrefl _)] at hs
        refine (grow_new (T' k) _ _ _ w1 f1 f2 f3 hs).mono ?_
        rintro e w2 ⟨m, t, _, ht, rfl, ho, g1, g2, g3⟩
        exact ⟨t, rfl, _, _, fun i hi => by rw [upd_other _ _ (by omega)]; exact h1 i hi, (upd_same _ _ _).symm, h2.grown hk ht ho g1 g2 g3⟩
      · rintro t w2 ⟨T', M', _, _, h2⟩
        have := h2.cur (k + 1) hk
        rw [if_neg (by omega), if_neg (by omega), Nat.add_sub_cancel] at this
        exact this
      · rintro e w' ⟨t, w2, ⟨T', M', h1, rfl, h2⟩, rfl, rfl⟩
        exact ⟨T', M', h1, rfl, h2.stored⟩
end Go.Proofs.Qxb6618315a
