/-
  TWO CURSORS BELOW THE END OF THE CHAIN: what made does at each.
-/
import Derived.Test.Qxb6618315aFrame
namespace Go.Proofs.Qxb6618315a
open Go.RowKit Go.Deep

/-- An element: its three strings. -/
structure El where
  f : ByteArray
  k : ByteArray
  v : ByteArray

def El.kl (x : El) : Lit := klOf x.f x.k x.v
def El.Fits (x : El) : Prop := x.f.size ≤ maxLen ∧ x.k.size ≤ maxLen ∧ x.v.size ≤ maxLen

variable {g : Ground} {T M : Nat → Nat} {w : World}

/-- The deepest set of the chain gets a children map. -/
theorem Chain.leaf {d m : Nat} {l l' : Option Nat} {w' : World} (h : Chain g d d T M l w) (ho : Only [T d] w w') (hT : w'.heap[T d]? = some (setCells l')) (_hm : l' = some m) : Chain g d d T M l' w' where
  below := ho.below h.below (by simpa using h.geT d (Nat.le_refl _))
  pd := Nat.le_refl _
  dn := h.dn
  row := h.row.of_block (ho.block _ h.row.lt (by simpa using h.rowT (Nat.le_refl _)))
  cur i hi := by
    rw [ho.block _ (lt_of_heap (h.cur i hi)) (by simpa using h.curT hi (Nat.le_refl _))]
    exact h.cur i hi
  set i hi := by
    by_cases e : i = d
    · subst e
      rw [if_neg (Nat.lt_irrefl _)]
      exact hT
    · rw [ho.block _ (lt_of_heap (h.set i hi)) (by simpa using fun e2 => e (h.injT i d hi (Nat.le_refl _) e2)), h.set i hi, if_pos (by omega), if_pos (by omega)]
  kid i hi := (h.kid i hi).of_block (ho.block _ (h.kid i hi).lt (by simpa using h.kidT hi (Nat.le_refl _)))
  injK := h.injK
  injT := h.injT
  geC := h.geC
  geK := h.geK
  geT := h.geT

theorem cur_ne_set {w : World} {c t : Nat} {s u m : Option Nat} {f k v : ByteArray} (h1 : w.heap[c]? = some (curCells s u f k v)) (h2 : w.heap[t]? = some (setCells m)) : c ≠ t := fun e => by
  rw [e, h2] at h1
  simp [setCells, curCells] at h1
theorem cur_ne_kids {w : World} {c m : Nat} {s u : Option Nat} {f k v : ByteArray} {L : List (Lit × Nat)} (h1 : w.heap[c]? = some (curCells s u f k v)) (h2 : kids w m L) : c ≠ m := fun e => by
  obtain ⟨es, clock, h3⟩ := h2.isMap
  rw [e, h3] at h1
  simp [curCells] at h1
theorem set_ne_kids {w : World} {t m : Nat} {l : Option Nat} {L : List (Lit × Nat)} (h1 : w.heap[t]? = some (setCells l)) (h2 : kids w m L) : t ≠ m := fun e => by
  obtain ⟨es, clock, h3⟩ := h2.isMap
  rw [e, h3] at h1
  simp [setCells] at h1
theorem row_ne_cur {w : World} {C n c : Nat} {fn : Nat → Value} {s u : Option Nat} {f k v : ByteArray} (h1 : w.rowIs C 31 n fn) (h2 : w.heap[c]? = some (curCells s u f k v)) : C ≠ c := fun e => by
  obtain ⟨cc, h3, _⟩ := h1
  rw [e, h2] at h3
  simp [curCells] at h3
theorem row_ne_kids {w : World} {C n m : Nat} {fn : Nat → Value} {L : List (Lit × Nat)} (h1 : w.rowIs C 31 n fn) (h2 : kids w m L) : C ≠ m := fun e => by
  obtain ⟨cc, h3, _⟩ := h1
  obtain ⟨es, clock, h4⟩ := h2.isMap
  rw [e, h4] at h3
  simp at h3

/-- Behind the two cursors' making: the chain; the children map m of its deepest set, holding L; the cursors' blocks ca, cb, standing on sA, sB. -/
structure Sib (g : Ground) (T M : Nat → Nat) (m ca cb : Nat) (sA sB : Option Nat) (x y : El) (L : List (Lit × Nat)) (w : World) : Prop where
  chain : Chain g g.n g.n T M (some m) w
  kid : kids w m L
  apart : ∀ i, i < g.n → M i ≠ m
  cura : w.heap[ca]? = some (curCells sA (some (g.K g.n)) x.f x.k x.v)
  curb : w.heap[cb]? = some (curCells sB (some (g.K g.n)) y.f y.k y.v)
  kids : ∀ p, p ∈ L → w.heap[p.2]? = some (setCells none) ∧ ∀ i, i ≤ g.n → p.2 ≠ T i
  ne : ca ≠ cb
  nea : ∀ i, i ≤ g.n → ca ≠ g.K i
  neb : ∀ i, i ≤ g.n → cb ≠ g.K i
  gea : g.w0.heap.size ≤ ca
  geb : g.w0.heap.size ≤ cb
  gem : g.w0.heap.size ≤ m

theorem Sib.same {m ca cb : Nat} {sA sB : Option Nat} {x y : El} {L : List (Lit × Nat)} {w' : World} (h : Sib g T M m ca cb sA sB x y L w) (ho : Only [] w w') : Sib g T M m ca cb sA sB x y L w' where
  chain := h.chain.same ho
  kid := h.kid.of_block (ho.block _ h.kid.lt (by simp))
  apart := h.apart
  cura := (ho.block _ (lt_of_heap h.cura) (by simp)).trans h.cura
  curb := (ho.block _ (lt_of_heap h.curb) (by simp)).trans h.curb
  kids p hp := ⟨(ho.block _ (lt_of_heap (h.kids p hp).1) (by simp)).trans (h.kids p hp).1, (h.kids p hp).2⟩
  ne := h.ne
  nea := h.nea
  neb := h.neb
  gea := h.gea
  geb := h.geb
  gem := h.gem

/-- A store into cursor a's first cell. -/
theorem Sib.storeA {m ca cb t : Nat} {sA sB : Option Nat} {x y : El} {L : List (Lit × Nat)} (h : Sib g T M m ca cb sA sB x y L w) : Sib g T M m ca cb (some t) sB x y L (w.setCell ⟨ca, 0, none⟩ (.pointer (some ⟨t, 0, none⟩))) := by
  have ho : Only [ca] w (w.setCell ⟨ca, 0, none⟩ (.pointer (some ⟨t, 0, none⟩))) := (Only.refl _ _).setCell (by simp) _
  refine ⟨h.chain.kept ho (by simpa using h.gea) (by simpa using row_ne_cur h.chain.row h.cura) (fun i hi => by simpa using (h.nea i hi).symm) (fun i hi => by simpa using (cur_ne_set h.cura (h.chain.set i hi)).symm) (fun i hi => by simpa using (cur_ne_kids h.cura (h.chain.kid i hi)).symm),
    h.kid.of_block (ho.block _ h.kid.lt (by simpa using (cur_ne_kids h.cura h.kid).symm)), h.apart, cur_set _ h.cura, (ho.block _ (lt_of_heap h.curb) (by simpa using h.ne.symm)).trans h.curb,
    fun p hp => ⟨(ho.block _ (lt_of_heap (h.kids p hp).1) (by simpa using (cur_ne_set h.cura (h.kids p hp).1).symm)).trans (h.kids p hp).1, (h.kids p hp).2⟩, h.ne, h.nea, h.neb, h.gea, h.geb, h.gem⟩

theorem Sib.storeB {m ca cb t : Nat} {sA sB : Option Nat} {x y : El} {L : List (Lit × Nat)} (h : Sib g T M m ca cb sA sB x y L w) : Sib g T M m ca cb sA (some t) x y L (w.setCell ⟨cb, 0, none⟩ (.pointer (some ⟨t, 0, none⟩))) := by
  have ho : Only [cb] w (w.setCell ⟨cb, 0, none⟩ (.pointer (some ⟨t, 0, none⟩))) := (Only.refl _ _).setCell (by simp) _
  refine ⟨h.chain.kept ho (by simpa using h.geb) (by simpa using row_ne_cur h.chain.row h.curb) (fun i hi => by simpa using (h.neb i hi).symm) (fun i hi => by simpa using (cur_ne_set h.curb (h.chain.set i hi)).symm) (fun i hi => by simpa using (cur_ne_kids h.curb (h.chain.kid i hi)).symm),
    h.kid.of_block (ho.block _ h.kid.lt (by simpa using (cur_ne_kids h.curb h.kid).symm)), h.apart, (ho.block _ (lt_of_heap h.cura) (by simpa using h.ne)).trans h.cura, cur_set _ h.curb,
    fun p hp => ⟨(ho.block _ (lt_of_heap (h.kids p hp).1) (by simpa using (cur_ne_set h.curb (h.kids p hp).1).symm)).trans (h.kids p hp).1, (h.kids p hp).2⟩, h.ne, h.nea, h.neb, h.gea, h.geb, h.gem⟩

/-- One child more under the deepest set. -/
theorem Sib.added {m ca cb t : Nat} {sA sB : Option Nat} {x y : El} {L : List (Lit × Nat)} {kl : Lit} {w' : World} (h : Sib g T M m ca cb sA sB x y L w) (ht : w.heap.size ≤ t) (ho : Only [m] w w') (hk : Qxb6618315a.kids w' m ((kl, t) :: L)) (hs : w'.heap[t]? = some (setCells none)) :
    Sib g T M m ca cb sA sB x y ((kl, t) :: L) w' := by
  refine ⟨h.chain.kept ho (by simpa using h.gem) (by simpa using row_ne_kids h.chain.row h.kid) (fun i hi => by simpa using cur_ne_kids (h.chain.cur i hi) h.kid) (fun i hi => by simpa using set_ne_kids (h.chain.set i hi) h.kid) (fun i hi => by simpa using h.apart i hi),
    hk, h.apart, (ho.block _ (lt_of_heap h.cura) (by simpa using cur_ne_kids h.cura h.kid)).trans h.cura, (ho.block _ (lt_of_heap h.curb) (by simpa using cur_ne_kids h.curb h.kid)).trans h.curb,
    fun p hp => ?_, h.ne, h.nea, h.neb, h.gea, h.geb, h.gem⟩
  rcases List.mem_cons.1 hp with e | hin
  · subst e
    exact ⟨hs, fun i hi e => by have := lt_of_heap (h.chain.set i hi); simp at e; omega⟩
  · exact ⟨(ho.block _ (lt_of_heap (h.kids p hin).1) (by simpa using set_ne_kids (h.kids p hin).1 h.kid)).trans (h.kids p hin).1, (h.kids p hin).2⟩

/-- made AT THE FIRST OF THE TWO. -/
theorem made_first (hfit : g.Fits) (R ca cb : Nat) (x y : El) (hx : x.Fits) (w : World) (h : Chain g 0 0 (fun _ => R) (fun _ => 0) none w)
    (hca : w.heap[ca]? = some (curCells none (some (g.K g.n)) x.f x.k x.v)) (hcb : w.heap[cb]? = some (curCells none (some (g.K g.n)) y.f y.k y.v)) (hne : ca ≠ cb)
    (hna : ∀ i, i ≤ g.n → ca ≠ g.K i) (hnb : ∀ i, i ≤ g.n → cb ≠ g.K i) (hga : g.w0.heap.size ≤ ca) (hgb : g.w0.heap.size ≤ cb) :
    Calls Try.prog 17 #[.pointer (some ⟨ca, 0, none⟩)] w fun e w' => ∃ T M m t, T 0 = R ∧ e = .returned (.pointer (some ⟨t, 0, none⟩)) ∧ Sib g T M m ca cb (some t) none x y [(x.kl, t)] w' := by
  obtain ⟨f1, f2, f3⟩ := hx
  have hla := lt_of_heap hca
  have hlb := lt_of_heap hcb
  have hRa : ca ≠ R := cur_ne_set hca (h.set 0 (Nat.le_refl _))
  have hRb : cb ≠ R := cur_ne_set hcb (h.set 0 (Nat.le_refl _))
  refine (made_step _ _ _ _ _
    (fun t w1 => ∃ T M, T 0 = R ∧ t = T g.n ∧ Chain g g.n g.n T M none w1 ∧ w1.heap[ca]? = some (curCells none (some (g.K g.n)) x.f x.k x.v) ∧ w1.heap[cb]? = some (curCells none (some (g.K g.n)) y.f y.k y.v))
    (fun t w2 => ∃ T M m, T 0 = R ∧ Sib g T M m ca cb none none x y [(x.kl, t)] w2) w hca ?_ ?_ ?_ ?_).mono ?_
  · refine (made_chain2 g hfit g.n (Nat.le_refl _) 0 _ _ w.drew h.drew).mono ?_
    rintro e w1 ⟨T, M, h1, rfl, h2, h3, h4, h5⟩
    rw [Nat.max_eq_right (Nat.zero_le _)] at h2
    exact ⟨T g.n, rfl, T, M, h1 0 (Nat.le_refl _), rfl, h2, (h5 ca hla hna (fun i _ => hRa)).trans hca, (h5 cb hlb hnb (fun i _ => hRb)).trans hcb⟩
  · rintro t w1 ⟨T, M, _, _, _, h1, _⟩
    exact h1
  · rintro t w1 ⟨T, M, h0, rfl, h2, h3, h4⟩
    have hs := h2.set g.n (Nat.le_refl _)
    rw [if_neg (Nat.lt_irrefl _)] at hs
    refine (grow_new (T g.n) _ _ _ w1 f1 f2 f3 hs).mono ?_
    rintro e w2 ⟨m, t, hm, ht, rfl, ho, g1, g2, g3⟩
    refine ⟨t, rfl, T, M, m, h0, ⟨h2.leaf ho g1 rfl, g2, fun i hi e => ?_, (ho.block _ (lt_of_heap h3) (by simpa using cur_ne_set h3 hs)).trans h3, (ho.block _ (lt_of_heap h4) (by simpa using cur_ne_set h4 hs)).trans h4, fun p hp => ?_, hne, hna, hnb, hga, hgb, ?_⟩⟩
    · have := (h2.kid i hi).lt
      omega
    · rw [List.mem_singleton] at hp
      subst hp
      exact ⟨g3, fun i hi e => by have := lt_of_heap (h2.set i hi); simp at e; omega⟩
    · have := h2.below.size
      omega
  · rintro t w2 ⟨T, M, m, _, h2⟩
    exact h2.cura
  · rintro e w' ⟨t, w2, ⟨T, M, m, h0, h2⟩, rfl, rfl⟩
    exact ⟨T, M, m, t, h0, rfl, h2.storeA⟩

/-- made AT THE SECOND, another element. -/
theorem made_second_new {m ca cb sa : Nat} {x y : El} (hy : y.Fits) (hne : x.kl ≠ y.kl) (w : World) (h : Sib g T M m ca cb (some sa) none x y [(x.kl, sa)] w) :
    Calls Try.prog 17 #[.pointer (some ⟨cb, 0, none⟩)] w fun e w' => ∃ t, e = .returned (.pointer (some ⟨t, 0, none⟩)) ∧ t ≠ sa ∧ Sib g T M m ca cb (some sa) (some t) x y [(y.kl, t), (x.kl, sa)] w' := by
  obtain ⟨f1, f2, f3⟩ := hy
  have hc := h.chain.cur g.n (Nat.le_refl _)
  rw [if_pos (Nat.le_refl _)] at hc
  refine (made_step _ _ _ _ _ (fun t w1 => t = T g.n ∧ Sib g T M m ca cb (some sa) none x y [(x.kl, sa)] w1) (fun t w2 => t ≠ sa ∧ Sib g T M m ca cb (some sa) none x y [(y.kl, t), (x.kl, sa)] w2) w h.curb ?_ ?_ ?_ ?_).mono ?_
  · refine (made_done _ _ _ _ _ _ w.drew hc).mono ?_
    rintro e w1 ⟨rfl, rfl⟩
    exact ⟨_, rfl, rfl, h.same (Only.refl [] w).drew⟩
  · rintro t w1 ⟨_, h1⟩
    exact h1.curb
  · rintro t w1 ⟨rfl, h1⟩
    have hs := h1.chain.set g.n (Nat.le_refl _)
    rw [if_neg (Nat.lt_irrefl _)] at hs
    refine (grow_add (T g.n) m _ _ _ _ w1 f1 f2 f3 hs h1.kid (by simp) (fun t ht => ?_)).mono ?_
    · rw [List.mem_singleton] at ht
      exact hne (congrArg Prod.fst ht).symm
    · rintro e w2 ⟨t, ht, rfl, ho, g1, g2⟩
      exact ⟨t, rfl, fun e => by have := lt_of_heap (h1.kids _ (List.mem_singleton.2 rfl)).1; simp at this; omega, h1.added ht ho g1 g2⟩
  · rintro t w2 ⟨_, h2⟩
    exact h2.curb
  · rintro e w' ⟨t, w2, ⟨h1, h2⟩, rfl, rfl⟩
    exact ⟨t, rfl, h1, h2.storeB⟩

/-- made AT THE SECOND, the same element. -/
theorem made_second_old {m ca cb sa : Nat} {x : El} (hx : x.Fits) (w : World) (h : Sib g T M m ca cb (some sa) none x x [(x.kl, sa)] w) :
    Calls Try.prog 17 #[.pointer (some ⟨cb, 0, none⟩)] w fun e w' => e = .returned (.pointer (some ⟨sa, 0, none⟩)) ∧ Sib g T M m ca cb (some sa) (some sa) x x [(x.kl, sa)] w' := by
  obtain ⟨f1, f2, f3⟩ := hx
  have hc := h.chain.cur g.n (Nat.le_refl _)
  rw [if_pos (Nat.le_refl _)] at hc
  refine (made_step _ _ _ _ _ (fun t w1 => t = T g.n ∧ Sib g T M m ca cb (some sa) none x x [(x.kl, sa)] w1) (fun t w2 => t = sa ∧ Sib g T M m ca cb (some sa) none x x [(x.kl, sa)] w2) w h.curb ?_ ?_ ?_ ?_).mono ?_
  · refine (made_done _ _ _ _ _ _ w.drew hc).mono ?_
    rintro e w1 ⟨rfl, rfl⟩
    exact ⟨_, rfl, rfl, h.same (Only.refl [] w).drew⟩
  · rintro t w1 ⟨_, h1⟩
    exact h1.curb
  · rintro t w1 ⟨rfl, h1⟩
    have hs := h1.chain.set g.n (Nat.le_refl _)
    rw [if_neg (Nat.lt_irrefl _)] at hs
    refine (grow_old (T g.n) m sa _ _ _ _ w1 f1 f2 f3 hs h1.kid (List.mem_singleton.2 rfl)).mono ?_
    rintro e w2 ⟨rfl, ho⟩
    exact ⟨sa, rfl, rfl, h1.same ho⟩
  · rintro t w2 ⟨_, h2⟩
    exact h2.curb
  · rintro e w' ⟨t, w2, ⟨rfl, h2⟩, rfl, rfl⟩
    exact ⟨rfl, h2.storeB⟩
end Go.Proofs.Qxb6618315a
