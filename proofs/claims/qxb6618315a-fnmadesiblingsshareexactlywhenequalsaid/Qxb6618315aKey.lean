/-
  THE MAPS OF A Set: map[Element]*Set. The key's law; how an element reads; a map of the call's own told by a plain function from keys to block numbers.
-/
import Derived.Test.Qxb6618315aChecked
import Derived.WalkKit
import Derived.Maps.OwnSet
import Derived.DeepKeys4
namespace Go.Proofs.Qxb6618315a
open Go.RowKit
open Go.Maps (Keyed IsMap Tidy)

theorem Try.laidOut : laidOutB Try.prog = true := by kernel_rfl
theorem Try.cells35 : Try.prog.cellsOf 35 = 3 := by kernel_rfl
theorem Try.cells9 : Try.prog.cellsOf 9 = 1 := by kernel_rfl
theorem Try.key35 : Try.prog.keyType 35 = true := by kernel_rfl
theorem Try.many : Try.prog.types.size = 64 := by kernel_rfl

theorem law : Keyed Try.prog 35 := Keyed.of_law (deep_law_laid Try.laidOut (m := 3) (by decide) (by rw [Try.many]; decide) (by kernel_rfl) (by kernel_rfl))

/-- An element's value. -/
def elemV (f k v : ByteArray) : Value := .agg #[.string f, .string k, .string v]

theorem keyLits1 (d : Nat) (s : ByteArray) (hs : s.size ≤ maxLen) : Try.prog.keyLits (d + 1) 9 [.string s] = some [.string s.data.toList] := by
  unfold Program.keyLits
  simp only [Try.underlying9, hs, if_true]

theorem keyLits3 (d : Nat) (f k v : ByteArray) (hf : f.size ≤ maxLen) (hk : k.size ≤ maxLen) (hv : v.size ≤ maxLen) :
    Try.prog.keyLits (d + 1 + 1) 35 [.string f, .string k, .string v] = some [.string f.data.toList, .string k.data.toList, .string v.data.toList] := by
  unfold Program.keyLits
  simp [Try.underlying35, Try.cells35, Try.cells9, keyLits1 d _ hf, keyLits1 d _ hk, keyLits1 d _ hv]

/-- What an element reads as, as a key. -/
def klOf (f k v : ByteArray) : Lit := .string (keyBytes [.string f.data.toList, .string k.data.toList, .string v.data.toList])

theorem key_of (f k v : ByteArray) (hf : f.size ≤ maxLen) (hk : k.size ≤ maxLen) (hv : v.size ≤ maxLen) :
    keyOf Try.prog 35 (.agg #[.string f, .string k, .string v]) = some (klOf f k v) := by
  unfold keyOf
  rw [Try.underlying35]
  have hc : (Value.agg #[Value.string f, Value.string k, Value.string v]).cells.toList = [Value.string f, Value.string k, Value.string v] := rfl
  have hf' : Value.formed Try.prog 35 (Value.agg #[Value.string f, Value.string k, Value.string v]) = true := by
    simp [Value.formed, Try.underlying35, Try.cells35]
  simp only [Try.key35, hf', hc, Try.many, Bool.and_self, if_true]
  rw [show (64 + 1 : Nat) = 63 + 1 + 1 from rfl, keyLits3 63 f k v hf hk hv]
  rfl

theorem kl_inj {f k v f' k' v' : ByteArray} (hf : f.size ≤ maxLen) (hk : k.size ≤ maxLen) (hv : v.size ≤ maxLen) (hf' : f'.size ≤ maxLen) (hk' : k'.size ≤ maxLen) (hv' : v'.size ≤ maxLen)
    (h : klOf f k v = klOf f' k' v') : f = f' ∧ k = k' ∧ v = v' := by
  have h1 := key_of f k v hf hk hv
  rw [h] at h1
  have h2 := law.inj h1 (key_of f' k' v' hf' hk' hv')
  simpa using h2

/-- How a *Set reads: through its block's number. -/
def ptrElem : Value → Option (DataW Unit × List MemPlace)
  | .pointer none => some (.nil, [])
  | .pointer (some ⟨b, 0, none⟩) => some (.lit (.int .u64 b), [])
  | _ => none

theorem ptrElem_nil {v : Value} {ps : List MemPlace} (h : ptrElem v = some (.nil, ps)) : v = .pointer none := by
  unfold ptrElem at h
  split at h
  · rfl
  · simp at h
  · cases h

theorem ptrElem_at {v : Value} {t : Nat} {ps : List MemPlace} (h : ptrElem v = some (.lit (.int .u64 t), ps)) : v = .pointer (some ⟨t, 0, none⟩) := by
  unfold ptrElem at h
  split at h
  · simp at h
  · rename_i c
    simp at h
    rw [show c = t by omega]
  · cases h

/-- What the children map in block b holds: the pairs L, a key and the block of the set under it. -/
def kids (w : World) (b : Nat) (L : List (Lit × Nat)) : Prop :=
  ∃ n D, n ≤ L.length ∧ w.ownsMap Try.prog 35 ptrElem b n D ∧ Maps.size D = L.length ∧
    (∀ kl t, WideAt.IsKeyLit kl → (kl, t) ∈ L → ∀ zd, D.atKey kl zd = .lit (.int .u64 t)) ∧
    ∀ kl, WideAt.IsKeyLit kl → (∀ t, (kl, t) ∉ L) → ∀ zd, D.atKey kl zd = zd

theorem kids_made (w : World) : kids (w.alloc (.map #[] 0)) w.heap.size [] :=
  ⟨0, .map [], Nat.le_refl _, World.ownsMap_made w _ _ _, rfl, fun _ _ _ h => by simp at h, fun _ _ _ _ => rfl⟩

theorem kids.of_block {w w' : World} {b : Nat} {L : List (Lit × Nat)} (h : kids w b L) (e : w'.heap[b]? = w.heap[b]?) : kids w' b L := by
  obtain ⟨n, D, hn, ⟨es, clock, hb, r⟩, r2⟩ := h
  exact ⟨n, D, hn, ⟨es, clock, e.trans hb, r⟩, r2⟩

theorem kids.isMap {w : World} {b : Nat} {L : List (Lit × Nat)} (h : kids w b L) : ∃ es clock, w.heap[b]? = some (.map es clock) := by
  obtain ⟨n, D, hn, ⟨es, clock, hb, r⟩, r2⟩ := h
  exact ⟨es, clock, hb⟩

theorem kids.lt {w : World} {b : Nat} {L : List (Lit × Nat)} (h : kids w b L) : b < w.heap.size := by
  obtain ⟨es, clock, hb⟩ := h.isMap
  exact (Array.getElem?_eq_some_iff.1 hb).1

theorem zero26 (w : World) : (zeroValue 26).run Try.prog w = .ok (.pointer none) w := by kernel_rfl

theorem kids.look {w : World} {b t : Nat} {L : List (Lit × Nat)} (h : kids w b L) {key : Value} {kl : Lit} (hkey : keyOf Try.prog 35 key = some kl) (hin : (kl, t) ∈ L) :
    (Instr.lookup 40 (.map (some b)) key false).run Try.prog w = .ok (.pointer (some ⟨t, 0, none⟩)) w := by
  obtain ⟨n, D, hn, hown, hs, hat, hno⟩ := h
  obtain ⟨v, ps, hrun, hv⟩ := hown.lookup law Try.underlying40 (zero26 w) (zd := .nil) (zp := []) rfl hkey
  rw [hat kl t (law.key hkey) hin] at hv
  rw [hrun, ptrElem_at hv]

theorem kids.miss {w : World} {b : Nat} {L : List (Lit × Nat)} (h : kids w b L) {key : Value} {kl : Lit} (hkey : keyOf Try.prog 35 key = some kl) (hout : ∀ t, (kl, t) ∉ L) :
    (Instr.lookup 40 (.map (some b)) key false).run Try.prog w = .ok (.pointer none) w := by
  obtain ⟨n, D, hn, hown, hs, hat, hno⟩ := h
  obtain ⟨v, ps, hrun, hv⟩ := hown.lookup law Try.underlying40 (zero26 w) (zd := .nil) (zp := []) rfl hkey
  rw [hno kl (law.key hkey) hout] at hv
  rw [hrun, ptrElem_nil hv]

theorem look_none (w : World) {key : Value} {kl : Lit} (hkey : keyOf Try.prog 35 key = some kl) :
    (Instr.lookup 40 (.map none) key false).run Try.prog w = .ok (.pointer none) w :=
  Maps.look_nil false law Try.underlying40 (zero26 w) hkey

theorem kids.len {w : World} {b : Nat} {L : List (Lit × Nat)} (h : kids w b L) (ty : TypeId) : (Builtin.len_ #[40] ty #[.map (some b)]).run Try.prog w = .ok (.int .i64 L.length) w := by
  obtain ⟨n, D, hn, hown, hs, hat, hno⟩ := h
  rw [hown.len Try.underlying40 ty, hs]

theorem len_none40 (w : World) (ty : TypeId) : (Builtin.len_ #[40] ty #[.map none]).run Try.prog w = .ok (.int .i64 0) w := Maps.len_nil Try.underlying40 ty
theorem len_none39 (w : World) (ty : TypeId) : (Builtin.len_ #[39] ty #[.map none]).run Try.prog w = .ok (.int .i64 0) w := Maps.len_nil Try.underlying39 ty

theorem kids.store {w : World} {b : Nat} {L : List (Lit × Nat)} (h : kids w b L) (hsz : L.length < 10) {key : Value} {kl : Lit} (hkey : keyOf Try.prog 35 key = some kl) (hout : ∀ t, (kl, t) ∉ L) (t : Nat) :
    ∃ w', (Instr.mapUpdate 40 (.map (some b)) key (.pointer (some ⟨t, 0, none⟩))).run Try.prog w = .ok () w' ∧ kids w' b ((kl, t) :: L) ∧ w.mapTurned w' b := by
  obtain ⟨n, D, hn, hown, hs, hat, hno⟩ := h
  have hk := law.key hkey
  obtain ⟨w', hrun, hown', hturn⟩ := hown.store law Try.underlying40 (by unfold maxLen; omega) hkey (val := .pointer (some ⟨t, 0, none⟩)) (d := .lit (.int .u64 t)) (ps := []) rfl
  refine ⟨w', hrun, ⟨n + 1, _, by simp; omega, hown', ?_, fun x u hx hin zd => ?_, fun x hx hnot zd => ?_⟩, hturn⟩
  · have hh : Maps.has D kl = false := Maps.has_false_of_atKey (hno kl hk hout)
    rw [Maps.size_put (hown.tidy law), hh, hs]
    simp
  · rcases List.mem_cons.1 hin with e | _
    · simp only [Prod.mk.injEq] at e
      obtain ⟨rfl, rfl⟩ := e
      exact Maps.atKey_put_same hown.isMap hk _ _
    · rename_i hin'
      have hne : x ≠ kl := fun e => by subst e; exact hout u hin'
      rw [Maps.atKey_put_other hne]
      exact hat x u hx hin' zd
  · have hne : x ≠ kl := fun e => by subst e; exact hnot t (by simp)
    rw [Maps.atKey_put_other hne]
    exact hno x hx (fun u hu => hnot u (List.mem_cons_of_mem _ hu)) zd
end Go.Proofs.Qxb6618315a
