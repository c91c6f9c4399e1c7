/-
  A PATH AND A STEP THAT CAME IN, OPENED: the slice of Steps at every index; a Step by value.
-/
import Derived.Test.Qxb6618315aBuild
import Derived.ProofKit
import Derived.OpenShut
import Derived.ShutString
import Derived.ChangeOld
import Derived.Below
import Derived.Deep.Slices
import Derived.Deep.Strs
namespace Go.Proofs.Qxb6618315a
open Go.ChangeShapes Go.WideShapes Go.ChangeAt Go.RowKit Go.Deep

theorem Try.cells25 : Try.prog.cellsOf 25 = 3 := by kernel_rfl

theorem addr_plain (b o i : Nat) : (⟨b, o, none⟩ : Addr).add i = ⟨b, o + i, none⟩ := by unfold Addr.add; split <;> simp_all

/-- A Step's three cells. -/
theorem step_cells {H : Type} {enc : TypeId × Value → H} {W : World} {base : Nat} {sp : Nat → Bool} {held : Bool} {fuel : Nat} {cs : List Value} {x : DataW H × List MemPlace}
    (h : DataW.trod enc Try.prog W base sp held fuel 25 cs = some x) :
    ∃ f k v : ByteArray, cs = [.string f, .string k, .string v] ∧ f.size ≤ maxLen ∧ k.size ≤ maxLen ∧ v.size ≤ maxLen ∧ x = (.agg [.lit (.string f.data.toList), .lit (.string k.data.toList), .lit (.string v.data.toList)], []) := by
  obtain ⟨y0, y1, y2, n, rfl, hl, h0, h1, h2⟩ := trod_struct3 Try.underlying25 h
  rw [Try.cells25] at hl
  obtain ⟨c0, c1, c2, rfl⟩ : ∃ a b c, cs = [a, b, c] := by
    match cs, hl with
    | [a, b, c], _ => exact ⟨a, b, c, rfl⟩
  simp only [Try.cells9] at h0 h1 h2
  obtain ⟨f, e0, rfl, hf⟩ := DataW.trod_string Try.underlying9 h0
  obtain ⟨k, e1, rfl, hk⟩ := DataW.trod_string Try.underlying9 h1
  obtain ⟨v, e2, rfl, hv⟩ := DataW.trod_string Try.underlying9 h2
  simp at e0 e1 e2
  subst e0 e1 e2
  exact ⟨f, k, v, rfl, hf, hk, hv, rfl⟩

theorem open_path {H : Type} {enc : TypeId × Value → H} {W : World} {fuel : Nat} {a : Option Addr} {len cap : Nat} {x : DataW H × List MemPlace}
    (h : DataW.trod enc Try.prog W 0 (fun _ => true) true fuel 22 [.slice a len cap] = some x) :
    ∃ (b off : Nat) (F G K : Nat → ByteArray), len ≤ maxLen ∧ PathIs W a b off len F G K ∧ ∀ i, (F i).size ≤ maxLen ∧ (G i).size ≤ maxLen ∧ (K i).size ≤ maxLen := by
  rcases open_slice Try.underlying22 h with ⟨hcs, _⟩ | ⟨ad, l, c, m, n, D, Pl, hcs, _, hl, hm, hmm, _, hx⟩
  · simp at hcs
    obtain ⟨rfl, rfl, rfl⟩ := hcs
    exact ⟨0, 0, fun _ => ⟨#[]⟩, fun _ => ⟨#[]⟩, fun _ => ⟨#[]⟩, Nat.zero_le _, ⟨fun h => absurd h (Nat.lt_irrefl _), fun i hi => absurd hi (Nat.not_lt_zero _)⟩, fun _ => ⟨Nat.zero_le _, Nat.zero_le _, Nat.zero_le _⟩⟩
  · simp at hcs
    obtain ⟨rfl, rfl, rfl⟩ := hcs
    simp only [if_true] at hmm
    subst hmm
    rw [Try.cells25] at hx
    obtain ⟨b, off, spot⟩ := ad
    by_cases h0 : len = 0
    · subst h0
      exact ⟨0, 0, fun _ => ⟨#[]⟩, fun _ => ⟨#[]⟩, fun _ => ⟨#[]⟩, Nat.zero_le _, ⟨fun h => absurd h (Nat.lt_irrefl _), fun i hi => absurd hi (Nat.not_lt_zero _)⟩, fun _ => ⟨Nat.zero_le _, Nat.zero_le _, Nat.zero_le _⟩⟩
    · have hspot : spot = none := by
        obtain ⟨cs', h1, h2⟩ := hx 0 (by omega)
        obtain ⟨f, k, v, rfl, _⟩ := step_cells h2
        obtain ⟨_, _, hc⟩ := World.cells?_some h1
        have := hc 0 (by omega)
        simpa [Addr.add] using World.cell?_spot this
      subst hspot
      have each : ∀ i, i < m → ∃ q : ByteArray × ByteArray × ByteArray, (W.cell? ⟨b, off + i * 3, none⟩ = some (.string q.1) ∧ W.cell? ⟨b, off + i * 3 + 1, none⟩ = some (.string q.2.1) ∧ W.cell? ⟨b, off + i * 3 + 2, none⟩ = some (.string q.2.2)) ∧
          q.1.size ≤ maxLen ∧ q.2.1.size ≤ maxLen ∧ q.2.2.size ≤ maxLen := fun i hi => by
        obtain ⟨cs', h1, h2⟩ := hx i hi
        obtain ⟨f, k, v, rfl, hf, hk, hv, _⟩ := step_cells h2
        obtain ⟨_, _, hc⟩ := World.cells?_some h1
        rw [addr_plain] at hc
        refine ⟨(f, k, v), ⟨?_, ?_, ?_⟩, hf, hk, hv⟩
        · have := hc 0 (by omega)
          rwa [addr_plain] at this
        · have := hc 1 (by omega)
          rwa [addr_plain] at this
        · have := hc 2 (by omega)
          rwa [addr_plain] at this
      refine ⟨b, off, fun i => if hi : i < m then (Classical.choose (each i hi)).1 else ⟨#[]⟩, fun i => if hi : i < m then (Classical.choose (each i hi)).2.1 else ⟨#[]⟩, fun i => if hi : i < m then (Classical.choose (each i hi)).2.2 else ⟨#[]⟩, by omega, ⟨fun _ => rfl, fun i hi => ?_⟩, fun i => ?_⟩
      · have hi' : i < m := by omega
        have := (Classical.choose_spec (each i hi')).1
        simp only [dif_pos hi']
        exact this
      · by_cases hi' : i < m
        · have := (Classical.choose_spec (each i hi')).2
          simp only [dif_pos hi']
          exact this
        · simp only [dif_neg hi']
          exact ⟨Nat.zero_le _, Nat.zero_le _, Nat.zero_le _⟩
end Go.Proofs.Qxb6618315a
