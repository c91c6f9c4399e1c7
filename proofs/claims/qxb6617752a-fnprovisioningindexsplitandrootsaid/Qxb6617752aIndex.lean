/-
  THE WALK OF provisioningIndex (function 10): over a row of pointers to certificates.
-/
import Derived.Test.Qxb6617752aChecked
import Derived.Test.Qxb6617752aPlain
import Derived.WalkKit
namespace Go.Proofs.Qxb6617752a
open Go.RowKit

theorem ret_int {k : IntKind} {a b : Int} (h : a = b) : Ending.returned (.int k a) = .returned (.int k b) := by rw [h]

set_option maxHeartbeats 400000 in
theorem index_any (g n : Nat) (G : Nat → Nat) (F : Nat → Bool) (w : World) (hn : n ≤ 65537)
    (hrow : ∀ i, i < n → w.cell? ⟨g, i, none⟩ = some (.pointer (some ⟨G i, 0, none⟩)))
    (hF : ∀ i, i < n → w.cell? ⟨G i, 10, none⟩ = some (.bool (F i))) :
    Calls Try.prog 10 #[.slice (some ⟨g, 0, none⟩) n n] w fun e w' => e = .returned (.int .i64 (Pl.lastIdx F n)) ∧ w = w' := by
  go_enter Try.func10, Try.ntmps10
  go_wp2
  go_loop [3] (fun i => ∃ k : Nat, k ≤ n ∧ i = .int .i64 ((k : Int) - 1) ∧ Hid (Pl.lastIdx F k = Pl.lastIdx F n)) (fun i => (intOf i + 1).toNat)
  case atStart => exact ⟨n, Nat.le_refl _, rfl, rfl⟩
  case round =>
    obtain ⟨k, hk, rfl, HL⟩ := hrel
    match k with
    | 0 =>
      have h0 : ¬ ((0 : Nat) : Int) - 1 ≥ 0 := by omega
      go_wp2
      go_ret
      exact ⟨ret_int (by rw [← HL.out]; rfl), rfl⟩
    | k + 1 =>
      have hc := hrow k (by omega)
      have hf := hF k (by omega)
      clear hrow hF
      rw [show (((k + 1 : Nat) : Int) - 1) = (k : Int) by omega]
      cases hFk : F k
      · have HS : Hid (Pl.lastIdx F (k + 1) = Pl.lastIdx F k) := by show _ = _; rw [Pl.lastIdx_succ, hFk]; rfl
        go_wp2
        go_round
        case rel => exact ⟨k, by omega, rfl, HS.out.symm.trans HL.out⟩
        case measure => simp [intOf]
      · have HS : Hid (Pl.lastIdx F (k + 1) = (k : Int)) := by show _ = _; rw [Pl.lastIdx_succ, hFk]; rfl
        go_wp2
        go_ret
        exact ⟨ret_int (HS.out.symm.trans HL.out), rfl⟩
end Go.Proofs.Qxb6617752a
