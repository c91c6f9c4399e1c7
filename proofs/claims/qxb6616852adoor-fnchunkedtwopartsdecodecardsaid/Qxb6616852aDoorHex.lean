/-
  formatBits (30) IN BASE 16, AND ITS CALLERS.
-/
import Derived.Test.Qxb6616852aDoorBufDef
import Derived.Laws.BitsAll
import Derived.Lib.AppendZeros
import Derived.OwnWalk
namespace Go.Proofs.Qxb6616852aDoor
open Go.RowKit Go.Deep

/-- The digits' values, from the first to the last. -/
def hexl (u : Nat) : List Nat := if u < 16 then [u] else hexl (u / 16) ++ [u % 16]

def dig (k : Nat) : Int := if k < 10 then 48 + k else 87 + k

theorem hexl_small {u : Nat} (h : u < 16) : hexl u = [u] := by rw [hexl, if_pos h]
theorem hexl_big {u : Nat} (h : 16 ≤ u) : hexl u = hexl (u / 16) ++ [u % 16] := by rw [hexl, if_neg (by omega)]
theorem hexl_pos (u : Nat) : 0 < (hexl u).length := by
  rw [hexl]
  split <;> simp
theorem hexl_len (n : Nat) : ∀ u, u < 16 ^ (n + 1) → (hexl u).length ≤ n + 1 := by
  induction n with
  | zero => intro u h; rw [hexl_small (by simpa using h)]; simp
  | succ n ih =>
    intro u h
    by_cases hs : u < 16
    · rw [hexl_small hs]; simp
    · rw [hexl_big (by omega), List.length_append]
      have := ih (u / 16) (by rw [Nat.pow_succ] at h; omega)
      simp; omega

theorem tz (w : World) (hT : w.cell? ⟨3, 15, none⟩ = some (.int .u8 4)) :
    Calls Tryd.prog 35 #[.int .u64 16] w fun e w' => e = .returned (.int .i64 4) ∧ w = w' := by
  have h1 : IntKind.u64.wrap (-16) = 18446744073709551600 := by decide
  have h2 : bits .and .u64 16 18446744073709551600 = 16 := by decide
  have h3 : IntKind.u64.wrap (16 * 285870213051353865) = 4573923408821661840 := by decide
  go_enter Tryd.func35, Tryd.ntmps35
  go_wp2
  go_ret
  exact ⟨rfl, rfl⟩

theorem zero79 (w : World) : (zeroValue 79).run Tryd.prog w = .ok (.agg (Array.replicate 65 (.int .u8 0))) w := by kernel_rfl
theorem zero52 (w : World) : (zeroValue 52).run Tryd.prog w = .ok (.agg (Array.replicate 16 (.int .u8 0))) w := by kernel_rfl

theorem pow2 (w : World) : Calls Tryd.prog 34 #[.int .i64 16] w fun e w' => e = .returned (.bool true) ∧ w = w' := by
  have h2 : bits .and .i64 16 15 = 0 := by decide
  go_enter Tryd.func34, Tryd.ntmps34
  go_wp2
  go_ret
  exact ⟨rfl, rfl⟩

/-- The array in the making: its last cells are the digits t. -/
def partHex (t : List Nat) : Nat → Value := fun j => .int .u8 (if j + t.length < 65 then 0 else dig (t.getD (j + t.length - 65) 0))

structure Dig (w wr : World) (t : List Nat) : Prop where
  since : Below w.heap.size w wr
  row : wr.rowIs w.heap.size 79 65 (partHex t)

theorem dig_start (w : World) : Dig w (w.alloc (.cells (Array.replicate 65 (.int .u8 0)) 79)) [] :=
  ⟨(Below.refl _ _).alloc (Nat.le_refl _) _, ⟨_, blk_alloc_new _ _, by simp, fun i hi => by simp [partHex, hi]⟩⟩

theorem dig_step {w wr : World} {t : List Nat} (h : Dig w wr t) (ht : t.length < 65) (d : Nat) : Dig w (wr.setCell ⟨w.heap.size, 64 - t.length, none⟩ (.int .u8 (dig d))) (d :: t) :=
  ⟨h.since.setCell (Nat.le_refl _) _, (h.row.set (64 - t.length) _).congr (fun j hj => by
    simp only [partHex, List.length_cons]
    by_cases e : j = 64 - t.length
    · subst e
      rw [if_pos rfl, if_neg (by omega), show 64 - t.length + (t.length + 1) - 65 = 0 by omega]
      rfl
    · rw [if_neg e]
      by_cases hlt : j + t.length < 65
      · rw [if_pos hlt, if_pos (by omega)]
      · rw [if_neg hlt, if_neg (by omega), show j + (t.length + 1) - 65 = (j + t.length - 65) + 1 by omega]
        rfl)⟩

theorem digs (d : Nat) (hd : d < 16) (h : d < (⟨#[48, 49, 50, 51, 52, 53, 54, 55, 56, 57, 97, 98, 99, 100, 101, 102, 103, 104, 105, 106, 107, 108, 109, 110, 111, 112, 113, 114, 115, 116, 117, 118, 119, 120, 121, 122]⟩ : ByteArray).size) :
    ((((⟨#[48, 49, 50, 51, 52, 53, 54, 55, 56, 57, 97, 98, 99, 100, 101, 102, 103, 104, 105, 106, 107, 108, 109, 110, 111, 112, 113, 114, 115, 116, 117, 118, 119, 120, 121, 122]⟩ : ByteArray)[d]'h).toNat : Nat) : Int) = dig d := by
  have hk : d = 0 ∨ d = 1 ∨ d = 2 ∨ d = 3 ∨ d = 4 ∨ d = 5 ∨ d = 6 ∨ d = 7 ∨ d = 8 ∨ d = 9 ∨ d = 10 ∨ d = 11 ∨ d = 12 ∨ d = 13 ∨ d = 14 ∨ d = 15 := by omega
  rcases hk with rfl | rfl | rfl | rfl | rfl | rfl | rfl | rfl | rfl | rfl | rfl | rfl | rfl | rfl | rfl | rfl <;> rfl

theorem len79 : Tryd.prog.arrayLen 79 = 65 := by kernel_rfl
theorem elem79 : Tryd.prog.elem 79 = 5 := by kernel_rfl

theorem sl79 (W : World) (b t : Nat) (ht : t ≤ 64) :
    (Instr.sliceAt 79 (.pointer (some ⟨b, 0, none⟩)) (some (.int .i64 (64 - t : Nat))) none none).run Tryd.prog W = .ok (.slice (some ⟨b, 64 - t, none⟩) (t + 1) (t + 1)) W := by
  have h := run_sliceAt_array_l (P := Tryd.prog) W 79 ⟨b, 0, none⟩ (by rw [len79, elem79]; exact Tryd.underlying79) .i64 (64 - t : Nat) (by omega) (by rw [len79]; omega)
  rw [h, elem79, Tryd.sizeOf5, Result.andThen_ok]
  simp only [slicedAt, len79, Int.toNat_natCast, Nat.mul_one, Lib.addr_add, Nat.zero_add]
  rw [if_neg (by omega), show 65 - (64 - t) = t + 1 by omega]

/-- The digits' letters. -/
def hexb (u : Nat) : List Int := (hexl u).map dig

theorem hexb_length (u : Nat) : (hexb u).length = (hexl u).length := by simp [hexb]

/-- What formatBits leaves: the letters in the array sb. -/
structure Lettered (sb u : Nat) (w w' : World) : Prop where
  but : But w.heap.size sb w w'
  cell : ∀ i, i < (hexb u).length → w'.cell? ⟨sb, i, none⟩ = some (.int .u8 (nth (hexb u) i))

theorem But.setCells {M b : Nat} {u v : World} (h : But M b u v) (vs : List Value) : ∀ o, But M b u (v.setCells b o vs) := by
  induction vs generalizing v with
  | nil => intro o; exact h
  | cons x r ih => intro o; exact ih (h.setB o x) (o + 1)

theorem But.ofBelow {M b : Nat} {u v : World} (k : Below M u v) : But M b u v := (But.refl M b u).below k

/-- The append of the letters, and what it leaves. -/
theorem app_run {w W : World} {sb u : Nat} {t : List Nat} (hu : hexl u = t) (hlen : t.length ≤ 5) (hD : Dig w W t) (hsb : sb < w.heap.size)
    (hc : ∀ j, j < 16 → (w.cell? ⟨sb, j, none⟩).isSome = true) (hf : ∀ j, j < 16 → w.frozen? ⟨sb, j, none⟩ = false) :
    ∃ W', (Builtin.append_ #[22, 22] 22 #[.slice (some ⟨sb, 0, none⟩) 0 16, .slice (some ⟨w.heap.size, 65 - t.length, none⟩) t.length t.length]).run Tryd.prog W = .ok (.slice (some ⟨sb, 0, none⟩) t.length 16) W' ∧ Lettered sb u w W' := by
  have hc' : ∀ j, j < 16 → (W.cell? ⟨sb, j, none⟩).isSome = true := fun j hj => by rw [hD.since.cell (p := ⟨sb, j, none⟩) hsb]; exact hc j hj
  have hf' : ∀ j, j < 16 → W.frozen? ⟨sb, j, none⟩ = false := fun j hj => by rw [World.frozen?_of_block (a := ⟨sb, j, none⟩) (hD.since.block sb hsb)]; exact hf j hj
  obtain ⟨i0, hi, hz0, hz1, hz2⟩ := info_parts Tryd.info5
  have hr := run_append_room_cells (P := Tryd.prog) W 22 22 5 i0 Tryd.underlying22 hi sb 0 0 16 ⟨w.heap.size, 65 - t.length, none⟩ t.length t.length (t.map fun d => .int .u8 (dig d))
    (by rw [hz1]; simp) (fun j v hv => by
      rw [List.getElem?_map] at hv
      by_cases hj : j < t.length
      · rw [List.getElem?_eq_getElem hj] at hv
        obtain rfl := Option.some.inj hv
        rw [show (⟨w.heap.size, 65 - t.length, none⟩ : Addr).add j = ⟨w.heap.size, 65 - t.length + j, none⟩ from Lib.addr_add _ _ _, hD.row.cell (by omega)]
        simp only [partHex]
        rw [if_neg (by omega), show 65 - t.length + j + t.length - 65 = j by omega]
        simp [List.getD, hj]
      · rw [List.getElem?_eq_none (by omega)] at hv
        cases hv)
    (fun v hv => by obtain ⟨d, _, rfl⟩ := List.mem_map.1 hv; rfl) (by omega)
    (fun j hj => by rw [hz1]; simp at hj ⊢; exact hc' j (by omega)) (fun j hj => by rw [hz1]; simp at hj ⊢; exact hf' j (by omega))
  rw [Nat.zero_add, Nat.zero_add, Nat.zero_mul] at hr
  refine ⟨_, hr, ⟨(But.ofBelow hD.since).setCells _ 0, fun i hi => ?_⟩⟩
  rw [hexb_length, hu] at hi
  have h := World.cell?_setCells_in sb (t.map fun d => .int .u8 (dig d)) 0 W (fun j hj => by simp at hj ⊢; exact hc' j (by omega)) i (by simpa using hi)
  rw [Nat.zero_add] at h
  rw [h]
  simp [nth, hexb, hu, hi]

set_option maxHeartbeats 1600000 in
set_option maxRecDepth 100000 in
theorem fb (sb u : Nat) (w : World) (hu : u ≤ 1048575) (hT : w.cell? ⟨3, 15, none⟩ = some (.int .u8 4)) (hsb : sb < w.heap.size)
    (hc : ∀ j, j < 16 → (w.cell? ⟨sb, j, none⟩).isSome = true) (hf : ∀ j, j < 16 → w.frozen? ⟨sb, j, none⟩ = false) :
    Calls Tryd.prog 30 #[.slice (some ⟨sb, 0, none⟩) 0 16, .int .u64 u, .int .i64 16, .bool false, .bool true] w fun e w' =>
      e = .returned (.tuple #[.slice (some ⟨sb, 0, none⟩) (hexb u).length 16, .string ⟨#[]⟩]) ∧ Lettered sb u w w' := by
  have hlen : (hexl u).length ≤ 5 := hexl_len 4 u (by omega)
  have HC : Hid _ := ⟨hc⟩
  have HF : Hid _ := ⟨hf⟩
  clear hc hf
  obtain ⟨Z, hZ⟩ : ∃ Z : Array Value, Z = Array.replicate 65 (.int .u8 0) := ⟨_, rfl⟩
  have hz : ∀ W : World, (zeroValue 79).run Tryd.prog W = .ok (.agg Z) W := fun W => by rw [hZ]; exact zero79 W
  have hT1 : ∀ o, (w.alloc o).cell? ⟨3, 15, none⟩ = some (.int .u8 4) := fun o => by
    rw [World.cell?_alloc_old _ _ _ (Nat.ne_of_lt (World.block_lt_of_cell? _ _ hT))]; exact hT
  go_enter Tryd.func30, Tryd.ntmps30
  go_wp2_with fail
  refine (pow2 _).mono ?_
  rintro e w' ⟨rfl, rfl⟩
  go_wp2_with fail
  refine (tz _ (hT1 _)).mono ?_
  rintro e w' ⟨rfl, rfl⟩
  clear hT1
  go_wp2_with fail
  go_loopw [1, 13] (fun x y wr => ∃ (q : Nat) (t : List Nat), x = .int .u64 q ∧ y = .int .i64 (65 - t.length : Nat) ∧ hexl u = hexl q ++ t ∧ q ≤ u ∧ Dig w wr t) (fun x _ _ => (intOf x).toNat)
  case atStart => exact ⟨u, [], rfl, rfl, by simp, Nat.le_refl _, dig_start w⟩
  case round =>
    obtain ⟨q, t, rfl, rfl, hqt, hqu, hD⟩ := hrel
    have hl : (hexl q).length + t.length ≤ 5 := by rw [← List.length_append, ← hqt]; exact hlen
    have hq0 := hexl_pos q
    by_cases hq : q < 16
    · have e1 : ((65 - t.length : Nat) : Int) - 1 = (64 - t.length : Nat) := by omega
      have hst1 : wr.cell? ⟨w.heap.size, 64 - t.length, none⟩ = some (partHex t (64 - t.length)) := hD.row.cell (by omega)
      have hst2 : wr.frozen? ⟨w.heap.size, 64 - t.length, none⟩ = false := hD.row.frozen _
      replace hqt : hexl u = q :: t := by rw [hqt, hexl_small hq]; rfl
      have hh : q < (⟨#[48, 49, 50, 51, 52, 53, 54, 55, 56, 57, 97, 98, 99, 100, 101, 102, 103, 104, 105, 106, 107, 108, 109, 110, 111, 112, 113, 114, 115, 116, 117, 118, 119, 120, 121, 122]⟩ : ByteArray).size := Nat.lt_of_lt_of_le hq (by decide)
      have hD2 : Dig w (wr.setCell ⟨w.heap.size, 64 - t.length, none⟩ (.int .u8 (((⟨#[48, 49, 50, 51, 52, 53, 54, 55, 56, 57, 97, 98, 99, 100, 101, 102, 103, 104, 105, 106, 107, 108, 109, 110, 111, 112, 113, 114, 115, 116, 117, 118, 119, 120, 121, 122]⟩ : ByteArray)[q]'hh).toNat : Nat))) (q :: t) := by
        rw [digs q hq hh]
        exact dig_step hD (by omega) q
      obtain ⟨W', hap, hLe⟩ := app_run hqt (by simp; omega) hD2 hsb HC.out HF.out
      simp only [List.length_cons] at hap
      rw [show 65 - (t.length + 1) = 64 - t.length by omega] at hap
      clear hD2 hD
      have hsl : ∀ W, _ := fun W => sl79 W w.heap.size t.length (by omega)
      have hk : (hexb u).length = t.length + 1 := by rw [hexb_length, hqt]; rfl
      obtain ⟨k, hkk⟩ : ∃ k, t.length + 1 = k := ⟨_, rfl⟩
      rw [hkk] at hap hk
      simp only [hkk] at hsl
      go_wp2_with (at_builtin; refine Lib.wpList_append_run _ rfl _ _ 22 22 rfl _ _ rfl rfl _ W' hap ?_)
      go_ret2
      rw [hk]
      exact ⟨rfl, hLe⟩
    · have hb : bits .and .u64 (q : Int) 15 = ((q % 16 : Nat) : Int) := by
        rw [show (15 : Int) = ((15 : Nat) : Int) by rfl, u64_and_nat q 15 (by omega) (by omega), nat_mask4]
      obtain ⟨d, hd⟩ : ∃ d, q % 16 = d := ⟨_, rfl⟩
      have hd16 : d < 16 := by omega
      rw [hd] at hb
      have e1 : ((65 - t.length : Nat) : Int) - 1 = (64 - t.length : Nat) := by omega
      have hst1 : wr.cell? ⟨w.heap.size, 64 - t.length, none⟩ = some (partHex t (64 - t.length)) := hD.row.cell (by omega)
      have hst2 : wr.frozen? ⟨w.heap.size, 64 - t.length, none⟩ = false := hD.row.frozen _
      go_wp2_with fail
      go_roundw
      case rel =>
        rw [digs d hd16]
        refine ⟨q / 16, d :: t, ?_, ?_, ?_, by omega, dig_step hD (by omega) d⟩
        · congr 1
        · congr 1 <;> simp
          try omega
        · rw [hqt, hexl_big (by omega), hd]; simp
      case measure => simp [intOf]; omega

set_option maxHeartbeats 800000 in
theorem appendInt (sb u : Nat) (w : World) (hu : u ≤ 1048575) (hT : w.cell? ⟨3, 15, none⟩ = some (.int .u8 4)) (hsb : sb < w.heap.size)
    (hc : ∀ j, j < 16 → (w.cell? ⟨sb, j, none⟩).isSome = true) (hf : ∀ j, j < 16 → w.frozen? ⟨sb, j, none⟩ = false) :
    Calls Tryd.prog 20 #[.slice (some ⟨sb, 0, none⟩) 0 16, .int .i64 u, .int .i64 16] w fun e w' =>
      e = .returned (.slice (some ⟨sb, 0, none⟩) (hexb u).length 16) ∧ Lettered sb u w w' := by
  have HC : Hid _ := ⟨hc⟩
  have HF : Hid _ := ⟨hf⟩
  clear hc hf
  go_enter Tryd.func20, Tryd.ntmps20
  go_wp2_with (first | (go_at_call 30; refine (fb sb u _ hu hT hsb HC.out HF.out).mono ?_) | go_in)
  rintro e w' ⟨rfl, hL⟩
  go_wp2
  go_ret
  exact ⟨rfl, hL⟩
end Go.Proofs.Qxb6616852aDoor
