/-
  FnChunkedTwoPartsDecode (3): THE LAW's WALK.
-/
import Derived.Test.Qxb6616852aDoorZz
import Derived.Test.Qxb6616852aDoorDecode
import Derived.WalkSpells
namespace Go.Proofs.Qxb6616852aDoor
open Go.RowKit Go.Deep

/-- The chunks that a part makes. -/
def parts (l : List Int) : List (List Int) := if l = [] then [] else [l]

theorem parts_flat (l : List Int) : (parts l).flatten = l := by unfold parts; split <;> simp_all
theorem parts_len (l : List Int) : (parts l).length = if 0 < l.length then 1 else 0 := by
  unfold parts
  split
  · subst_vars; rfl
  · rename_i h
    rw [if_pos (List.length_pos_iff.2 h)]; rfl
theorem encs_parts (l : List Int) (r : List (List Int)) : encs (parts l ++ r) = out l ++ encs r := by
  unfold parts out
  split <;> simp [encs]
theorem parts_ok (l : List Int) (h : l.length ≤ 1048575) : ∀ c ∈ parts l, 1 ≤ c.length ∧ c.length ≤ 1048575 := by
  unfold parts
  split
  · simp
  · rename_i hl
    intro c hc
    simp at hc
    subst hc
    exact ⟨List.length_pos_iff.2 hl, h⟩
theorem out_len (l : List Int) (h : l.length ≤ 524288) : (out l).length ≤ 524300 := by
  unfold out
  split
  · simp
  · have := hexl_len 4 l.length (by omega)
    simp [encn, hexb_length]
    omega

theorem copyFresh (w : World) (p : Addr) (n c : Nat) (l : List Int) (hl : l.length = n) (hcell : ∀ i, i < n → w.cell? (p.add i) = some (.int .u8 (nth l i))) :
    ∃ w2, (Builtin.copy_ #[22, 22] 3 #[.slice (some ⟨w.heap.size, 0, none⟩) n n, .slice (some p) n c]).run Tryd.prog (w.alloc (.cells (madeCells #[.int .u8 0] n) 5)) = .ok (.int .i64 (n : Int)) w2 ∧
      Below w.heap.size w w2 ∧ Sl w2 (some ⟨w.heap.size, 0, none⟩) w.heap.size l := by
  have hg : (w.alloc (.cells (madeCells #[.int .u8 0] n) 5)).heap[w.heap.size]? = some (.cells (madeCells #[.int .u8 0] n) 5 (0, 0)) := blk_alloc_new _ _
  have hsz : (madeCells #[Value.int .u8 0] n).size = n := size_madeCells _ _
  have hvl : (vc l).length = n := by rw [vc_length, hl]
  have hrun := run_copy_row (P := Tryd.prog) (w.alloc (.cells (madeCells #[.int .u8 0] n) 5)) 22 22 3 5 w.heap.size 0 n n p n c (madeCells #[.int .u8 0] n) 5 (vc l)
    Tryd.underlying22 Tryd.size5 hg (by rw [hvl]; exact (Nat.min_self n).symm) (fun j v hv => by
      by_cases hj : j < l.length
      · have hc := hcell j (by omega)
        have hlt := World.block_lt_of_cell? _ _ hc
        rw [World.cell?_alloc_old _ _ _ (by omega), hc, ← hv]
        simp [vc, nth, hj]
      · rw [List.getElem?_eq_none (by rw [vc_length]; omega)] at hv
        cases hv) (by rw [hvl, hsz]; omega) (vc_one l)
  have e : ((madeCells #[Value.int .u8 0] n).toList.take 0 ++ vc l ++ (madeCells #[Value.int .u8 0] n).toList.drop (0 + (vc l).length)) = vc l := by
    rw [hvl, List.drop_eq_nil_of_le (by simp [hsz])]
    simp
  rw [e, hvl] at hrun
  refine ⟨_, hrun, below_setRow ((Below.refl _ _).alloc (Nat.le_refl _) _) (Nat.le_refl _) _, fun _ => rfl, fun i hi => ?_⟩
  rw [Lib.cell_of_heap (setRow_heap _ _ _ _ _ _ hg)]
  simp [vc, nth, hi]

/-- An argument: nil and empty, or cells. -/
structure Arg (w : World) (a : Option Addr) (n c : Nat) (l : List Int) : Prop where
  len : l.length = n
  cap : n ≤ c
  cell : ∀ p, a = some p → ∀ i, i < n → w.cell? (p.add i) = some (.int .u8 (nth l i))
  none : a = .none → n = 0

theorem Arg.kept {w w' : World} {a : Option Addr} {n c : Nat} {l : List Int} (h : Arg w a n c l) (hb : Below w.heap.size w w') : Arg w' a n c l :=
  ⟨h.len, h.cap, fun p hp i hi => by
    have hc := h.cell p hp i hi
    rw [hb.cell (World.block_lt_of_cell? _ _ hc)]; exact hc, h.none⟩

/-- A drawn-region-proof eqBytes. -/
theorem eq_any2 (a : Option Addr) (b c : Nat) (a' : Option Addr) (b' c' : Nat) (l : List Int) (w : World) (hn : l.length ≤ 4194304) (hs : Sl w a b l) (hs' : Sl w a' b' l) :
    Calls Tryd.prog 11 #[.slice a l.length c, .slice a' l.length c'] w fun e w' => e = .returned (.bool true) ∧ ∃ n, w' = w.drewN n := by
  obtain ⟨n, hl⟩ : ∃ n, l.length = n := ⟨_, rfl⟩
  rw [hl] at hn ⊢
  go_enter Tryd.func11, Tryd.ntmps11
  go_wp2
  go_loopw [5] (fun i wr => ∃ k : Nat, k ≤ n ∧ i = .int .i64 k ∧ ∃ q, wr = w.drewN q) (fun i _ => n - (intOf i).toNat)
  case atStart => exact ⟨0, Nat.zero_le _, rfl, 0, rfl⟩
  case round =>
    obtain ⟨k, hk, rfl, q, hL⟩ := hrel
    have hc : ∀ i, i < l.length → wr.cell? ⟨b, i, none⟩ = some (.int .u8 (nth l i)) := fun i hi => by rw [hL]; exact hs.cell i hi
    have hc' : ∀ i, i < l.length → wr.cell? ⟨b', i, none⟩ = some (.int .u8 (nth l i)) := fun i hi => by rw [hL]; exact hs'.cell i hi
    have HQ : Hid _ := ⟨hL⟩
    clear hL
    by_cases hlt : k < n
    · obtain rfl := hs.head (by omega)
      obtain rfl := hs'.head (by omega)
      have e1 := hc k (by omega)
      have e2 := hc' k (by omega)
      clear hc hc'
      go_wp2_with fail
      go_quiet (fail)
      go_wp2
      go_roundw
      case rel => exact ⟨k + 1, by omega, by go_num, q + nq, by rw [HQ.out, World.drewN_drewN]⟩
      case measure => simp [intOf]; omega
    · obtain rfl : k = n := by omega
      clear hc hc'
      go_wp2
      go_ret
      exact ⟨rfl, q, HQ.out⟩
end Go.Proofs.Qxb6616852aDoor
