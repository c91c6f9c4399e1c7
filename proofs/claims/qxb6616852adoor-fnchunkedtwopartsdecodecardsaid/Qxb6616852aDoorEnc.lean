/-
  THE CHUNKED TEXT, PLAIN: no Go in sight.
-/
import Derived.Test.Qxb6616852aDoorHex
namespace Go.Proofs.Qxb6616852aDoor
open Go.RowKit Go.Deep

def valOf (l : List Nat) : Nat := l.foldl (fun n d => n * 16 + d) 0

theorem valOf_snoc (l : List Nat) (d : Nat) : valOf (l ++ [d]) = valOf l * 16 + d := by simp [valOf]

theorem valOf_hexl (u : Nat) : valOf (hexl u) = u := by
  induction u using Nat.strongRecOn with
  | _ u ih =>
    by_cases h : u < 16
    · rw [hexl_small h]; simp [valOf]
    · rw [hexl_big (by omega), valOf_snoc, ih (u / 16) (by omega)]
      omega

theorem valOf_take (l : List Nat) (j : Nat) (hj : j < l.length) : valOf (l.take (j + 1)) = valOf (l.take j) * 16 + l.getD j 0 := by
  rw [List.take_add_one, List.getElem?_eq_getElem hj, Option.toList_some, valOf_snoc]
  simp [hj]

theorem valOf_lt (l : List Nat) (h : ∀ d ∈ l, d < 16) : valOf l < 16 ^ l.length := by
  have key : ∀ (l : List Nat) (n k : Nat), (∀ d ∈ l, d < 16) → n < 16 ^ k → l.foldl (fun n d => n * 16 + d) n < 16 ^ (k + l.length) := by
    intro l
    induction l with
    | nil => intro n k _ hn; simpa using hn
    | cons d r ih =>
      intro n k hd hn
      have h0 := hd d (by simp)
      have := ih (n * 16 + d) (k + 1) (fun x hx => hd x (by simp [hx])) (by rw [Nat.pow_succ]; omega)
      simp only [List.foldl_cons, List.length_cons]
      rw [show k + (r.length + 1) = k + 1 + r.length by omega]
      exact this
  have := key l 0 0 h (by simp)
  rw [Nat.zero_add] at this
  exact this

theorem hexl_lt (u : Nat) : ∀ d ∈ hexl u, d < 16 := by
  induction u using Nat.strongRecOn with
  | _ u ih =>
    intro d hd
    by_cases h : u < 16
    · rw [hexl_small h] at hd
      simp at hd
      omega
    · rw [hexl_big (by omega)] at hd
      rcases List.mem_append.1 hd with hd | hd
      · exact ih (u / 16) (by omega) d hd
      · simp at hd
        omega

theorem hexl_head (u : Nat) (hu : 1 ≤ u) : (hexl u).getD 0 0 ≠ 0 := by
  induction u using Nat.strongRecOn with
  | _ u ih =>
    by_cases h : u < 16
    · rw [hexl_small h]; simp; omega
    · rw [hexl_big (by omega)]
      have h2 := ih (u / 16) (by omega) (by omega)
      have h3 := hexl_pos (u / 16)
      simp only [List.getD_eq_getElem?_getD] at h2 ⊢
      rw [List.getElem?_append_left h3]
      exact h2

theorem hexl_at (u j : Nat) (hj : j < (hexl u).length) : (hexl u).getD j 0 < 16 := by
  have : (hexl u).getD j 0 = (hexl u)[j] := by simp [hj]
  rw [this]
  exact hexl_lt u _ (List.getElem_mem hj)

theorem valOf_take_lt (u j : Nat) (hl : (hexl u).length ≤ 5) : valOf ((hexl u).take j) < 1048576 := by
  have h := valOf_lt ((hexl u).take j) (fun d hd => hexl_lt u d (List.mem_of_mem_take hd))
  have h2 : ((hexl u).take j).length ≤ 5 := by rw [List.length_take]; omega
  have h3 : 16 ^ ((hexl u).take j).length ≤ 16 ^ 5 := Nat.pow_le_pow_right (by omega) h2
  omega

theorem dig_48 {d : Nat} (hd : d < 16) (h0 : d ≠ 0) : dig d ≠ 48 := by unfold dig; split <;> omega

theorem nth_hexb (u j : Nat) (hj : j < (hexl u).length) : nth (hexb u) j = dig ((hexl u).getD j 0) := by
  simp [nth, hexb, hj]

/-- One chunk. -/
def encn (c : List Int) : List Int := hexb c.length ++ (13 :: 10 :: (c ++ [13, 10]))
/-- The chunks, and the last one. -/
def encs : List (List Int) → List Int
  | [] => [48, 13, 10, 13, 10]
  | c :: r => encn c ++ encs r

/-- A line of digits at place P. -/
structure Line (s : List Int) (P u : Nat) (tl : List Int) : Prop where
  digit : ∀ j, j < (hexl u).length → nth s (P + j) = dig ((hexl u).getD j 0)
  cr : nth s (P + (hexl u).length) = 13
  lf : nth s (P + (hexl u).length + 1) = 10
  more : ∀ i, nth s (P + (hexl u).length + 2 + i) = nth tl i
  len : s.length = P + (hexl u).length + 2 + tl.length

theorem line_of {s pre tl : List Int} {u : Nat} (h : s = pre ++ (hexb u ++ (13 :: 10 :: tl))) : Line s pre.length u tl := by
  subst h
  refine ⟨fun j hj => ?_, ?_, ?_, fun i => ?_, ?_⟩
  · rw [nth_right (by omega), show pre.length + j - pre.length = j by omega, nth_left (by rw [hexb_length]; exact hj), nth_hexb u j hj]
  · rw [nth_right (by omega), nth_right (by rw [hexb_length]; omega), hexb_length, show pre.length + (hexl u).length - pre.length - (hexl u).length = 0 by omega]
    rfl
  · rw [nth_right (by omega), nth_right (by rw [hexb_length]; omega), hexb_length, show pre.length + (hexl u).length + 1 - pre.length - (hexl u).length = 1 by omega]
    rfl
  · rw [nth_right (by omega), nth_right (by rw [hexb_length]; omega), hexb_length, show pre.length + (hexl u).length + 2 + i - pre.length - (hexl u).length = i + 2 by omega]
    rfl
  · simp [hexb_length]
    omega

theorem encs_nil : encs [] = hexb 0 ++ (13 :: 10 :: [13, 10]) := by
  have : hexb 0 = [48] := by rw [hexb, hexl_small (by omega)]; rfl
  rw [this]; rfl
theorem encs_cons (c : List Int) (r : List (List Int)) : encs (c :: r) = hexb c.length ++ (13 :: 10 :: (c ++ (13 :: 10 :: encs r))) := by
  simp [encs, encn]

theorem hexDigit_dig (d : Nat) (w : World) (h : d < 16) :
    Calls Tryd.prog 17 #[.int .u8 (dig d)] w fun e w' => e = .returned (.int .i64 d) ∧ w = w' := by
  by_cases h10 : d < 10
  · have e : dig d = ((48 + d : Nat) : Int) := by simp [dig, h10]
    rw [e]
    exact hexDigit_num d w h10
  · have e : dig d = ((97 + (d - 10) : Nat) : Int) := by simp [dig, h10]; omega
    rw [e]
    have := hexDigit_let (d - 10) w (by omega)
    rw [show 10 + (d - 10) = d by omega] at this
    exact this
end Go.Proofs.Qxb6616852aDoor
