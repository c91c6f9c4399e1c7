/-
  THE PROOF OF 'Rows.FnMadeSiblingsShareExactlyWhenEqualSaid' (function 4), after the guide's shell for a law over slices; the two Steps come in by value.
-/
import Derived.Test.Qxb6618315aRows
import Derived.Test.Qxb6618315aLawE
import Derived.Test.Qxb6618315aOpen
namespace Go.Proofs.Qxb6618315a.fnMadeSiblingsShareExactlyWhenEqual
open Go.ChangeShapes Go.WideShapes Go.ChangeAt Go.RowKit Go.Deep
set_option linter.unusedVariables false

theorem own : ownKnob Try.prog.godebug = none := by kernel_rfl

/-- A Step that came in by value. -/
theorem open_step {H : Type} {enc : TypeId × Value → H} {W : World} {base0 : Nat} {r : Reach} {v : Value} {d : DataW H} {ps : List MemPlace}
    (hval : Value.okWide Try.prog W r base0 25 v) (h : DataW.Trod enc Try.prog W 0 (fun _ => true) true 25 v d ps) :
    ∃ x : El, v = .agg #[.string x.f, .string x.k, .string x.v] ∧ x.Fits ∧ ps = [] := by
  obtain ⟨cs, rfl⟩ : ∃ cs, v = .agg cs := by
    simp only [Value.okWide, Try.underlying25] at hval
    cases v <;> simp_all
  obtain ⟨fuel, hf⟩ := h
  obtain ⟨f, k, v, hcs, h1, h2, h3, hd⟩ := step_cells hf
  refine ⟨⟨f, k, v⟩, ?_, ⟨h1, h2, h3⟩, congrArg Prod.snd hd⟩
  have e : cs.toList = [.string f, .string k, .string v] := hcs
  obtain ⟨l⟩ := cs
  simp only at e
  rw [e]

set_option maxRecDepth 100000 in
theorem lifted (os : Os) (started : os.Started) (H : Type) (enc : TypeId × Value → H) :
    ReturnsInHanded {} Try.checked os 4 .any (Rows.fnMadeSiblingsShareExactlyWhenEqualSpec.pre6 enc Try.prog Try.f4 Rows.fnMadeSiblingsShareExactlyWhenEqualRow.domain false) (Rows.fnMadeSiblingsShareExactlyWhenEqualSpec.post enc Try.prog Try.f4 false true false false) := by
  refine returnsInHanded_of_change (C := Try.checked) own started (by kernel_rfl) Try.func4
    (ChangeSpec.witness6 (enc := enc) (C := Try.checked) false ⟨#[], #[.slice none 0 0, .agg #[.string ByteArray.empty, .string ByteArray.empty, .string ByteArray.empty], .agg #[.string ByteArray.empty, .string ByteArray.empty, .string ByteArray.empty]], []⟩ 8 (by kernel_rfl) (by kernel_rfl) (by kernel_rfl) (by kernel_rfl)) ?_
  intro W base args ds gs before hval0 hW hcnd _
  have hval : ∀ (j : Nat) t v, Try.f4.params[j]? = some t → args[j]? = some v → Value.okWide Try.prog W .any base t v := hval0
  have hW' := hW
  obtain ⟨p, q, hA0, hV, rfl, hfz, hnd⟩ := hW
  have hA : DataW.TrodAll enc Try.prog W 0 (fun _ => true) true Try.f4.params.toList args.toList ds p := hA0
  rw [Try.params4] at hA hval
  obtain ⟨v0, vs0, d0, ds0, p0, q0, hargs, rfl, rfl, h0, r0⟩ := trodAll_cons hA
  obtain ⟨v1, vs1, d1, ds1, p1, q1, rfl, rfl, rfl, h1, r1⟩ := trodAll_cons r0
  obtain ⟨v2, vs2, d2, ds2, p2, q2, rfl, rfl, rfl, h2, r2⟩ := trodAll_cons r1
  obtain ⟨rfl, rfl, rfl⟩ := trodAll_nil r2
  obtain rfl : args = #[v0, v1, v2] := by cases args; simp_all
  obtain ⟨rfl, rfl⟩ := trodVars_none hV
  obtain ⟨a0, len0, cap0, rfl⟩ := okWide_slice Try.underlying22 (hval 0 22 v0 rfl rfl)
  have k0 := h0
  have k1 := h1
  have k2 := h2
  have lt0 : ∀ x ∈ p0, x.block < W.heap.size := by obtain ⟨m, hm⟩ := k0; exact DataW.trod_lt m _ _ _ hm
  have lt1 : ∀ x ∈ p1, x.block < W.heap.size := by obtain ⟨m, hm⟩ := k1; exact DataW.trod_lt m _ _ _ hm
  have lt2 : ∀ x ∈ p2, x.block < W.heap.size := by obtain ⟨m, hm⟩ := k2; exact DataW.trod_lt m _ _ _ hm
  obtain ⟨b, off, F, G, K, hm0, hpath, hsz⟩ : ∃ (b off : Nat) (F G K : Nat → ByteArray), len0 ≤ maxLen ∧ PathIs W a0 b off len0 F G K ∧ ∀ i, (F i).size ≤ maxLen ∧ (G i).size ≤ maxLen ∧ (K i).size ≤ maxLen := by
    obtain ⟨fuel, hf⟩ := h0
    exact open_path (by simpa [Value.cells] using hf)
  obtain ⟨x, rfl, hx, _⟩ := open_step (hval 1 25 v1 rfl rfl) h1
  obtain ⟨y, rfl, hy, _⟩ := open_step (hval 2 25 v2 rfl rfl) h2
  clear hA0 hval0
  refine (lawB_walk a0 b off len0 cap0 F G K x y W hm0 hpath hsz hx hy).mono fun e W' ⟨he, bel⟩ => ?_
  subst he
  exact ⟨_, rfl, _, _, _, [], _, [], hW', trodAll_mk1 (shut_bool Try.underlying4 _), (trodAll_cons_mk (Below.trod Try.laidOut (by kernel_rfl) (of_decide_eq_true (by kernel_rfl)) k0 bel lt0) (trodAll_cons_mk (Below.trod Try.laidOut (by kernel_rfl) (of_decide_eq_true (by kernel_rfl)) k1 bel lt1) (trodAll_cons_mk (Below.trod Try.laidOut (by kernel_rfl) (of_decide_eq_true (by kernel_rfl)) k2 bel lt2) trodAll_mk0))), rfl, bel.frame _, fun h => by cases h⟩

theorem over : Rows.fnMadeSiblingsShareExactlyWhenEqualRow.holds Try.pinned (OpenSpec.ofChange Rows.fnMadeSiblingsShareExactlyWhenEqualSpec) :=
  OpenClaim.holds_of_wide 4 Try.f4 rfl rfl rfl rfl rfl rfl rfl ⟨rfl, rfl, rfl, rfl, rfl⟩ rfl rfl rfl rfl rfl (by kernel_rfl) Try.func4 (by kernel_rfl)
    (of_decide_eq_true (by kernel_rfl)) (by unfold Func.isWrapper; first | (rw [if_pos (by decide +kernel)]; kernel_rfl) | (rw [if_neg (by decide +kernel)]; exact ⟨rfl, rfl⟩))
    (fun os started H enc _ => lifted os started H enc)

/-- THE STATEMENT -/
theorem proved : Rows.FnMadeSiblingsShareExactlyWhenEqualSaid := over
end Go.Proofs.Qxb6618315a.fnMadeSiblingsShareExactlyWhenEqual
