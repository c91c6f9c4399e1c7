/-
  '==' BETWEEN TWO Steps.
-/
import Derived.Test.Qxb6618315aSib
import Derived.Laws.StructEq
namespace Go.Proofs.Qxb6618315a
open Go.RowKit

theorem Try.fields25 : Try.prog.fieldsOf 25 = #[⟨"Field", 9, 0, false, "", "", 0⟩, ⟨"Key", 9, 1, false, "", "", 16⟩, ⟨"Value", 9, 2, false, "", "", 32⟩] := by
  simp [Program.fieldsOf, Try.underlying25]
theorem Try.stood25 : Try.prog.stoodInHeld 25 = false := by kernel_rfl

theorem part9 (w : World) (cs : Array Value) (i : Nat) (s : ByteArray) (h : cs[i]? = some (.string s)) : (part 9 cs i).run Try.prog w = .ok (.string s) w := by
  simp [part, isAgg, run_underlying Try.underlying9, h]

theorem eq_run (x y : El) (w : World) :
    (Op.equalIn 10000 25 (.agg #[.string x.f, .string x.k, .string x.v]) (.agg #[.string y.f, .string y.k, .string y.v])).run Try.prog w =
      .ok ((x.f.toList == y.f.toList) && ((x.k.toList == y.k.toList) && (x.v.toList == y.v.toList))) w := by
  rw [run_equalIn_struct w 9999 25 _ _ (by rw [Try.underlying25, Try.fields25]) Try.stood25, Try.fields25]
  have p0 := part9 w #[.string x.f, .string x.k, .string x.v] 0 x.f rfl
  have p1 := part9 w #[.string x.f, .string x.k, .string x.v] 1 x.k rfl
  have p2 := part9 w #[.string x.f, .string x.k, .string x.v] 2 x.v rfl
  have q0 := part9 w #[.string y.f, .string y.k, .string y.v] 0 y.f rfl
  have q1 := part9 w #[.string y.f, .string y.k, .string y.v] 1 y.k rfl
  have q2 := part9 w #[.string y.f, .string y.k, .string y.v] 2 y.v rfl
  have e0 := run_equalIn_string (P := Try.prog) w 9998 9 x.f y.f Try.underlying9
  have e1 := run_equalIn_string (P := Try.prog) w 9998 9 x.k y.k Try.underlying9
  have e2 := run_equalIn_string (P := Try.prog) w 9998 9 x.v y.v Try.underlying9
  simp only [Op.eqFields, Sem.run_bind, Sem.run_ite, p0, p1, p2, q0, q1, q2, e0, e1, e2, Result.andThen_ok]
  cases x.f.toList == y.f.toList <;> cases x.k.toList == y.k.toList <;> cases x.v.toList == y.v.toList <;> simp

theorem El.same_of {x y : El} (h : ((x.f.toList == y.f.toList) && ((x.k.toList == y.k.toList) && (x.v.toList == y.v.toList))) = true) : x = y := by
  obtain ⟨⟨⟨a⟩⟩, ⟨⟨b⟩⟩, ⟨⟨c⟩⟩⟩ := x
  obtain ⟨⟨⟨a'⟩⟩, ⟨⟨b'⟩⟩, ⟨⟨c'⟩⟩⟩ := y
  simp only [ByteArray.toList_eq, Bool.and_eq_true, beq_iff_eq] at h
  obtain ⟨rfl, rfl, rfl⟩ := h
  rfl

theorem eq_same (x : El) (w : World) : (Op.equalIn 10000 25 (.agg #[.string x.f, .string x.k, .string x.v]) (.agg #[.string x.f, .string x.k, .string x.v])).run Try.prog w = .ok true w := by
  rw [eq_run]
  simp

theorem eq_other {x y : El} (h : x ≠ y) (w : World) : (Op.equalIn 10000 25 (.agg #[.string x.f, .string x.k, .string x.v]) (.agg #[.string y.f, .string y.k, .string y.v])).run Try.prog w = .ok false w := by
  rw [eq_run]
  cases hq : ((x.f.toList == y.f.toList) && ((x.k.toList == y.k.toList) && (x.v.toList == y.v.toList)))
  · rfl
  · exact absurd (El.same_of hq) h

theorem kl_other {x y : El} (hx : x.Fits) (hy : y.Fits) (h : x ≠ y) : x.kl ≠ y.kl := fun e => by
  obtain ⟨h1, h2, h3⟩ := kl_inj hx.1 hx.2.1 hx.2.2 hy.1 hy.2.1 hy.2.2 e
  cases x
  cases y
  simp_all
end Go.Proofs.Qxb6618315a
