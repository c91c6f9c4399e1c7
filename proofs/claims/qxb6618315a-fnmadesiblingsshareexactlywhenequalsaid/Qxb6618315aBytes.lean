/-
  THE WALK OF zzBytes_FnMadeBuildsOneChainAlongPath (function 5): it returns a bool and turns nothing.
-/
import Derived.Test.Qxb6618315aWalk
namespace Go.Proofs.Qxb6618315a
open Go.RowKit Go.Deep

/-- It returned a bool. -/
def SomeBool (e : Ending) : Prop := ∃ x, e = .returned (.bool x)
theorem someBool (x : Bool) : SomeBool (.returned (.bool x)) := ⟨x, rfl⟩

set_option maxHeartbeats 1600000 in
theorem bytes5_any (a : Option Addr) (b off n c : Nat) (F G H : Nat → ByteArray) (k : Int) (w : World) (hm : n ≤ maxLen) (hp : PathIs w a b off n F G H)
    (hs : ∀ i, (F i).size ≤ maxLen ∧ (G i).size ≤ maxLen ∧ (H i).size ≤ maxLen) :
    Calls Try.prog 5 #[.slice a n c, .int .i64 k] w fun e w' => SomeBool e ∧ w = w' := by
  unfold maxLen at hm hs
  by_cases h1 : n ≤ 1048576
  · have HP : Hid _ := hp
    have HS : Hid _ := hs
    clear hp hs
    go_enter Try.func5, Try.ntmps5
    go_wp2_with fail
    go_loop [5, 6] (fun z i => ∃ (t s : Nat), t ≤ n ∧ s ≤ 1048576 ∧ i = .int .i64 t ∧ z = .int .i64 s) (fun _ i => n - (intOf i).toNat)
    case atStart => exact ⟨0, n, Nat.zero_le _, h1, rfl, rfl⟩
    case round =>
      obtain ⟨t, s, ht, hs, rfl, rfl⟩ := hrel
      by_cases hlt : t < n
      · obtain ⟨q1, q2⟩ := HP.out
        obtain rfl := q1 (by omega)
        obtain ⟨p0, p1, p2⟩ := q2 t hlt
        obtain ⟨s0, s1, s2⟩ := HS.out t
        clear q1 q2
        have hz2 : (t : Int) < (n : Int) := by omega
        go_wp2_with fail
        all_goals first
          | (go_ret; exact ⟨someBool _, rfl⟩)
          | skip
        go_round
        case rel => exact ⟨t + 1, s + (F t).size + (G t).size + (H t).size, by omega, by omega, by go_num, by go_num⟩
        case measure => simp [intOf]; omega
      · go_wp2_with fail
        go_ret
        exact ⟨someBool _, rfl⟩
  · go_enter Try.func5, Try.ntmps5
    go_wp2_with fail
    go_ret
    exact ⟨someBool _, rfl⟩
end Go.Proofs.Qxb6618315a
