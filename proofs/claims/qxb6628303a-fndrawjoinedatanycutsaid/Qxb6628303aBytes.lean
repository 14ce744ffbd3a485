import Derived.Test.Qxb6628303aObj
namespace Go.Proofs.Qxb6628303a
open Go.RowKit

/-- The call returned some bool. -/
def IsBool (e : Ending) : Prop := ∃ b, e = .returned (.bool b)
theorem IsBool.mk {e : Ending} (b : Bool) (h : e = .returned (.bool b)) : IsBool e := ⟨b, h⟩

set_option maxHeartbeats 400000 in
theorem bytes1_any (a0 a1 : Option Addr) (l0 c0 l1 c1 : Nat) (w : World) : Calls Try.prog 5 #[.slice a0 l0 c0, .slice a1 l1 c1] w fun e w' => IsBool e ∧ w' = w := by
  go_enter Try.func5, Try.ntmps5
  go_wp2
  all_goals
    go_ret
    exact ⟨IsBool.mk _ rfl, rfl⟩

set_option maxHeartbeats 400000 in
theorem bytes2_any (a0 a1 a2 : Option Addr) (l0 c0 l1 c1 l2 c2 : Nat) (w : World) : Calls Try.prog 11 #[.slice a0 l0 c0, .slice a1 l1 c1, .slice a2 l2 c2] w fun e w' => IsBool e ∧ w' = w := by
  go_enter Try.func11, Try.ntmps11
  go_wp2
  all_goals
    go_ret
    exact ⟨IsBool.mk _ rfl, rfl⟩
end Go.Proofs.Qxb6628303a
