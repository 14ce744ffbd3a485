import Derived.Test.Qxb6628296aRows
import Derived.WalkKit
import Derived.WalkSpells
import Derived.WalkLawsBesides
import Derived.Deep.QuietTactic
import Derived.BigQuiet
namespace Go.Proofs.Qxb6628296a
open Go.RowKit

def offName : ByteArray := ⟨#[82, 101, 100, 117, 110, 100, 97, 110, 99, 121, 82, 117, 108, 101, 46, 79, 102, 102, 115, 101, 116]⟩
def offWant : ByteArray := ⟨#[97, 116, 32, 108, 101, 97, 115, 116, 32, 48]⟩
def stepName : ByteArray := ⟨#[82, 101, 100, 117, 110, 100, 97, 110, 99, 121, 82, 117, 108, 101, 46, 83, 116, 101, 112]⟩
def stepWant : ByteArray := ⟨#[97, 116, 32, 108, 101, 97, 115, 116, 32, 49]⟩

/-- The error that Validate hands back: a pointer to a ParameterError in new memory. -/
def Refused (nm : ByteArray) (n : Int) (want : ByteArray) (w : World) (e : Ending) (w' : World) : Prop :=
  ∃ b, e = .returned (.iface 30 (.pointer (some ⟨b, 0, none⟩))) ∧ w'.cell? ⟨b, 0, none⟩ = some (.string nm) ∧ w'.cell? ⟨b, 1, none⟩ = some (.iface 3 (.int .i64 n)) ∧ w'.cell? ⟨b, 2, none⟩ = some (.string want) ∧ Below w.heap.size w w'

set_option maxHeartbeats 400000 in
theorem validate_off (o s : Int) (w : World) (h : o < 0) : Calls Try.prog 5 #[.agg #[.int .i64 o, .int .i64 s]] w fun e w' => Refused offName o offWant w e w' := by
  go_enter Try.func5, Try.ntmps5
  go_wp2
  go_ret
  exact ⟨_, rfl, by simp [offName], by simp, by simp [offWant], ((Below.refl _ _).alloc (Nat.le_refl _) _).alloc (by simp) _⟩
set_option maxHeartbeats 400000 in
theorem validate_step (o s : Int) (w : World) (h : 0 ≤ o) (h1 : s < 1) : Calls Try.prog 5 #[.agg #[.int .i64 o, .int .i64 s]] w fun e w' => Refused stepName s stepWant w e w' := by
  go_enter Try.func5, Try.ntmps5
  go_wp2
  go_ret
  exact ⟨_, rfl, by simp [stepName], by simp, by simp [stepWant], ((Below.refl _ _).alloc (Nat.le_refl _) _).alloc (by simp) _⟩
set_option maxHeartbeats 400000 in
theorem validate_ok (o s : Int) (w : World) (h : 0 ≤ o) (h1 : 1 ≤ s) : Calls Try.prog 5 #[.agg #[.int .i64 o, .int .i64 s]] w fun e w' => e = .returned .nilIface ∧ Below w.heap.size w w' := by
  go_enter Try.func5, Try.ntmps5
  go_wp2
  go_ret
  exact ⟨rfl, (Below.refl _ _).alloc (Nat.le_refl _) _⟩
end Go.Proofs.Qxb6628296a
