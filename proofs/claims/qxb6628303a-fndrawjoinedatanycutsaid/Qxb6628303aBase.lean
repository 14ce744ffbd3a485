import Derived.Test.Qxb6628303aRows
import Derived.WalkKit
import Derived.WalkSpells
import Derived.WalkLawsBesides
import Derived.WalkSmall
import Derived.Deep.OwnRows
import Derived.Deep.RegionHeld3
import Derived.Deep.QuietTactic
import Derived.BigQuiet
namespace Go.Proofs.Qxb6628303a
open Go.RowKit

/-- The numbers zs lie behind the address, in blocks below B. -/
def IntsIn (B : Nat) (k : IntKind) (w : World) (a : Option Addr) (zs : List Int) : Prop :=
  ∀ i, i < zs.length → ∃ b o, a = some ⟨b, o, none⟩ ∧ b < B ∧ w.cell? ⟨b, o + i, none⟩ = some (.int k (zs.getD i 0))
theorem IntsIn.keep {B : Nat} {k : IntKind} {w w' : World} {a : Option Addr} {zs : List Int} (h : IntsIn B k w a zs) (hb : Below B w w') : IntsIn B k w' a zs := by
  intro i hi
  obtain ⟨b, o, e, hlt, hc⟩ := h i hi
  exact ⟨b, o, e, hlt, (hb.cell hlt).trans hc⟩
theorem IntsIn.mono {B B' : Nat} {k : IntKind} {w : World} {a : Option Addr} {zs : List Int} (h : IntsIn B k w a zs) (hb : B ≤ B') : IntsIn B' k w a zs := by
  intro i hi
  obtain ⟨b, o, e, hlt, hc⟩ := h i hi
  exact ⟨b, o, e, by omega, hc⟩
theorem IntsIn.nil (B : Nat) (k : IntKind) (w : World) (a : Option Addr) : IntsIn B k w a [] := fun i hi => by simp at hi

def IsByte (z : Int) : Prop := 0 ≤ z ∧ z ≤ 255

theorem Try.info5 : (Try.prog.info? 5).map (fun i => (i.zero, i.size, i.bytes)) = some (some (.int .u8 0), 1, 1) := by kernel_rfl

/-- The remainder by repeated subtraction. -/
theorem emod_step {x n c : Int} (h : x % n = c % n) : (x - n) % n = c % n := by
  rw [← h, Int.sub_emod_right]
set_option maxHeartbeats 400000 in
theorem reduce_any (c n : Int) (hc : 0 ≤ c) (hc1 : c ≤ 255) (hn : 1 ≤ n) (w : World) :
    Calls Try.prog 9 #[.int .u8 c, .int .i64 n] w fun e w' => e = .returned (.int .i64 (c % n)) ∧ w' = w := by
  go_enter Try.func9, Try.ntmps9
  go_wp2
  go_loop [5] (fun v => ∃ x : Int, 0 ≤ x ∧ x ≤ c ∧ v = .int .i64 x ∧ x % n = c % n) (fun v => (intOf v).toNat)
  case atStart => exact ⟨c, hc, Int.le_refl _, rfl, rfl⟩
  case round =>
    obtain ⟨x, hx0, hx1, rfl, he⟩ := hrel
    have HE : Hid (x % n = c % n) := he
    clear he
    by_cases hlt : n ≤ x
    · go_wp2
      go_round
      case rel => exact ⟨x - n, by omega, by omega, rfl, emod_step HE.out⟩
      case measure => simp [intOf]; omega
    · go_wp2
      go_ret
      exact ⟨by rw [← HE.out, Int.emod_eq_of_lt hx0 (by omega)]; rfl, rfl⟩
end Go.Proofs.Qxb6628303a
