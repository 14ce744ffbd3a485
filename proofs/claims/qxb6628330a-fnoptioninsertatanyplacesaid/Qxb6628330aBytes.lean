import Derived.Test.Qxb6628330aToOpts
namespace Go.Proofs.Qxb6628330a
open Go.RowKit

set_option maxRecDepth 100000 in
set_option maxHeartbeats 2000000 in
theorem bytes1_any (a : Option Addr) (cap : Nat) (L : List Ot) (i ty u d c : ByteArray) (n k0 : Int) (id : ByteArray) (w : World) (hL : OtsAt w a L) :
    Calls Try.prog 5 #[.slice a L.length cap, .agg #[.string i, .string ty, .string u, .string d, .string c, .int .i64 n], .int .i64 k0, .string id] w fun e w' => IsBool e ∧ Below w.heap.size w w' := by
  have hb0 : Below w.heap.size w (w.alloc (.cells #[.string i, .string ty, .string u, .string d, .string c, .int .i64 n] 24)) := (Below.refl _ _).alloc (Nat.le_refl _) _
  have hL' := hL.keep hb0
  clear hL
  by_cases hn : 1048576 < L.length
  · go_enter Try.func5, Try.ntmps5
    go_wp2
    go_ret
    exact ⟨IsBool.mk _ rfl, hb0⟩
  have hn' : L.length ≤ 1048576 := by omega
  clear hn
  go_enter Try.func5, Try.ntmps5
  go_wp2
  go_loop [9, 10] (fun z j => ∃ (k : Nat) (x : Int), k ≤ L.length ∧ j = .int .i64 k ∧ z = .int .i64 x ∧ 0 ≤ x ∧ x ≤ 1048576) (fun _ j => L.length - (intOf j).toNat)
  case atStart => exact ⟨0, _, Nat.zero_le _, rfl, rfl, by omega, by omega⟩
  case round =>
    obtain ⟨k, x, hk, rfl, rfl, hx0, hx1⟩ := hrel
    by_cases hlt : k < L.length
    · obtain ⟨b, o, rfl, h0, h1, h2, h3, h4, h5⟩ := hL' k L[k] (by simp [hlt])
      clear hL'
      generalize L[k] = r at *
      obtain ⟨ri, rt, ru, rd, rc, rn⟩ := r
      simp only at h0 h1 h2 h3 h4 h5
      have hlt' : (k : Int) < (L.length : Int) := by omega
      go_wp2
      all_goals first
        | (go_round
           case rel => exact ⟨k + 1, _, by omega, by go_num, rfl, by omega, by omega⟩
           case measure => simp [intOf]; omega)
        | (go_ret; exact ⟨IsBool.mk _ rfl, hb0⟩)
    · clear hL'
      go_wp2
      all_goals
        go_ret
        exact ⟨IsBool.mk _ rfl, hb0⟩
end Go.Proofs.Qxb6628330a
