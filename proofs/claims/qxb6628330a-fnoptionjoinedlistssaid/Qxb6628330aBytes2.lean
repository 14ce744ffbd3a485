import Derived.Test.Qxb6628330aToOpts
namespace Go.Proofs.Qxb6628330a
open Go.RowKit

set_option maxRecDepth 100000 in
set_option maxHeartbeats 4000000 in
theorem bytes2_any (a b : Option Addr) (cap cbp : Nat) (L M : List Ot) (id : ByteArray) (w : World) (hL : OtsAt w a L) (hM : OtsAt w b M) :
    Calls Try.prog 13 #[.slice a L.length cap, .slice b M.length cbp, .string id] w fun e w' => IsBool e ∧ w' = w := by
  by_cases hn : 1048576 < L.length
  · go_enter Try.func13, Try.ntmps13
    go_wp2
    go_ret
    exact ⟨IsBool.mk _ rfl, rfl⟩
  have hn' : L.length ≤ 1048576 := by omega
  clear hn
  go_enter Try.func13, Try.ntmps13
  go_wp2
  go_loop [7, 8] (fun z j => ∃ (k : Nat) (x : Int), k ≤ L.length ∧ j = .int .i64 k ∧ z = .int .i64 x ∧ 0 ≤ x ∧ x ≤ 1048576) (fun _ j => L.length - (intOf j).toNat)
  case atStart => exact ⟨0, _, Nat.zero_le _, rfl, rfl, by omega, by omega⟩
  case round =>
    obtain ⟨k, x, hk, rfl, rfl, hx0, hx1⟩ := hrel
    by_cases hlt : k < L.length
    · obtain ⟨b', o, rfl, h0, h1, h2, h3, h4, h5⟩ := hL k L[k] (by simp [hlt])
      clear hL hM
      generalize L[k] = r at *
      obtain ⟨ri, rt, ru, rd, rc, rn⟩ := r
      simp only at h0 h1 h2 h3 h4 h5
      have hlt' : (k : Int) < (L.length : Int) := by omega
      go_wp2
      all_goals first
        | (go_round
           case rel => exact ⟨k + 1, _, by omega, by go_num, rfl, by omega, by omega⟩
           case measure => simp [intOf]; omega)
        | (go_ret; exact ⟨IsBool.mk _ rfl, rfl⟩)
    · clear hL
      by_cases hmm : 1048576 < M.length
      · go_wp2
        go_ret
        exact ⟨IsBool.mk _ rfl, rfl⟩
      have hmm' : M.length ≤ 1048576 := by omega
      clear hmm
      by_cases hxm : 1048576 < x + M.length
      · go_wp2
        go_ret
        exact ⟨IsBool.mk _ rfl, rfl⟩
      go_wp2
      go_loop [7, 9] (fun z j => ∃ (k : Nat) (x : Int), k ≤ M.length ∧ j = .int .i64 k ∧ z = .int .i64 x ∧ 0 ≤ x ∧ x ≤ 1048576) (fun _ j => M.length - (intOf j).toNat)
      case atStart => exact ⟨0, _, Nat.zero_le _, rfl, rfl, by omega, by omega⟩
      case round =>
        obtain ⟨q, y, hq, rfl, rfl, hy0, hy1⟩ := hrel
        by_cases hqt : q < M.length
        · obtain ⟨b', o, rfl, h0, h1, h2, h3, h4, h5⟩ := hM q M[q] (by simp [hqt])
          clear hM
          generalize M[q] = r at *
          obtain ⟨ri, rt, ru, rd, rc, rn⟩ := r
          simp only at h0 h1 h2 h3 h4 h5
          have hqt' : (q : Int) < (M.length : Int) := by omega
          go_wp2
          all_goals first
            | (go_round
               case rel => exact ⟨q + 1, _, by omega, by go_num, rfl, by omega, by omega⟩
               case measure => simp [intOf]; omega)
            | (go_ret; exact ⟨IsBool.mk _ rfl, rfl⟩)
        · clear hM
          go_wp2
          all_goals
            go_ret
            exact ⟨IsBool.mk _ rfl, rfl⟩
end Go.Proofs.Qxb6628330a
