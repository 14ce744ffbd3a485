import Derived.Test.Qxb6628184aFixed
import Derived.WalkSmall
namespace Go.Proofs.Qxb6628184a
open Go.RowKit

set_option maxHeartbeats 400000 in
theorem ordersPlain_any (a : Option Addr) (cap : Nat) (L : List Rq) (w : World) (hL : ReqsAt w a L) (hn : L.length ≤ 1048576) :
    Calls Try.prog 6 #[.slice a L.length cap] w fun e w' => IsBool e ∧ Below w.heap.size w w' := by
  have q33 := fun (w : World) (a : Option Addr) (n c : Nat) => run_neq_slice_nil (P := Try.prog) (w := w) 33 9 a n c Try.underlying33
  go_enter Try.func6, Try.ntmps6
  go_wp2
  go_loop [3] (fun i => ∃ k : Nat, k ≤ L.length ∧ i = .int .i64 k) (fun i => L.length - (intOf i).toNat)
  case atStart => exact ⟨0, Nat.zero_le _, rfl⟩
  case round =>
    obtain ⟨k, hk, rfl⟩ := hrel
    by_cases hlt : k < L.length
    · obtain ⟨b, o, rfl, hrq, hsl, hss⟩ := hL k L[k] (by simp [hlt])
      obtain ⟨h0, h1, h2, h3, h4⟩ := hrq
      clear hss hL
      generalize L[k] = r at *
      obtain ⟨rk, va, vl, vc, neg, rord, bnd, ss⟩ := r
      simp only at h0 h1 h2 h3 h4 hsl
      have hlt' : (k : Int) < (L.length : Int) := by omega
      go_wp2
      all_goals first
        | (go_round
           case rel => exact ⟨k + 1, by omega, by go_num⟩
           case measure => simp [intOf]; omega)
        | (go_ret; exact ⟨IsBool.mk _ rfl, Below.refl _ _⟩)
    · go_wp2
      go_ret
      exact ⟨IsBool.mk _ rfl, Below.refl _ _⟩

set_option maxHeartbeats 400000 in
theorem reqsTooBig_any (a : Option Addr) (cap : Nat) (L : List Rq) (bud : Int) (w : World) (hL : ReqsAt w a L) (hn : L.length ≤ 1048576) (hv : ∀ r ∈ L, r.vl ≤ 1048576) :
    Calls Try.prog 5 #[.slice a L.length cap, .int .i64 bud] w fun e w' => IsBool e ∧ Below w.heap.size w w' := by
  go_enter Try.func5, Try.ntmps5
  go_wp2
  go_loopw [5, 6, 7] (fun t i _ wr => ∃ (k : Nat) (x : Int), k ≤ L.length ∧ i = .int .i64 k ∧ t = .int .i64 x ∧ Below w.heap.size w wr) (fun _ i _ _ => L.length - (intOf i).toNat)
  case atStart => exact ⟨0, 0, Nat.zero_le _, rfl, rfl, Below.refl _ _⟩
  case round =>
    obtain ⟨k, x, hk, rfl, rfl, hnx⟩ := hrel
    by_cases hlt : k < L.length
    · have hvl := hv L[k] (by simp)
      obtain ⟨b, o, rfl, hrq, hsl, hss⟩ := hL k L[k] (by simp [hlt])
      obtain ⟨h0, h1, h2, h3, h4⟩ := hrq.keep hnx
      clear hL
      generalize L[k] = r at *
      obtain ⟨rk, va, vl, vc, neg, rord, bnd, ss⟩ := r
      simp only at h0 h1 h2 h3 h4 hsl hvl hss
      have hlt' : (k : Int) < (L.length : Int) := by omega
      go_wp2
      go_quiet (fail)
      go_wp2
      · go_ret
        exact ⟨IsBool.mk _ rfl, below_drewN hnx _⟩
      · obtain ⟨wo, rfl⟩ : ∃ wo : World, wo = wr := ⟨_, rfl⟩
        have hnq := below_drewN hnx nq
        clear h0 h1 h2 h3 h4
        go_loopw [5, 7] (fun t j wi => ∃ (m : Nat) (y : Int), m ≤ vl ∧ j = .int .i64 m ∧ t = .int .i64 y ∧ Below w.heap.size w wi) (fun _ j _ => vl - (intOf j).toNat)
        case atStart => exact ⟨0, _, Nat.zero_le _, rfl, rfl, hnq⟩
        case round =>
          obtain ⟨m, y, hm, rfl, rfl, hny⟩ := hrel
          obtain ⟨h0, h1, h2, h3, h4⟩ := hrq.keep hny
          simp only at h1
          by_cases hmt : m < vl
          · obtain ⟨b2, o2, rfl, hc2⟩ := hss.keep hny m (by omega)
            generalize ss.getD m ByteArray.empty = x2 at hc2
            have hmt' : (m : Int) < (vl : Int) := by omega
            go_wp2
            all_goals first
              | (go_roundw
                 case rel => exact ⟨m + 1, _, by omega, by go_num, rfl, hny⟩
                 case measure => simp [intOf]; omega)
              | (go_ret; exact ⟨IsBool.mk _ rfl, hny⟩)
          · go_wp2
            go_roundw
            case rel => exact ⟨k + 1, _, by omega, by go_num, rfl, hny⟩
            case measure => simp [intOf]; omega
    · go_wp2
      go_ret
      exact ⟨IsBool.mk _ rfl, hnx⟩
end Go.Proofs.Qxb6628184a
