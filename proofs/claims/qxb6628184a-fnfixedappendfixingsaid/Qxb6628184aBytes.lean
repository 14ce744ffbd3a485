import Derived.Test.Qxb6628184aFixed
import Derived.WalkSmall
namespace Go.Proofs.Qxb6628184a
open Go.RowKit

def Upto (L : List Rq) (k : Nat) : Prop := ∀ j r, j < k → L[j]? = some r → r.vl ≤ 1048576
def BytesOk (L : List Rq) (s : Nat) (e : Ending) : Prop := ∃ b, e = .returned (.bool b) ∧ (b = true → L.length ≤ 1048576 ∧ (∀ r ∈ L, r.vl ≤ 1048576) ∧ s ≤ 1048576)
theorem BytesOk.no {L : List Rq} {s : Nat} {e : Ending} (h : e = .returned (.bool false)) : BytesOk L s e := ⟨false, h, by simp⟩
theorem BytesOk.yes {L : List Rq} {s : Nat} {e : Ending} {k : Nat} (h : e = .returned (.bool true)) (h1 : L.length ≤ 1048576) (h2 : Upto L k) (hk : L.length ≤ k) (hs : s ≤ 1048576) : BytesOk L s e :=
  ⟨true, h, fun _ => ⟨h1, fun r hr => by
    obtain ⟨j, hj, rfl⟩ := List.getElem_of_mem hr
    exact h2 j _ (by omega) (by simp [hj]), hs⟩⟩
theorem Upto.zero (L : List Rq) : Upto L 0 := fun _ _ h => by omega
theorem Upto.succ {L : List Rq} {k : Nat} {r : Rq} (h : Upto L k) (hr : L[k]? = some r) (hv : r.vl ≤ 1048576) : Upto L (k + 1) := fun j x hj hx => by
  by_cases e : j = k
  · subst e; rw [hr] at hx; cases hx; exact hv
  · exact h j x (by omega) hx

set_option maxRecDepth 100000 in
set_option maxHeartbeats 1000000 in
theorem bytes_any (a : Option Addr) (cap : Nat) (L : List Rq) (key v other : ByteArray) (w : World) (hL : ReqsAt w a L) :
    Calls Try.prog 4 #[.slice a L.length cap, .string key, .string v, .string other] w fun e w' => BytesOk L (key.size + v.size + other.size) e ∧ w' = w := by
  by_cases hn : 1048576 < L.length
  · go_enter Try.func4, Try.ntmps4
    go_wp2
    go_ret
    exact ⟨BytesOk.no rfl, rfl⟩
  have hn' : L.length ≤ 1048576 := by omega
  clear hn
  go_enter Try.func4, Try.ntmps4
  go_wp2
  go_loop [9, 10, 11] (fun z i _ => ∃ (k : Nat) (x : Int), k ≤ L.length ∧ i = .int .i64 k ∧ z = .int .i64 x ∧ 0 ≤ x ∧ x ≤ 1048576 ∧ Upto L k) (fun _ i _ => L.length - (intOf i).toNat)
  case atStart => exact ⟨0, _, Nat.zero_le _, rfl, rfl, by omega, by omega, Upto.zero L⟩
  case round =>
    obtain ⟨k, x, hk, rfl, rfl, hx0, hx1, hup⟩ := hrel
    by_cases hlt : k < L.length
    · have HR : Hid (L[k]? = some L[k]) := by simp [Hid]
      obtain ⟨b, o, rfl, hrq, hsl, hss⟩ := hL k L[k] (by simp [hlt])
      clear hL
      generalize L[k] = r at *
      obtain ⟨rk, va, vl, vc, neg, rord, bnd, ss⟩ := r
      obtain ⟨h0, h1, h2, h3, h4⟩ := hrq
      simp only at h0 h1 h2 h3 h4 hsl hss
      have hlt' : (k : Int) < (L.length : Int) := by omega
      go_wp2
      iterate 4 (rotate_left)
      · go_loop [9, 11] (fun z j => ∃ (m : Nat) (y : Int), m ≤ vl ∧ j = .int .i64 m ∧ z = .int .i64 y ∧ 0 ≤ y ∧ y ≤ 1048576) (fun _ j => vl - (intOf j).toNat)
        case atStart => exact ⟨0, _, Nat.zero_le _, rfl, rfl, by omega, by omega⟩
        case round =>
          obtain ⟨m, y, hm, rfl, rfl, hy0, hy1⟩ := hrel
          have hvl : (vl : Int) ≤ 1048576 := by assumption
          by_cases hmt : m < vl
          · obtain ⟨b2, o2, rfl, hc2⟩ := hss m (by omega)
            generalize ss.getD m ByteArray.empty = x2 at hc2
            have hmt' : (m : Int) < (vl : Int) := by omega
            go_wp2
            · go_ret
              exact ⟨BytesOk.no rfl, rfl⟩
            · go_ret
              exact ⟨BytesOk.no rfl, rfl⟩
            · go_round
              case rel => exact ⟨m + 1, _, by omega, by go_num, rfl, by omega, by omega⟩
              case measure => simp [intOf]; omega
          · go_wp2
            go_round
            case rel => exact ⟨k + 1, _, by omega, by go_num, rfl, by omega, by omega, hup.succ HR.out (by show vl ≤ 1048576; omega)⟩
            case measure => simp [intOf]; omega
      all_goals
        go_ret
        exact ⟨BytesOk.no rfl, rfl⟩
    · go_wp2
      all_goals
        go_ret
        first
          | exact ⟨BytesOk.no rfl, rfl⟩
          | exact ⟨BytesOk.yes rfl hn' hup (by omega) (by omega), rfl⟩
end Go.Proofs.Qxb6628184a
