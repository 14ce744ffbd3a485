import Derived.Test.Qxb6628330aBase
namespace Go.Proofs.Qxb6628330a
open Go.RowKit

/-- The call returned some int; some bool. -/
def IsInt (e : Ending) : Prop := ∃ n, e = .returned (.int .i64 n)
theorem IsInt.mk {e : Ending} (n : Int) (h : e = .returned (.int .i64 n)) : IsInt e := ⟨n, h⟩
def IsBool (e : Ending) : Prop := ∃ b, e = .returned (.bool b)
theorem IsBool.mk {e : Ending} (b : Bool) (h : e = .returned (.bool b)) : IsBool e := ⟨b, h⟩

set_option maxHeartbeats 400000 in
theorem addLen_any (t n : Int) (w : World) : Calls Try.prog 6 #[.int .i64 t, .int .i64 n] w fun e w' => IsInt e ∧ w' = w := by
  go_enter Try.func6, Try.ntmps6
  go_wp2
  all_goals
    go_ret
    exact ⟨IsInt.mk _ rfl, rfl⟩

set_option maxHeartbeats 400000 in
theorem optBytes_any (t : Int) (i ty u d c : ByteArray) (n : Int) (w : World) :
    Calls Try.prog 7 #[.int .i64 t, .agg #[.string i, .string ty, .string u, .string d, .string c, .int .i64 n]] w fun e w' => IsInt e ∧ Below w.heap.size w w' := by
  go_enter Try.func7, Try.ntmps7
  go_wp2_with (go_at_call 6; refine (addLen_any _ _ _).mono ?_; rintro e w' ⟨⟨m, rfl⟩, rfl⟩)
  all_goals
    go_ret
    exact ⟨IsInt.mk _ rfl, (Below.refl _ _).alloc (Nat.le_refl _) _⟩

set_option maxHeartbeats 400000 in
theorem optsBytes_any (t : Int) (a : Option Addr) (cap : Nat) (L : List Ot) (w : World) (hL : OtsAt w a L) (hn : L.length ≤ 65536) :
    Calls Try.prog 8 #[.int .i64 t, .slice a L.length cap] w fun e w' => IsInt e ∧ Below w.heap.size w w' := by
  go_enter Try.func8, Try.ntmps8
  go_wp2
  go_loopw [0, 5] (fun t i wr => ∃ (k : Nat) (x : Int), k ≤ L.length ∧ i = .int .i64 k ∧ t = .int .i64 x ∧ Below w.heap.size w wr) (fun _ i _ => L.length - (intOf i).toNat)
  case atStart => exact ⟨0, t, Nat.zero_le _, rfl, rfl, Below.refl _ _⟩
  case round =>
    obtain ⟨k, x, hk, rfl, rfl, hnx⟩ := hrel
    by_cases hlt : k < L.length
    · obtain ⟨b, o, rfl, hrq⟩ := hL k L[k] (by simp [hlt])
      obtain ⟨h0, h1, h2, h3, h4, h5⟩ := hrq.keep hnx
      clear hL hrq
      generalize L[k] = r at *
      obtain ⟨i, ty, u, d, c, n⟩ := r
      simp only at h0 h1 h2 h3 h4 h5
      have hlt' : (k : Int) < (L.length : Int) := by omega
      go_wp2_with fail
      refine (optBytes_any _ _ _ _ _ _ _ _).mono ?_
      rintro e w1 ⟨⟨m, rfl⟩, hb⟩
      have hb1 : Below w.heap.size w w1 := hnx.trans (hb.mono hnx.size)
      clear hb h0 h1 h2 h3 h4 h5
      go_wp2
      · go_ret
        exact ⟨IsInt.mk _ rfl, hb1⟩
      · go_roundw
        case rel => exact ⟨k + 1, _, by omega, by go_num, rfl, hb1⟩
        case measure => simp [intOf]; omega
    · go_wp2
      go_ret
      exact ⟨IsInt.mk _ rfl, hnx⟩

def isF (id : ByteArray) (r : Ot) : Bool := r.id.toList == id.toList
def hasF (id : ByteArray) (L : List Ot) : Bool := L.any (isF id)
theorem hasF_succ {id : ByteArray} {L : List Ot} {k : Nat} (h : k < L.length) : hasF id (L.take (k + 1)) = (hasF id (L.take k) || isF id L[k]) := by
  unfold hasF
  rw [List.take_succ_eq_append_getElem h, List.any_append]
  simp
theorem hasF_mono {id : ByteArray} {L : List Ot} {k m : Nat} (hk : k ≤ m) (h : hasF id (L.take k) = true) : hasF id (L.take m) = true := by
  unfold hasF at *
  rw [List.any_eq_true] at *
  obtain ⟨x, hx, hy⟩ := h
  refine ⟨x, ?_, hy⟩
  rw [show L.take k = (L.take m).take k by rw [List.take_take]; congr 1; omega] at hx
  exact List.mem_of_mem_take hx

set_option maxHeartbeats 400000 in
theorem hasID_any (a : Option Addr) (cap hi : Nat) (L : List Ot) (id : ByteArray) (w : World) (v : Bool) (hL : OtsAt w a L) (hn : L.length ≤ 65536) (hh : hi ≤ L.length) (hv : hasF id (L.take hi) = v) :
    Calls Try.prog 12 #[.slice a L.length cap, .int .i64 0, .int .i64 hi, .string id] w fun e w' => e = .returned (.bool v) ∧ w' = w := by
  have HV : Hid (hasF id (L.take hi) = v) := hv
  clear hv
  go_enter Try.func12, Try.ntmps12
  go_wp2
  go_loop [9] (fun i => ∃ k : Nat, k ≤ hi ∧ i = .int .i64 k ∧ hasF id (L.take k) = false) (fun i => hi - (intOf i).toNat)
  case atStart => exact ⟨0, Nat.zero_le _, rfl, rfl⟩
  case round =>
    obtain ⟨k, hk, rfl, hf⟩ := hrel
    have HF : Hid (hasF id (L.take k) = false) := hf
    clear hf
    by_cases hlt : k < hi
    · obtain ⟨b, o, rfl, hrq⟩ := hL k L[k] (by simp)
      have HS : Hid (hasF id (L.take (k + 1)) = (hasF id (L.take k) || isF id L[k])) := hasF_succ (by omega)
      obtain ⟨h0, -, -, -, -, -⟩ := hrq
      clear hL
      generalize L[k] = r at *
      obtain ⟨i, ty, u, d, c, n⟩ := r
      simp only at h0
      have hlt' : (k : Int) < (L.length : Int) := by omega
      have hlt2 : (k : Int) < (hi : Int) := by omega
      rcases hi0 : (i.toList == id.toList) with _ | _
      · have HR : Hid (hasF id (L.take (k + 1)) = false) := by rw [Hid, HS.out, HF.out]; exact hi0
        go_wp2
        go_round
        case rel => exact ⟨k + 1, by omega, by go_num, HR.out⟩
        case measure => simp [intOf]; omega
      · have HR : Hid (v = true) := by rw [Hid, ← HV.out]; exact hasF_mono (k := k + 1) (by omega) (by rw [HS.out, HF.out]; exact hi0)
        go_wp2
        go_ret
        exact ⟨by rw [HR.out]; rfl, rfl⟩
    · have HR : Hid (v = false) := by rw [Hid, ← HV.out, show hi = k by omega]; exact HF.out
      go_wp2
      go_ret
      exact ⟨by rw [HR.out]; rfl, rfl⟩
end Go.Proofs.Qxb6628330a
