import Derived.Test.Qxb6628184aFixed
import Derived.Deep.OwnRows
namespace Go.Proofs.Qxb6628184a
open Go.RowKit

theorem Try.info9 : (Try.prog.info? 9).map (fun i => (i.zero, i.size, i.bytes)) = some (some (.string ByteArray.empty), 1, 16) := by kernel_rfl

theorem rowStep {w : World} {b vl k : Nat} {ss : List ByteArray} {x : ByteArray} (hx : ss.getD k ByteArray.empty = x)
    (h : w.rowIs b 9 vl (fun j => if j = k then .string x else if j < k then .string (ss.getD j ByteArray.empty) else .string ByteArray.empty)) :
    w.rowIs b 9 vl (fun j => if j < k + 1 then .string (ss.getD j ByteArray.empty) else .string ByteArray.empty) := by
  refine h.congr fun j hj => ?_
  by_cases e : j = k
  · subst e; simp [← hx]
  · by_cases l : j < k
    · simp only [e, l, if_false, if_true, show j < k + 1 by omega]
    · simp only [e, l, if_false, show ¬ j < k + 1 by omega]
theorem rowDone {w : World} {b vl k : Nat} {ss : List ByteArray} (hl : ss.length = vl) (hk : vl ≤ k)
    (h : w.rowIs b 9 vl (fun j => if j < k then .string (ss.getD j ByteArray.empty) else .string ByteArray.empty)) : HasStrs w (some ⟨b, 0, none⟩) ss := by
  intro j hj
  refine ⟨b, 0, rfl, ?_⟩
  have := h.cell (i := j) (by omega)
  rw [Nat.zero_add, this, if_pos (by omega)]

def Cloned (ss : List ByteArray) (vl : Nat) (w : World) (e : Ending) (w' : World) : Prop :=
  ∃ va' vc', e = .returned (.slice va' vl vc') ∧ HasStrs w' va' ss ∧ (∀ x, va' = some x → w.heap.size ≤ x.block) ∧ Below w.heap.size w w'

set_option maxHeartbeats 400000 in
theorem cloneStrings_any (va : Option Addr) (vl vc : Nat) (ss : List ByteArray) (w : World) (hs : HasStrs w va ss) (hl : ss.length = vl) (hnil : va = none → vl = 0 ∧ vc = 0) (hm : vl ≤ 1048576) :
    Calls Try.prog 11 #[.slice va vl vc] w fun e w' => Cloned ss vl w e w' := by
  have hmk := run_make_row' (P := Try.prog) 33 9 (.string ByteArray.empty) 16 Try.underlying33 Try.info9 rfl .i64 .i64 vl (by omega) (by omega)
  have q33 : ∀ (w : World) (a : Option Addr) (n c : Nat), (binOp .eql 33 (.slice a n c) (.slice none 0 0)).run Try.prog w = .ok (.bool a.isNone) w := fun w a n c => Lib.run_eql_slice_nil w _ _ a n c 0 0 Try.underlying33
  cases va with
  | none =>
    obtain ⟨rfl, rfl⟩ := hnil rfl
    go_enter Try.func11, Try.ntmps11
    go_wp2
    go_ret
    exact ⟨none, 0, rfl, hs, fun _ h => (by cases h), Below.refl _ _⟩
  | some a =>
    go_enter Try.func11, Try.ntmps11
    go_wp2
    go_loopw [4] (fun i wr => ∃ k : Nat, k ≤ vl ∧ i = .int .i64 k ∧ wr.rowIs w.heap.size 9 vl (fun j => if j < k then .string (ss.getD j ByteArray.empty) else .string ByteArray.empty) ∧ Below w.heap.size w wr) (fun i _ => vl - (intOf i).toNat)
    case atStart => exact ⟨0, Nat.zero_le _, rfl, (World.rowIs_made _ _ _ _).congr (by simp), (Below.refl _ _).alloc (Nat.le_refl _) _⟩
    case round =>
      obtain ⟨k, hk, rfl, hrow, hnx⟩ := hrel
      by_cases hlt : k < vl
      · obtain ⟨b, o, e, hc⟩ := hs k (by omega)
        obtain rfl := Option.some.inj e
        have hc' := cell_later hnx hc
        have hst := hrow.cell hlt
        have hfr := hrow.frozen k
        have hrow' := hrow.set k (.string (ss.getD k ByteArray.empty))
        clear hrow hc hs hmk
        generalize hx : ss.getD k ByteArray.empty = x at hc' hrow'
        have HX : Hid (ss.getD k ByteArray.empty = x) := hx
        clear hx
        have hlt' : (k : Int) < (vl : Int) := by omega
        go_wp2
        go_roundw
        case rel => exact ⟨k + 1, by omega, by go_num, rowStep HX.out hrow', hnx.setCell (Nat.le_refl _) _⟩
        case measure => simp [intOf]; omega
      · go_wp2
        go_ret
        exact ⟨some ⟨w.heap.size, 0, none⟩, vl, rfl, rowDone hl (by omega) hrow, fun _ h => (by cases h; exact Nat.le_refl _), hnx⟩
end Go.Proofs.Qxb6628184a
