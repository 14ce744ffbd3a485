import Derived.Test.Qxb6628184aFixed
import Derived.WalkSmall
namespace Go.Proofs.Qxb6628184a
open Go.RowKit

theorem Try.info38 : (Try.prog.info? 38).map (fun i => (i.zero, i.size, i.bytes)) = some (some (.agg #[.string ByteArray.empty, .slice none 0 0, .bool false, .int .i64 0, .int .i64 0]), 5, 64) := by kernel_rfl

/-- The five cells of a requirement. -/
def Rq.cells (r : Rq) : List Value := [.string r.key, .slice r.va r.vl r.vc, .bool r.neg, .int .i64 r.ord, .int .i64 r.bnd]

theorem cell_five_new (w : World) (a b c d e : Value) (t : TypeId) : ∀ j u, [a, b, c, d, e][j]? = some u → (w.alloc (.cells #[a, b, c, d, e] t)).cell? ((⟨w.heap.size, 0, none⟩ : Addr).add j) = some u := by
  intro j u hj
  match j, hj with
  | 0, hj => simp at hj; subst hj; simp [Addr.add]
  | 1, hj => simp at hj; subst hj; simp [Addr.add]
  | 2, hj => simp at hj; subst hj; simp [Addr.add]
  | 3, hj => simp at hj; subst hj; simp [Addr.add]
  | 4, hj => simp at hj; subst hj; simp [Addr.add]
  | j + 5, hj => simp at hj

theorem five_oneCell (k : ByteArray) (va : Option Addr) (vl vc : Nat) (neg : Bool) (o b : Int) : ∀ u ∈ [Value.string k, .slice va vl vc, .bool neg, .int .i64 o, .int .i64 b], u.oneCell' = true := by
  intro u hu
  simp at hu
  rcases hu with rfl | rfl | rfl | rfl | rfl <;> rfl

theorem grown_alloc {w w' : World} {o : Obj} {row : Option Nat} (h : (w.alloc o).grownBy w' row) : w.grownBy w' row :=
  ⟨h.os, h.tape, h.output, Nat.le_trans (by simp) h.size, fun k hk hr => (h.block k (by simp; omega) hr).trans (Below.heap_alloc _ _ _ hk)⟩

set_option maxHeartbeats 400000 in
theorem appendReq_any (base n : Nat) (v : Value) (xs : List Value) (k : ByteArray) (va : Option Addr) (vl vc : Nat) (neg : Bool) (o b : Int) (w : World)
    (hown : w.ownsRow base 38 5 v n xs) (hbase : base ≤ w.heap.size) (hn : n ≤ 1048576) :
    Calls Try.prog 10 #[v, .string k, .slice va vl vc, .bool neg, .int .i64 o, .int .i64 b] w fun e w' =>
      ∃ v', e = .returned v' ∧ w'.ownsRow base 38 5 v' (n + 1) (xs ++ [.string k, .slice va vl vc, .bool neg, .int .i64 o, .int .i64 b]) ∧ w.grownBy w' v.ownBlock := by
  obtain ⟨i0, hi, hz0, hz1, hz2⟩ := info_parts Try.info38
  go_enter Try.func10, Try.ntmps10
  go_wp2_with (at_builtin; refine wpList_append_own _ rfl (.tmp 13) (.tmp 20) 29 rfl base 38 i0 _ 5 64 Try.underlying29 hi hz0 hz1 hz2 rfl (by decide) v n xs rfl (hown.alloc _) ⟨w.heap.size, 0, none⟩ 1 1 [.string k, .slice va vl vc, .bool neg, .int .i64 o, .int .i64 b] rfl rfl (cell_five_new _ _ _ _ _ _ _) (five_oneCell _ _ _ _ _ _ _) (by unfold maxLen; omega) (by omega) (by simp; omega) ?_)
  intro v' w1 hown' hgrow _
  go_wp2
  go_ret
  exact ⟨_, rfl, hown', grown_alloc hgrow⟩

def cellsOf (L : List Rq) : List Value := L.flatMap Rq.cells
theorem cellsOf_succ {L : List Rq} {k : Nat} (h : k < L.length) : cellsOf (L.take (k + 1)) = cellsOf (L.take k) ++ L[k].cells := by
  unfold cellsOf
  rw [List.take_succ_eq_append_getElem h, List.flatMap_append]
  simp

theorem own_ge {w : World} {base n : Nat} {v : Value} {xs : List Value} (h : w.ownsRow base 38 5 v n xs) : ∀ k, v.ownBlock = some k → base ≤ k := fun k hk => (h.lt k hk).1

set_option maxHeartbeats 1000000 in
theorem appendReqs_any (a : Option Addr) (cap : Nat) (L : List Rq) (w : World) (hL : ReqsAt w a L) (hn : L.length ≤ 1048576) :
    Calls Try.prog 8 #[.slice none 0 0, .slice a L.length cap] w fun e w' => ∃ v', e = .returned v' ∧ w'.ownsRow w.heap.size 38 5 v' L.length (cellsOf L) ∧ Below w.heap.size w w' := by
  go_enter Try.func8, Try.ntmps8
  go_wp2
  go_loopw [0, 5] (fun v i wr => ∃ k : Nat, k ≤ L.length ∧ i = .int .i64 k ∧ wr.ownsRow w.heap.size 38 5 v k (cellsOf (L.take k)) ∧ Below w.heap.size w wr) (fun _ i _ => L.length - (intOf i).toNat)
  case atStart => exact ⟨0, Nat.zero_le _, rfl, World.ownsRow_nil _ _ _ _, Below.refl _ _⟩
  case round =>
    obtain ⟨k, hk, rfl, hown, hnx⟩ := hrel
    by_cases hlt : k < L.length
    · have HC : Hid (cellsOf (L.take (k + 1)) = cellsOf (L.take k) ++ L[k].cells) := cellsOf_succ hlt
      obtain ⟨b, o, rfl, hrq, hsl, hss⟩ := hL k L[k] (by simp [hlt])
      clear hL hss
      generalize L[k] = r at *
      obtain ⟨rk, va, vl, vc, neg, rord, bnd, ss⟩ := r
      generalize cellsOf (L.take k) = xs at *
      obtain ⟨h0, h1, h2, h3, h4⟩ := hrq.keep hnx
      simp only at h0 h1 h2 h3 h4
      have hlt' : (k : Int) < (L.length : Int) := by omega
      go_wp2
      go_region_held3 (fun w' => w'.cell? ⟨b, o + k * 5, none⟩ = some (.string rk) ∧ w'.cell? ⟨b, o + k * 5 + 1, none⟩ = some (.slice va vl vc) ∧ w'.cell? ⟨b, o + k * 5 + 2, none⟩ = some (.bool neg) ∧ w'.cell? ⟨b, o + k * 5 + 3, none⟩ = some (.int .i64 rord) ∧ w'.cell? ⟨b, o + k * 5 + 4, none⟩ = some (.int .i64 bnd)) (go_keep)
        ((go_at_call 10; refine (appendReq_any w.heap.size k _ xs _ _ _ _ _ _ _ _ ?_ ?_ ?_).mono ?_; exact hown; exact hnx.size; omega; rintro e w' ⟨v', rfl, hown', hg⟩; have hb' : Below w.heap.size w w' := hnx.drew.grown hg hnx.size (own_ge hown); obtain ⟨g0, g1, g2, g3, g4⟩ := hrq.keep hb'))
      go_wp2
      go_roundw
      case rel => exact ⟨k + 1, by omega, by go_num, by rw [HC.out]; exact hown', hb'⟩
      case measure => simp [intOf]; omega
    · go_wp2
      go_ret
      have hkl : k = L.length := by omega
      subst hkl
      exact ⟨_, rfl, by simpa using hown, hnx⟩
end Go.Proofs.Qxb6628184a
