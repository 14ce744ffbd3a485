import Derived.Test.Qxb6628330aOption
namespace Go.Proofs.Qxb6628330a
open Go.RowKit

theorem Try.info50 : (Try.prog.info? 50).map (fun i => (i.zero, i.size, i.bytes)) = some (some (.agg #[.string ByteArray.empty, .string ByteArray.empty, .string ByteArray.empty, .string ByteArray.empty, .string ByteArray.empty, .int .i64 0]), 6, 88) := by kernel_rfl

structure RowInv (w : World) (B n : Nat) (M : List Ot) : Prop where
  block : ∃ c, w.heap[B]? = some (.cells c 50 (0, 0)) ∧ c.size = n * 6
  ots : OtsAt w (some ⟨B, 0, none⟩) M
theorem RowInv.keep {w w' : World} {B n : Nat} {M : List Ot} (h : RowInv w B n M) (hb : Below w.heap.size w w') : RowInv w' B n M := by
  obtain ⟨⟨c, hc, hs⟩, h2⟩ := h
  exact ⟨⟨c, (hb.block B (Array.getElem?_eq_some_iff.1 hc).1).trans hc, hs⟩, h2.keep hb⟩
theorem RowInv.cell {w : World} {B n : Nat} {M : List Ot} (h : RowInv w B n M) {j : Nat} (hj : j < n * 6) : ∃ v, w.cell? ⟨B, j, none⟩ = some v := by
  obtain ⟨c, hc, hs⟩ := h.block
  exact ⟨c[j], by simp [World.cell?, hc, hs, hj]⟩
theorem RowInv.frozen {w : World} {B n : Nat} {M : List Ot} (h : RowInv w B n M) (j : Nat) : w.frozen? ⟨B, j, none⟩ = false := by
  obtain ⟨c, hc, hs⟩ := h.block
  simp [World.frozen?, hc]
theorem RowInv.store {w : World} {B n k : Nat} {M : List Ot} {r : Ot} (h : RowInv w B n M) (hM : M.length = k) (hk : k < n) : RowInv (set6 w B (k * 6) r) B n (M ++ [r]) := by
  obtain ⟨⟨c, hc, hsz⟩, h2⟩ := h
  refine ⟨⟨_, set6_heap hc, by simpa using hsz⟩, ?_⟩
  intro i x hx
  by_cases hi : i < k
  · rw [List.getElem?_append_left (by omega)] at hx
    obtain ⟨b, o, e, q0, q1, q2, q3, q4, q5⟩ := h2 i x hx
    obtain ⟨rfl, rfl⟩ : B = b ∧ 0 = o := by simpa using e
    refine ⟨B, 0, rfl, ?_, ?_, ?_, ?_, ?_, ?_⟩
    · rw [set6_other (by omega)]; exact q0
    · rw [set6_other (by omega)]; exact q1
    · rw [set6_other (by omega)]; exact q2
    · rw [set6_other (by omega)]; exact q3
    · rw [set6_other (by omega)]; exact q4
    · rw [set6_other (by omega)]; exact q5
  · have hik : i = k := by
      have := (List.getElem?_eq_some_iff.1 hx).1
      simp at this; omega
    subst hik
    rw [List.getElem?_append_right (by omega)] at hx
    simp [hM] at hx
    subst hx
    refine ⟨B, 0, rfl, ?_⟩
    rw [Nat.zero_add]
    exact set6_has hc (by omega)

def ToOpts (L : List Ot) (w : World) (e : Ending) (w' : World) : Prop :=
  ∃ a' c', e = .returned (.slice a' L.length c') ∧ OtsAt w' a' L ∧ Below w.heap.size w w'

set_option maxHeartbeats 1000000 in
theorem toOptions_any (a : Option Addr) (cap : Nat) (L : List Ot) (w : World) (hL : OtsAt w a L) (hnil : a = none → L = [] ∧ cap = 0) (hn : L.length ≤ 65536) :
    Calls Try.prog 9 #[.slice a L.length cap] w fun e w' => ToOpts L w e w' := by
  have q22 : ∀ (w : World) (a : Option Addr) (n c : Nat), (binOp .eql 22 (.slice a n c) (.slice none 0 0)).run Try.prog w = .ok (.bool a.isNone) w := fun w a n c => Lib.run_eql_slice_nil w _ _ a n c 0 0 Try.underlying22
  obtain ⟨i0, hi, hz0, hz1, hz2⟩ := info_parts Try.info50
  cases a with
  | none =>
    obtain ⟨rfl, rfl⟩ := hnil rfl
    go_enter Try.func9, Try.ntmps9
    go_wp2
    go_ret
    exact ⟨none, 0, rfl, hL, Below.refl _ _⟩
  | some a =>
    go_enter Try.func9, Try.ntmps9
    go_wp2_with (at_make; refine wpList_make_full _ rfl (.tmp 8) (.tmp 8) 30 rfl w.heap.size 50 i0 _ 6 Try.underlying30 hi hz0 hz1 .i64 .i64 _ _ L.length rfl rfl rfl rfl (by rw [hz2]; omega) (by unfold maxLen; omega) (Nat.le_refl _) ?_)
    intro w1 hown hgrow
    have hI : RowInv w1 w.heap.size L.length (L.take 0) := by
      rcases hown.2 with ⟨h, _⟩ | ⟨g, c, cur, h, hg, hh, _, _, hs, _⟩
      · cases h
      · cases h
        exact ⟨⟨cur, hh, hs⟩, fun k r hr => by simp at hr⟩
    have hb1 : Below w.heap.size w w1 := (Below.refl _ _).grown hgrow (Nat.le_refl _) (by simp)
    clear hown hgrow
    go_wp2
    go_loopw [4] (fun i wr => ∃ k : Nat, k ≤ L.length ∧ i = .int .i64 k ∧ RowInv wr w.heap.size L.length (L.take k) ∧ Below w.heap.size w wr) (fun i _ => L.length - (intOf i).toNat)
    case atStart => exact ⟨0, Nat.zero_le _, rfl, hI, hb1⟩
    case round =>
      clear hI hb1
      obtain ⟨k, hk, rfl, hI, hnx⟩ := hrel
      by_cases hlt : k < L.length
      · have HT : Hid (L.take (k + 1) = L.take k ++ [L[k]]) := List.take_succ_eq_append_getElem hlt
        obtain ⟨b, o, e, hrq⟩ := hL k L[k] (by simp [hlt])
        obtain rfl := Option.some.inj e
        clear hL e
        generalize L[k] = r at *
        obtain ⟨i, ty, u, d, c, n⟩ := r
        obtain ⟨h0, h1, h2, h3, h4, h5⟩ := hrq.keep hnx
        simp only at h0 h1 h2 h3 h4 h5
        have hlt' : (k : Int) < (L.length : Int) := by omega
        go_wp2_with fail
        refine (toOption_any i ty u d c n _).mono ?_
        rintro e w2 ⟨rfl, hb2⟩
        have hI2 : RowInv w2 w.heap.size L.length (L.take k) := hI.keep hb2
        have hB2 : Below w.heap.size w w2 := hnx.trans (hb2.mono hnx.size)
        obtain ⟨p0, e0⟩ := hI2.cell (j := k * 6) (by omega)
        obtain ⟨p1, e1⟩ := hI2.cell (j := k * 6 + 1) (by omega)
        obtain ⟨p2, e2⟩ := hI2.cell (j := k * 6 + 2) (by omega)
        obtain ⟨p3, e3⟩ := hI2.cell (j := k * 6 + 3) (by omega)
        obtain ⟨p4, e4⟩ := hI2.cell (j := k * 6 + 4) (by omega)
        obtain ⟨p5, e5⟩ := hI2.cell (j := k * 6 + 5) (by omega)
        have fz := hI2.frozen
        have HI : Hid (RowInv _ _ _ _) := hI2.store (r := ⟨i, ty, u, d, c, n⟩) (k := k) (by simp; omega) hlt
        clear hI hI2 hb2 hnx hrq h0 h1 h2 h3 h4 h5
        go_wp2
        go_roundw
        case rel => exact ⟨k + 1, by omega, by go_num, by rw [HT.out]; exact HI.out, set6_below (r := ⟨i, ty, u, d, c, n⟩) hB2 (Nat.le_refl _)⟩
        case measure => simp [intOf]; omega
      · go_wp2
        go_ret
        have hkl : k = L.length := by omega
        subst hkl
        exact ⟨some ⟨w.heap.size, 0, none⟩, L.length, rfl, by simpa using hI.ots, hnx⟩
end Go.Proofs.Qxb6628330a
