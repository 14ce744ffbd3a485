import Derived.Test.Qxb6628184aClone
import Derived.WalkSmall
namespace Go.Proofs.Qxb6628184a
open Go.RowKit

theorem Try.info35 : (Try.prog.info? 35).map (fun i => (i.zero, i.size, i.bytes)) = some (some (.agg #[.string ByteArray.empty, .slice none 0 0, .bool false, .int .i64 0, .int .i64 0]), 5, 64) := by kernel_rfl

structure CloneInv (w : World) (B n : Nat) (M : List Rq) : Prop where
  block : ∃ c, w.heap[B]? = some (.cells c 35 (0, 0)) ∧ c.size = n * 5
  reqs : ReqsAt w (some ⟨B, 0, none⟩) M
  far : ∀ r ∈ M, ∀ x, r.va = some x → B < x.block

theorem CloneInv.keep {w w' : World} {B n : Nat} {M : List Rq} (h : CloneInv w B n M) (hb : Below w.heap.size w w') : CloneInv w' B n M := by
  obtain ⟨⟨c, hc, hs⟩, h2, h3⟩ := h
  exact ⟨⟨c, (hb.block B (Array.getElem?_eq_some_iff.1 hc).1).trans hc, hs⟩, h2.keep hb, h3⟩
theorem CloneInv.lt {w : World} {B n : Nat} {M : List Rq} (h : CloneInv w B n M) : B < w.heap.size := by
  obtain ⟨c, hc, hs⟩ := h.block
  exact (Array.getElem?_eq_some_iff.1 hc).1
theorem CloneInv.cell {w : World} {B n : Nat} {M : List Rq} (h : CloneInv w B n M) {j : Nat} (hj : j < n * 5) : ∃ v, w.cell? ⟨B, j, none⟩ = some v := by
  obtain ⟨c, hc, hs⟩ := h.block
  exact ⟨c[j], by simp [World.cell?, hc, hs, hj]⟩
theorem CloneInv.frozen {w : World} {B n : Nat} {M : List Rq} (h : CloneInv w B n M) (j : Nat) : w.frozen? ⟨B, j, none⟩ = false := by
  obtain ⟨c, hc, hs⟩ := h.block
  simp [World.frozen?, hc]

/-- A requirement stored into the row. -/
def set5 (w : World) (B o : Nat) (r : Rq) : World :=
  ((((w.setCell ⟨B, o, none⟩ (.string r.key)).setCell ⟨B, o + 1, none⟩ (.slice r.va r.vl r.vc)).setCell ⟨B, o + 2, none⟩ (.bool r.neg)).setCell ⟨B, o + 3, none⟩ (.int .i64 r.ord)).setCell ⟨B, o + 4, none⟩ (.int .i64 r.bnd)

theorem setCell_heap {w : World} {B o : Nat} {v : Value} {c : Array Value} (h : w.heap[B]? = some (.cells c 35 (0, 0))) : (w.setCell ⟨B, o, none⟩ v).heap[B]? = some (.cells (c.setIfInBounds o v) 35 (0, 0)) := by
  simp [World.setCell, Array.getElem?_modify, h]
theorem set5_heap {w : World} {B o : Nat} {r : Rq} {c : Array Value} (h : w.heap[B]? = some (.cells c 35 (0, 0))) :
    (set5 w B o r).heap[B]? = some (.cells (((((c.setIfInBounds o (.string r.key)).setIfInBounds (o + 1) (.slice r.va r.vl r.vc)).setIfInBounds (o + 2) (.bool r.neg)).setIfInBounds (o + 3) (.int .i64 r.ord)).setIfInBounds (o + 4) (.int .i64 r.bnd)) 35 (0, 0)) :=
  setCell_heap (setCell_heap (setCell_heap (setCell_heap (setCell_heap h))))
theorem set5_far {w : World} {B o : Nat} {r : Rq} {a : Addr} (h : B ≠ a.block) : (set5 w B o r).cell? a = w.cell? a := by
  unfold set5
  rw [World.cell?_setCell_far _ _ _ _ h, World.cell?_setCell_far _ _ _ _ h, World.cell?_setCell_far _ _ _ _ h, World.cell?_setCell_far _ _ _ _ h, World.cell?_setCell_far _ _ _ _ h]
theorem set5_other {w : World} {B o j : Nat} {r : Rq} (h : j < o) : (set5 w B o r).cell? ⟨B, j, none⟩ = w.cell? ⟨B, j, none⟩ := by
  unfold set5
  rw [World.cell?_setCell_other, World.cell?_setCell_other, World.cell?_setCell_other, World.cell?_setCell_other, World.cell?_setCell_other] <;> simp <;> omega

theorem CloneInv.store {w : World} {B n k : Nat} {M : List Rq} {r : Rq} (h : CloneInv w B n M) (hM : M.length = k) (hk : k < n) (hl : r.ss.length = r.vl) (hs : HasStrs w r.va r.ss) (hf : ∀ x, r.va = some x → B < x.block) :
    CloneInv (set5 w B (k * 5) r) B n (M ++ [r]) := by
  obtain ⟨⟨c, hc, hsz⟩, h2, h3⟩ := h
  have strs : ∀ (va : Option Addr) (ss : List ByteArray), (∀ x, va = some x → B < x.block) → HasStrs w va ss → HasStrs (set5 w B (k * 5) r) va ss := by
    intro va ss hva hh j hj
    obtain ⟨b, o, e, hcell⟩ := hh j hj
    exact ⟨b, o, e, by rw [set5_far (by have := hva _ e; simp at this ⊢; omega)]; exact hcell⟩
  refine ⟨⟨_, set5_heap hc, by simpa using hsz⟩, ?_, ?_⟩
  · intro i x hx
    by_cases hi : i < k
    · rw [List.getElem?_append_left (by omega)] at hx
      obtain ⟨b, o, e, ⟨q0, q1, q2, q3, q4⟩, hl', hs'⟩ := h2 i x hx
      obtain ⟨rfl, rfl⟩ : B = b ∧ 0 = o := by simpa using e
      refine ⟨B, 0, rfl, ⟨?_, ?_, ?_, ?_, ?_⟩, hl', strs _ _ (h3 x (List.mem_of_getElem? hx)) hs'⟩
      · rw [set5_other (by omega)]; exact q0
      · rw [set5_other (by omega)]; exact q1
      · rw [set5_other (by omega)]; exact q2
      · rw [set5_other (by omega)]; exact q3
      · rw [set5_other (by omega)]; exact q4
    · have hik : i = k := by
        have := (List.getElem?_eq_some_iff.1 hx).1
        simp at this; omega
      subst hik
      rw [List.getElem?_append_right (by omega)] at hx
      simp [hM] at hx
      subst hx
      have hb := set5_heap (o := i * 5) (r := r) hc
      refine ⟨B, 0, rfl, ⟨?_, ?_, ?_, ?_, ?_⟩, hl, strs _ _ hf hs⟩ <;> simp [World.cell?, hb, Array.getElem?_setIfInBounds, hsz] <;> omega
  · intro x hx
    rcases List.mem_append.1 hx with hx | hx
    · exact h3 x hx
    · simp at hx; subst hx; exact hf

def ClonedR (n : Nat) (w : World) (e : Ending) (w' : World) : Prop :=
  ∃ a' cap' M, e = .returned (.slice a' M.length cap') ∧ M.length = n ∧ ReqsAt w' a' M ∧ Below w.heap.size w w'

set_option maxHeartbeats 1000000 in
theorem cloneReqs_any (a : Option Addr) (cap : Nat) (L : List Rq) (w : World) (hL : ReqsAt w a L) (hnil : a = none → L = [] ∧ cap = 0) (hn : L.length ≤ 1048576) (hv : ∀ r ∈ L, r.vl ≤ 1048576) (hvn : ∀ r ∈ L, r.va = none → r.vl = 0 ∧ r.vc = 0) :
    Calls Try.prog 7 #[.slice a L.length cap] w fun e w' => ClonedR L.length w e w' := by
  have q22 : ∀ (w : World) (a : Option Addr) (n c : Nat), (binOp .eql 22 (.slice a n c) (.slice none 0 0)).run Try.prog w = .ok (.bool a.isNone) w := fun w a n c => Lib.run_eql_slice_nil w _ _ a n c 0 0 Try.underlying22
  obtain ⟨i0, hi, hz0, hz1, hz2⟩ := info_parts Try.info35
  cases a with
  | none =>
    obtain ⟨rfl, rfl⟩ := hnil rfl
    go_enter Try.func7, Try.ntmps7
    go_wp2
    go_ret
    exact ⟨none, 0, [], rfl, rfl, hL, Below.refl _ _⟩
  | some a =>
    go_enter Try.func7, Try.ntmps7
    go_wp2_with (at_make; refine wpList_make_full _ rfl (.tmp 8) (.tmp 8) 22 rfl w.heap.size 35 i0 _ 5 Try.underlying22 hi hz0 hz1 .i64 .i64 _ _ L.length rfl rfl rfl rfl (by rw [hz2]; omega) (by unfold maxLen; omega) (Nat.le_refl _) ?_)
    intro w1 hown hgrow
    have hI : CloneInv w1 w.heap.size L.length [] := by
      rcases hown.2 with ⟨h, _⟩ | ⟨g, c, cur, h, hg, hh, _, _, hs, _⟩
      · cases h
      · cases h
        exact ⟨⟨cur, hh, hs⟩, fun k r hr => by simp at hr, fun r hr => by simp at hr⟩
    have hb1 : Below w.heap.size w w1 := (Below.refl _ _).grown hgrow (Nat.le_refl _) (by simp)
    clear hown hgrow
    go_wp2
    go_loopw [4] (fun i wr => ∃ (k : Nat) (M : List Rq), k ≤ L.length ∧ i = .int .i64 k ∧ M.length = k ∧ CloneInv wr w.heap.size L.length M ∧ Below w.heap.size w wr) (fun i _ => L.length - (intOf i).toNat)
    case atStart => exact ⟨0, [], Nat.zero_le _, rfl, rfl, hI, hb1⟩
    case round =>
      clear hI hb1
      obtain ⟨k, M, hk, rfl, hM, hI, hnx⟩ := hrel
      by_cases hlt : k < L.length
      · have hvl := hv L[k] (by simp)
        have hvn' := hvn L[k] (by simp)
        obtain ⟨b, o, e, hrq, hsl, hss⟩ := hL k L[k] (by simp [hlt])
        obtain rfl := Option.some.inj e
        clear hL hv hvn e
        generalize L[k] = r at *
        obtain ⟨rk, va, vl, vc, neg, rord, bnd, ss⟩ := r
        obtain ⟨h0, h1, h2, h3, h4⟩ := hrq.keep hnx
        simp only at h0 h1 h2 h3 h4 hvl hvn' hsl hss
        have hlt' : (k : Int) < (L.length : Int) := by omega
        have hss' : HasStrs wr va ss := hss.keep hnx
        have hId : CloneInv wr.drew w.heap.size L.length M := ⟨hI.block, hI.reqs, hI.far⟩
        have hne : w.heap.size ≠ b := World.new_ne w _ hrq.1
        go_wp2
        go_region_held3 (fun w' => w'.cell? ⟨b, o + k * 5, none⟩ = some (.string rk) ∧ w'.cell? ⟨b, o + k * 5 + 1, none⟩ = some (.slice va vl vc) ∧ w'.cell? ⟨b, o + k * 5 + 2, none⟩ = some (.bool neg) ∧ w'.cell? ⟨b, o + k * 5 + 3, none⟩ = some (.int .i64 rord) ∧ w'.cell? ⟨b, o + k * 5 + 4, none⟩ = some (.int .i64 bnd)) (go_keep)
          ((go_at_call 11; refine (cloneStrings_any va vl vc ss _ ?_ hsl hvn' hvl).mono ?_; exact hss'; rintro e w' ⟨va', vc', rfl, hsn, hfar, hb'⟩; obtain ⟨g0, g1, g2, g3, g4⟩ := hrq.keep (hnx.drew.trans (hb'.mono hnx.size)); have hI' : CloneInv w' w.heap.size L.length M := hId.keep hb'; obtain ⟨p0, e0⟩ := hI'.cell (j := k * 5) (by omega); obtain ⟨p1, e1⟩ := hI'.cell (j := k * 5 + 1) (by omega); obtain ⟨p2, e2⟩ := hI'.cell (j := k * 5 + 2) (by omega); obtain ⟨p3, e3⟩ := hI'.cell (j := k * 5 + 3) (by omega); obtain ⟨p4, e4⟩ := hI'.cell (j := k * 5 + 4) (by omega); have f0 := hI'.frozen (k * 5); have f1 := hI'.frozen (k * 5 + 1); have f2 := hI'.frozen (k * 5 + 2); have f3 := hI'.frozen (k * 5 + 3); have f4 := hI'.frozen (k * 5 + 4)))
        have HI : Hid (CloneInv _ _ _ _) := hI'.store (r := ⟨rk, va', vl, vc', neg, rord, bnd, ss⟩) hM (by omega) hsl hsn (fun x hx => Nat.lt_of_lt_of_le hI.lt (hfar x hx))
        have hB : Hid (Below w.heap.size w w') := hnx.drew.trans (hb'.mono hnx.size)
        clear hI hI' hId hsn hss' hfar hb' e0 e1 e2 e3 e4 f0 f1 f2 f3 f4 g0 g1 g2 g3 g4 h0 h1 h2 h3 h4
        go_wp2
        go_roundw
        case rel => exact ⟨k + 1, _, by omega, by go_num, by simp [hM], HI.out, ((((hB.out.setCell (Nat.le_refl _) _).setCell (Nat.le_refl _) _).setCell (Nat.le_refl _) _).setCell (Nat.le_refl _) _).setCell (Nat.le_refl _) _⟩
        case measure => simp [intOf]; omega
      · go_wp2
        go_ret
        exact ⟨some ⟨w.heap.size, 0, none⟩, L.length, M, by rw [show M.length = L.length by omega]; rfl, by omega, hI.reqs, hnx⟩
end Go.Proofs.Qxb6628184a
