import Derived.Test.Qxb6628303aBase
namespace Go.Proofs.Qxb6628303a
open Go.RowKit

/-- What drawB1Clone hands back. -/
def Cloned (zs : List Int) (w : World) (e : Ending) (w' : World) : Prop :=
  ∃ a' c', e = .returned (.slice a' zs.length c') ∧ zs.length ≤ c' ∧ (a' = none → zs = [] ∧ c' = 0) ∧ IntsIn w'.heap.size .u8 w' a' zs ∧ Below w.heap.size w w'

theorem rowStep {w : World} {b n k : Nat} {zs : List Int} {x : Int} (hx : zs.getD k 0 = x)
    (h : w.rowIs b 5 n (fun j => if j = k then .int .u8 x else if j < k then .int .u8 (zs.getD j 0) else .int .u8 0)) :
    w.rowIs b 5 n (fun j => if j < k + 1 then .int .u8 (zs.getD j 0) else .int .u8 0) := by
  refine h.congr fun j hj => ?_
  by_cases e : j = k
  · subst e; simp [← hx]
  · by_cases l : j < k
    · simp only [e, l, if_false, if_true, show j < k + 1 by omega]
    · simp only [e, l, if_false, show ¬ j < k + 1 by omega]
theorem rowDone {w : World} {b k : Nat} {zs : List Int} (hk : zs.length ≤ k)
    (h : w.rowIs b 5 zs.length (fun j => if j < k then .int .u8 (zs.getD j 0) else .int .u8 0)) : IntsIn w.heap.size .u8 w (some ⟨b, 0, none⟩) zs := by
  intro j hj
  refine ⟨b, 0, rfl, h.lt, ?_⟩
  have := h.cell (i := j) (by omega)
  rw [Nat.zero_add, this, if_pos (by omega)]

set_option maxHeartbeats 400000 in
theorem clone_any (a : Option Addr) (cap : Nat) (zs : List Int) (w : World) (hs : IntsIn w.heap.size .u8 w a zs) (hnil : a = none → zs = [] ∧ cap = 0) (hm : zs.length ≤ 1048576) :
    Calls Try.prog 6 #[.slice a zs.length cap] w fun e w' => Cloned zs w e w' := by
  have hmk := run_make_row' (P := Try.prog) 22 5 (.int .u8 0) 1 Try.underlying22 Try.info5 rfl .i64 .i64 zs.length (by omega) (by omega)
  have q22 : ∀ (w : World) (a : Option Addr) (n c : Nat), (binOp .eql 22 (.slice a n c) (.slice none 0 0)).run Try.prog w = .ok (.bool a.isNone) w := fun w a n c => Lib.run_eql_slice_nil w _ _ a n c 0 0 Try.underlying22
  cases a with
  | none =>
    obtain ⟨rfl, rfl⟩ := hnil rfl
    go_enter Try.func6, Try.ntmps6
    go_wp2
    go_ret
    exact ⟨none, 0, rfl, Nat.le_refl _, fun _ => ⟨rfl, rfl⟩, IntsIn.nil _ _ _ _, Below.refl _ _⟩
  | some a =>
    go_enter Try.func6, Try.ntmps6
    go_wp2
    go_loopw [4] (fun i wr => ∃ k : Nat, k ≤ zs.length ∧ i = .int .i64 k ∧ wr.rowIs w.heap.size 5 zs.length (fun j => if j < k then .int .u8 (zs.getD j 0) else .int .u8 0) ∧ Below w.heap.size w wr) (fun i _ => zs.length - (intOf i).toNat)
    case atStart => exact ⟨0, Nat.zero_le _, rfl, (World.rowIs_made _ _ _ _).congr (by simp), (Below.refl _ _).alloc (Nat.le_refl _) _⟩
    case round =>
      obtain ⟨k, hk, rfl, hrow, hnx⟩ := hrel
      by_cases hlt : k < zs.length
      · obtain ⟨b, o, e, _, hc⟩ := hs k (by omega)
        obtain rfl := Option.some.inj e
        have hc' := cell_later hnx hc
        have hst := hrow.cell hlt
        have hfr := hrow.frozen k
        have hrow' := hrow.set k (.int .u8 (zs.getD k 0))
        clear hrow hc hs hmk
        generalize hx : zs.getD k 0 = x at hc' hrow'
        have HX : Hid (zs.getD k 0 = x) := hx
        clear hx
        have hlt' : (k : Int) < (zs.length : Int) := by omega
        go_wp2
        go_roundw
        case rel => exact ⟨k + 1, by omega, by go_num, rowStep HX.out hrow', hnx.setCell (Nat.le_refl _) _⟩
        case measure => simp [intOf]; omega
      · go_wp2
        go_ret
        exact ⟨some ⟨w.heap.size, 0, none⟩, zs.length, rfl, Nat.le_refl _, fun h => (by cases h), rowDone (by omega) hrow, hnx⟩

/-- A *Bytes at block P that holds zs; its data lie in blocks below B. -/
structure BytesObj (B P : Nat) (w : World) (zs : List Int) : Prop where
  ex : ∃ a c, w.cell? ⟨P, 0, none⟩ = some (.slice a zs.length c) ∧ zs.length ≤ c ∧ IntsIn B .u8 w a zs
  fr : w.frozen? ⟨P, 0, none⟩ = false
  le : B ≤ P
theorem BytesObj.keep {B P : Nat} {w w' : World} {zs : List Int} {row : Option Nat} (h : BytesObj B P w zs) (hg : w.grownBy w' row) (hr : some P ≠ row) (hb : ∀ k, row = some k → B ≤ k) (hP : P < w.heap.size) : BytesObj B P w' zs := by
  obtain ⟨⟨a, c, h1, h2, h3⟩, h4, h5⟩ := h
  have hB : Below B w w' := ⟨hg.os, hg.tape, hg.output, hg.size, fun k hk => hg.block k (by omega) (fun e => by have := hb k e.symm; omega)⟩
  exact ⟨⟨a, c, hg.cell h1 hr, h2, h3.keep hB⟩, (World.frozen?_of_block (hg.block P hP hr)).trans h4, h5⟩
theorem BytesObj.lt {B P : Nat} {w : World} {zs : List Int} (h : BytesObj B P w zs) : P < w.heap.size := by
  obtain ⟨⟨a, c, h1, _⟩, _⟩ := h
  exact World.block_lt_of_cell? w _ h1

theorem newBytes_any (a : Option Addr) (l c : Nat) (w : World) :
    Calls Try.prog 7 #[.slice a l c] w fun e w' => e = .returned (.pointer (some ⟨w.heap.size, 0, none⟩)) ∧ w' = w.alloc (.cells #[.slice a l c] 33) := by
  go_enter Try.func7, Try.ntmps7
  go_wp2
  go_ret
  exact ⟨rfl, rfl⟩

theorem bytesData_any (P : Nat) (a : Option Addr) (l c : Nat) (w : World) (h : w.cell? ⟨P, 0, none⟩ = some (.slice a l c)) :
    Calls Try.prog 10 #[.pointer (some ⟨P, 0, none⟩)] w fun e w' => e = .returned (.slice a l c) ∧ w' = w := by
  go_enter Try.func10, Try.ntmps10
  go_wp2
  go_ret
  exact ⟨rfl, rfl⟩

def drawV (zs : List Int) (n : Int) : Int := match zs with | [] => 0 | z :: _ => z % n
def Drawn (B P : Nat) (zs : List Int) (n : Int) (w : World) (e : Ending) (w' : World) : Prop :=
  e = .returned (.int .i64 (drawV zs n)) ∧ BytesObj B P w' zs.tail ∧ w.grownBy w' (some P)

theorem intsIn_tail {B b o : Nat} {k : IntKind} {w : World} {z : Int} {t : List Int} (h : IntsIn B k w (some ⟨b, o, none⟩) (z :: t)) : IntsIn B k w (some ⟨b, o + 1, none⟩) t := by
  intro i hi
  obtain ⟨b', o', e, hb, hc⟩ := h (i + 1) (by simp; omega)
  obtain ⟨rfl, rfl⟩ : b = b' ∧ o = o' := by simpa using e
  exact ⟨b, o + 1, rfl, hb, by rw [show o + 1 + i = o + (i + 1) by omega, hc]; rfl⟩

theorem draw_store {B P : Nat} {w : World} {u : Value} {a : Option Addr} {c : Nat} {t : List Int} (hf : w.frozen? ⟨P, 0, none⟩ = false) (hle : B ≤ P) (hu : w.cell? ⟨P, 0, none⟩ = some u)
    (hc : t.length ≤ c) (hi : IntsIn B .u8 w a t) : BytesObj B P (w.setCell ⟨P, 0, none⟩ (.slice a t.length c)) t ∧ w.grownBy (w.setCell ⟨P, 0, none⟩ (.slice a t.length c)) (some P) := by
  have hB : Below B w (w.setCell ⟨P, 0, none⟩ (.slice a t.length c)) := (Below.refl _ _).setCell hle _
  refine ⟨⟨⟨a, c, ?_, hc, hi.keep hB⟩, ?_, hle⟩, ⟨rfl, rfl, rfl, by simp [World.setCell], fun k _ hk => Below.heap_setCell _ _ _ _ (fun e => hk (by rw [e]))⟩⟩
  · exact World.cell?_setCell_same _ _ _ hu
  · simp [hf]

set_option maxHeartbeats 400000 in
theorem draw_any (B P : Nat) (zs : List Int) (n : Int) (hn : 1 ≤ n) (hz : ∀ z ∈ zs, IsByte z) (hl : zs.length ≤ 1048576) (w : World) (h : BytesObj B P w zs) :
    Calls Try.prog 8 #[.pointer (some ⟨P, 0, none⟩), .int .i64 n] w fun e w' => Drawn B P zs n w e w' := by
  obtain ⟨⟨a, c, h1, h2, h3⟩, hf, hle⟩ := h
  cases zs with
  | nil =>
    have h1' : w.cell? ⟨P, 0, none⟩ = some (.slice a 0 c) := h1
    go_enter Try.func8, Try.ntmps8
    go_wp2
    go_ret
    exact ⟨rfl, ⟨⟨a, c, h1, h2, h3⟩, hf, hle⟩, ⟨rfl, rfl, rfl, Nat.le_refl _, fun _ _ _ => rfl⟩⟩
  | cons z t =>
    obtain ⟨b, o, rfl, hb, hc⟩ := h3 0 (by simp)
    obtain ⟨hz0, hz1⟩ := hz z (by simp)
    have hc' : w.cell? ⟨b, o, none⟩ = some (.int .u8 z) := hc
    have h1' : w.cell? ⟨P, 0, none⟩ = some (.slice (some ⟨b, o, none⟩) (t.length + 1) c) := h1
    clear hc h1 hz
    simp only [List.length_cons] at h2 hl
    go_enter Try.func8, Try.ntmps8
    go_wp2
    · go_ret
      have ht : t = [] := List.eq_nil_of_length_eq_zero (by omega)
      exact ⟨rfl, (draw_store hf hle h1' (t := t) (by omega) (ht ▸ IntsIn.nil _ _ _ _)).1, (draw_store hf hle h1' (t := t) (by omega) (ht ▸ IntsIn.nil _ _ _ _)).2⟩
    · go_ret
      have h3' : IntsIn B .u8 w (some ⟨b, o + 1, none⟩) t := intsIn_tail h3
      exact ⟨rfl, (draw_store hf hle h1' (t := t) (by omega) h3').1, (draw_store hf hle h1' (t := t) (by omega) h3').2⟩
end Go.Proofs.Qxb6628303a
