import Derived.Test.Qxb6628330aToOpts
namespace Go.Proofs.Qxb6628330a
open Go.RowKit

/-! ### The look-up on lists -/
theorem optF_snd (id : ByteArray) (L : List Ot) : (optF id L).2 = hasF id L := by
  induction L with
  | nil => rfl
  | cons r t ih =>
    unfold optF
    by_cases h : isF id r
    · simp [h, hasF]
    · rw [if_neg h, ih]; simp [hasF, h]
theorem optF_none {id : ByteArray} {L : List Ot} (h : hasF id L = false) : optF id L = (zeroOt, false) := by
  induction L with
  | nil => rfl
  | cons r t ih =>
    simp [hasF] at h
    unfold optF
    rw [if_neg (by simp [h.1])]
    exact ih (by simpa [hasF] using h.2)
theorem optF_some {id : ByteArray} {L : List Ot} (h : hasF id L = true) : ∃ r, optF id L = (r, true) ∧ isF id r = true := by
  induction L with
  | nil => simp [hasF] at h
  | cons r t ih =>
    unfold optF
    by_cases hr : isF id r
    · exact ⟨r, by rw [if_pos hr], hr⟩
    · rw [if_neg hr]
      refine ih ?_
      simp [hasF, hr] at h
      simpa [hasF] using h
theorem optF_append (id : ByteArray) (A B : List Ot) : optF id (A ++ B) = if hasF id A then optF id A else optF id B := by
  induction A with
  | nil => simp [hasF]
  | cons r t ih =>
    by_cases hr : isF id r
    · simp [optF, hr, hasF]
    · simp only [List.cons_append, optF, if_neg hr, ih]
      simp [hasF, hr]
theorem hasF_append (id : ByteArray) (A B : List Ot) : hasF id (A ++ B) = (hasF id A || hasF id B) := by simp [hasF]

/-- The list with x put in at place k, as far as place m. -/
def insL (L : List Ot) (x : Ot) (k m : Nat) : List Ot := L.take k ++ x :: (L.take m).drop k
theorem insL_start (L : List Ot) (x : Ot) (k : Nat) : insL L x k k = L.take k ++ [x] := by
  unfold insL
  rw [List.drop_eq_nil_of_le (by simp; omega)]
theorem insL_succ {L : List Ot} {x : Ot} {k m : Nat} (hk : k ≤ m) (hm : m < L.length) : insL L x k (m + 1) = insL L x k m ++ [L[m]] := by
  unfold insL
  rw [List.take_succ_eq_append_getElem hm, List.drop_append_of_le_length (by simp; omega)]
  simp
theorem insL_end (L : List Ot) (x : Ot) (k : Nat) : insL L x k L.length = L.take k ++ x :: L.drop k := by unfold insL; simp
theorem insL_length {L : List Ot} {x : Ot} {k m : Nat} (hk : k ≤ m) (hm : m ≤ L.length) : (insL L x k m).length = m + 1 := by
  unfold insL
  simp
  omega
theorem ins_before {L : List Ot} {x : Ot} {k : Nat} {id : ByteArray} (h : hasF id (L.take k) = true) : optF id (insL L x k L.length) = optF id L := by
  have e := optF_append id (L.take k) (L.drop k)
  rw [List.take_append_drop, if_pos h] at e
  rw [insL_end, optF_append, if_pos h, e]
theorem ins_here {L : List Ot} {x : Ot} {k : Nat} {id : ByteArray} (h : hasF id (L.take k) = false) (hx : isF id x = true) : optF id (insL L x k L.length) = (x, true) := by
  rw [insL_end, optF_append, if_neg (by rw [h]; simp), optF, if_pos hx]
theorem ins_other {L : List Ot} {x : Ot} {k : Nat} {id : ByteArray} (hx : isF id x = false) : optF id (insL L x k L.length) = optF id L := by
  have e := optF_append id (L.take k) (L.drop k)
  rw [List.take_append_drop] at e
  have e2 : optF id (x :: L.drop k) = optF id (L.drop k) := by rw [optF, if_neg (by rw [hx]; simp)]
  rw [insL_end, optF_append, e, e2]

theorem HasOt.zero {w : World} {b : Nat} {r : Ot} (h : HasOt w b 0 r) : w.cell? ⟨b, 0, none⟩ = some (.string r.id) ∧ w.cell? ⟨b, 1, none⟩ = some (.string r.ty) ∧ w.cell? ⟨b, 2, none⟩ = some (.string r.ti) ∧
    w.cell? ⟨b, 3, none⟩ = some (.string r.de) ∧ w.cell? ⟨b, 4, none⟩ = some (.string r.ca) ∧ w.cell? ⟨b, 5, none⟩ = some (.int .i64 r.am) := h

/-! ### The row that is appended to -/
def cellsOf (L : List Ot) : List Value := L.flatMap Ot.cells
theorem cellsOf_snoc (L : List Ot) (r : Ot) : cellsOf (L ++ [r]) = cellsOf L ++ r.cells := by simp [cellsOf]
theorem cellsOf_get {L : List Ot} {k : Nat} {r : Ot} (h : L[k]? = some r) (c : Nat) (hc : c < 6) : (cellsOf L)[k * 6 + c]? = r.cells[c]? := by
  induction L generalizing k with
  | nil => simp at h
  | cons x L ih =>
    show (x.cells ++ cellsOf L)[k * 6 + c]? = _
    cases k with
    | zero =>
      simp at h
      subst h
      rw [List.getElem?_append_left (by show _ < 6; omega)]
      simp
    | succ k =>
      simp at h
      rw [List.getElem?_append_right (by show 6 ≤ _; omega)]
      have := ih h
      rw [← this]
      congr 1
      show (k + 1) * 6 + c - 6 = _
      omega
theorem cell_six_new (w : World) (a b c d e f : Value) (t : TypeId) : ∀ j u, [a, b, c, d, e, f][j]? = some u → (w.alloc (.cells #[a, b, c, d, e, f] t)).cell? ((⟨w.heap.size, 0, none⟩ : Addr).add j) = some u := by
  intro j u hj
  match j, hj with
  | 0, hj => simp at hj; subst hj; simp [Addr.add]
  | 1, hj => simp at hj; subst hj; simp [Addr.add]
  | 2, hj => simp at hj; subst hj; simp [Addr.add]
  | 3, hj => simp at hj; subst hj; simp [Addr.add]
  | 4, hj => simp at hj; subst hj; simp [Addr.add]
  | 5, hj => simp at hj; subst hj; simp [Addr.add]
  | j + 6, hj => simp at hj
theorem cell_six_at (w : World) (a b c d e f : Value) (t : TypeId) (g : Nat) (hg : g = w.heap.size) : ∀ j u, [a, b, c, d, e, f][j]? = some u → (w.alloc (.cells #[a, b, c, d, e, f] t)).cell? ((⟨g, 0, none⟩ : Addr).add j) = some u := by
  subst hg; exact cell_six_new w a b c d e f t
theorem hasOt_new (w : World) (r : Ot) (t : TypeId) : HasOt (w.alloc (.cells #[.string r.id, .string r.ty, .string r.ti, .string r.de, .string r.ca, .int .i64 r.am] t)) w.heap.size 0 r := by
  refine ⟨?_, ?_, ?_, ?_, ?_, ?_⟩ <;> simp
theorem six_oneCell (i ty u d c : ByteArray) (n : Int) : ∀ v ∈ [Value.string i, .string ty, .string u, .string d, .string c, .int .i64 n], v.oneCell' = true := by
  intro v hv
  simp at hv
  rcases hv with rfl | rfl | rfl | rfl | rfl | rfl <;> rfl
/-- The slice that is appended to: at the head of block G, n of cap elements, those of L. -/
structure Built (w : World) (G n cap : Nat) (L : List Ot) : Prop where
  own : w.ownsRow G 50 6 (.slice (some ⟨G, 0, none⟩) n cap) n (cellsOf L)
  len : n = L.length
theorem Built.ots {w : World} {G n cap : Nat} {L : List Ot} (h : Built w G n cap L) : OtsAt w (some ⟨G, 0, none⟩) L := by
  intro k r hr
  refine ⟨G, 0, rfl, ?_⟩
  have hc := h.own.cells (g := G) rfl
  have one : ∀ c v, c < 6 → r.cells[c]? = some v → w.cell? ⟨G, 0 + k * 6 + c, none⟩ = some v := by
    intro c v hc5 hv
    have := hc (k * 6 + c) v (by rw [cellsOf_get hr c hc5]; exact hv)
    rw [Addr.add_lit] at this
    rw [Nat.zero_add] at this ⊢
    exact this
  exact ⟨one 0 _ (by omega) rfl, one 1 _ (by omega) rfl, one 2 _ (by omega) rfl, one 3 _ (by omega) rfl, one 4 _ (by omega) rfl, one 5 _ (by omega) rfl⟩
theorem Built.keep {w w' : World} {G n cap : Nat} {L : List Ot} (h : Built w G n cap L) (hb : Below w.heap.size w w') : Built w' G n cap L :=
  ⟨h.own.kept (row := none) ⟨hb.os, hb.tape, hb.output, hb.size, fun k hk _ => hb.block k hk⟩ (.inr (by simp [Value.ownBlock])), h.len⟩
theorem Built.lt {w : World} {G n cap : Nat} {L : List Ot} (h : Built w G n cap L) : G < w.heap.size := (h.own.lt G rfl).2
/-- A block that is not the row stays as it is behind an append. -/
theorem hasOt_grown {w w' : World} {G b o : Nat} {r : Ot} (h : HasOt w b o r) (hg : w.grownBy w' (some G)) (hne : b ≠ G) : HasOt w' b o r := by
  obtain ⟨h0, h1, h2, h3, h4, h5⟩ := h
  have e : some b ≠ some G := by simpa using hne
  exact ⟨hg.cell h0 e, hg.cell h1 e, hg.cell h2 e, hg.cell h3 e, hg.cell h4 e, hg.cell h5 e⟩
theorem grown_alloc {w w' : World} {o : Obj} {row : Option Nat} (h : (w.alloc o).grownBy w' row) : w.grownBy w' row :=
  ⟨h.os, h.tape, h.output, Nat.le_trans (by simp) h.size, fun k hk hr => (h.block k (by simp; omega) hr).trans (Below.heap_alloc _ _ _ hk)⟩
/-- A session is laid, then a slice is made. -/
theorem sess_made {w4 w5 : World} {o : Obj} {a4 : Option Addr} {c4 : Nat} {L : List Ot} (hg : (w4.alloc o).grownBy w5 none) (h7 : (w4.alloc o).cell? ⟨w4.heap.size, 7, none⟩ = some (.slice a4 L.length c4)) (hO : OtsAt w4 a4 L) :
    ∃ wS : World, wS.heap.size = w4.heap.size + 1 ∧ SessAt wS w4.heap.size L ∧ Below w4.heap.size w4 wS ∧ Below wS.heap.size wS w5 :=
  have hb := (Below.refl w4.heap.size w4).alloc (Nat.le_refl _) o
  ⟨w4.alloc o, by simp, ⟨a4, c4, h7, hO.keep hb⟩, hb, ⟨hg.os, hg.tape, hg.output, hg.size, fun k hk => hg.block k hk (by simp)⟩⟩
theorem Built.snoc {w : World} {G n cap : Nat} {L : List Ot} {r : Ot} (h : w.ownsRow G 50 6 (.slice (some ⟨G, 0, none⟩) (n + 1) cap) (n + 1) (cellsOf L ++ r.cells)) (hn : n = L.length) : Built w G (n + 1) cap (L ++ [r]) :=
  ⟨by rw [cellsOf_snoc]; exact h, by simp; omega⟩
theorem SessAt.alloc {w : World} {S : Nat} {L : List Ot} (h : SessAt w S L) (o : Obj) : SessAt (w.alloc o) S L := h.keep ((Below.refl _ _).alloc (Nat.le_refl _) _)
theorem OtsAt.alloc {w : World} {a : Option Addr} {L : List Ot} (h : OtsAt w a L) (o : Obj) : OtsAt (w.alloc o) a L := h.keep ((Below.refl _ _).alloc (Nat.le_refl _) _)
theorem sess_later {wr w' : World} {o : Obj} {a4 : Option Addr} {c4 n : Nat} {N : List Ot} (hb : Below (wr.alloc o).heap.size (wr.alloc o) w') (h7 : (wr.alloc o).cell? ⟨wr.heap.size, 7, none⟩ = some (.slice a4 n c4)) (hO : OtsAt wr a4 N) (hn : N.length = n) :
    SessAt w' wr.heap.size N ∧ Below wr.heap.size wr w' := by
  subst hn
  exact ⟨SessAt.keep ⟨a4, c4, h7, hO.alloc _⟩ hb, ((Below.refl _ _).alloc (Nat.le_refl _) _).trans (hb.mono (by simp))⟩
/-- What a call left in a block that was laid ahead of it. -/
theorem ot_later {w w' : World} {r : Ot} {t : TypeId} (hb : Below (w.alloc (.cells #[.string r.id, .string r.ty, .string r.ti, .string r.de, .string r.ca, .int .i64 r.am] t)).heap.size (w.alloc (.cells #[.string r.id, .string r.ty, .string r.ti, .string r.de, .string r.ca, .int .i64 r.am] t)) w') :
    HasOt w' w.heap.size 0 r ∧ Below w.heap.size w w' :=
  ⟨(hasOt_new w r t).keep hb, ((Below.refl _ _).alloc (Nat.le_refl _) _).trans (hb.mono (by simp))⟩
theorem option_zero (S : Nat) (L : List Ot) (id : ByteArray) (w : World) (hS : SessAt w S L) (hn : L.length ≤ 131073) (hf : optF id L = (zeroOt, false)) :
    Calls Try.prog 11 #[.pointer (some ⟨S, 0, none⟩), .string id] w fun e w' => e = .returned (.tuple #[.agg #[.string ⟨#[]⟩, .string ⟨#[]⟩, .string ⟨#[]⟩, .string ⟨#[]⟩, .string ⟨#[]⟩, .int .i64 0], .bool false]) ∧ Below w.heap.size w w' :=
  option_any S L id w zeroOt false hS hn hf
theorem ot_later0 {w w' : World} {t : TypeId} (hb : Below (w.alloc (.cells #[.string ⟨#[]⟩, .string ⟨#[]⟩, .string ⟨#[]⟩, .string ⟨#[]⟩, .string ⟨#[]⟩, .int .i64 0] t)).heap.size (w.alloc (.cells #[.string ⟨#[]⟩, .string ⟨#[]⟩, .string ⟨#[]⟩, .string ⟨#[]⟩, .string ⟨#[]⟩, .int .i64 0] t)) w') :
    HasOt w' w.heap.size 0 ⟨⟨#[]⟩, ⟨#[]⟩, ⟨#[]⟩, ⟨#[]⟩, ⟨#[]⟩, 0⟩ ∧ Below w.heap.size w w' := ot_later (r := ⟨⟨#[]⟩, ⟨#[]⟩, ⟨#[]⟩, ⟨#[]⟩, ⟨#[]⟩, 0⟩) hb
theorem grown_belowQ {B Q : Nat} {w w' : World} (hg : w.grownBy w' (some Q)) (hQ : B ≤ Q) (hP : B ≤ w.heap.size) : Below B w w' :=
  ⟨hg.os, hg.tape, hg.output, hg.size, fun k hk => hg.block k (by omega) (fun e => by cases e; omega)⟩
end Go.Proofs.Qxb6628330a
