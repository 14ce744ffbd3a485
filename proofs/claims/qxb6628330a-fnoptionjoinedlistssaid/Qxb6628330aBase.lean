import Derived.Test.Qxb6628330aRows
import Derived.WalkKit
import Derived.WalkSpells
import Derived.WalkLawsBesides
import Derived.WalkSmall
import Derived.Laws.StructEq
import Derived.Laws.ResultCell
namespace Go.Proofs.Qxb6628330a
open Go.RowKit

/-- One option: five strings and an amount. -/
structure Ot where
  id : ByteArray
  ty : ByteArray
  ti : ByteArray
  de : ByteArray
  ca : ByteArray
  am : Int

def Ot.agg (r : Ot) : Value := .agg #[.string r.id, .string r.ty, .string r.ti, .string r.de, .string r.ca, .int .i64 r.am]
def Ot.cells (r : Ot) : List Value := [.string r.id, .string r.ty, .string r.ti, .string r.de, .string r.ca, .int .i64 r.am]
def zeroOt : Ot := ⟨ByteArray.empty, ByteArray.empty, ByteArray.empty, ByteArray.empty, ByteArray.empty, 0⟩

def HasOt (w : World) (b o : Nat) (r : Ot) : Prop :=
  w.cell? ⟨b, o, none⟩ = some (.string r.id) ∧ w.cell? ⟨b, o + 1, none⟩ = some (.string r.ty) ∧ w.cell? ⟨b, o + 2, none⟩ = some (.string r.ti) ∧
    w.cell? ⟨b, o + 3, none⟩ = some (.string r.de) ∧ w.cell? ⟨b, o + 4, none⟩ = some (.string r.ca) ∧ w.cell? ⟨b, o + 5, none⟩ = some (.int .i64 r.am)
def OtsAt (w : World) (a : Option Addr) (L : List Ot) : Prop := ∀ k r, L[k]? = some r → ∃ b o, a = some ⟨b, o, none⟩ ∧ HasOt w b (o + k * 6) r

theorem HasOt.keep {w w' : World} {b o : Nat} {r : Ot} (h : HasOt w b o r) (hb : Below w.heap.size w w') : HasOt w' b o r := by
  obtain ⟨h0, h1, h2, h3, h4, h5⟩ := h
  exact ⟨cell_later hb h0, cell_later hb h1, cell_later hb h2, cell_later hb h3, cell_later hb h4, cell_later hb h5⟩
theorem OtsAt.keep {w w' : World} {a : Option Addr} {L : List Ot} (h : OtsAt w a L) (hb : Below w.heap.size w w') : OtsAt w' a L := by
  intro k r hr
  obtain ⟨b, o, e, h1⟩ := h k r hr
  exact ⟨b, o, e, h1.keep hb⟩

theorem HasOt.alloc {w : World} {b o : Nat} {r : Ot} (h : HasOt w b o r) (x : Obj) : HasOt (w.alloc x) b o r := h.keep ((Below.refl _ _).alloc (Nat.le_refl _) _)
/-- An option stored at a place. -/
def set6 (w : World) (B o : Nat) (r : Ot) : World :=
  (((((w.setCell ⟨B, o, none⟩ (.string r.id)).setCell ⟨B, o + 1, none⟩ (.string r.ty)).setCell ⟨B, o + 2, none⟩ (.string r.ti)).setCell ⟨B, o + 3, none⟩ (.string r.de)).setCell ⟨B, o + 4, none⟩ (.string r.ca)).setCell ⟨B, o + 5, none⟩ (.int .i64 r.am)
theorem setCell_far (w : World) (p a : Addr) (v : Value) (h : p.block ≠ a.block) : (w.setCell p v).cell? a = w.cell? a :=
  World.cell?_setCell_other w p a v (fun e => h (by rw [e]))
theorem set6_far {w : World} {B o : Nat} {r : Ot} {a : Addr} (h : B ≠ a.block) : (set6 w B o r).cell? a = w.cell? a := by
  unfold set6
  rw [setCell_far _ _ _ _ h, setCell_far _ _ _ _ h, setCell_far _ _ _ _ h, setCell_far _ _ _ _ h, setCell_far _ _ _ _ h, setCell_far _ _ _ _ h]
theorem set6_other {w : World} {B o j : Nat} {r : Ot} (h : j < o) : (set6 w B o r).cell? ⟨B, j, none⟩ = w.cell? ⟨B, j, none⟩ := by
  unfold set6
  rw [World.cell?_setCell_other, World.cell?_setCell_other, World.cell?_setCell_other, World.cell?_setCell_other, World.cell?_setCell_other, World.cell?_setCell_other] <;> simp <;> omega
theorem setCell_heap {w : World} {B o : Nat} {t : TypeId} {v : Value} {c : Array Value} (h : w.heap[B]? = some (.cells c t (0, 0))) : (w.setCell ⟨B, o, none⟩ v).heap[B]? = some (.cells (c.setIfInBounds o v) t (0, 0)) := by
  simp [World.setCell, Array.getElem?_modify, h]
theorem set6_heap {w : World} {B o : Nat} {t : TypeId} {r : Ot} {c : Array Value} (h : w.heap[B]? = some (.cells c t (0, 0))) :
    (set6 w B o r).heap[B]? = some (.cells ((((((c.setIfInBounds o (.string r.id)).setIfInBounds (o + 1) (.string r.ty)).setIfInBounds (o + 2) (.string r.ti)).setIfInBounds (o + 3) (.string r.de)).setIfInBounds (o + 4) (.string r.ca)).setIfInBounds (o + 5) (.int .i64 r.am)) t (0, 0)) :=
  setCell_heap (setCell_heap (setCell_heap (setCell_heap (setCell_heap (setCell_heap h)))))
theorem set6_has {w : World} {B o : Nat} {t : TypeId} {r : Ot} {c : Array Value} (h : w.heap[B]? = some (.cells c t (0, 0))) (hc : o + 6 ≤ c.size) : HasOt (set6 w B o r) B o r := by
  have hb := set6_heap (o := o) (r := r) h
  refine ⟨?_, ?_, ?_, ?_, ?_, ?_⟩ <;> simp [World.cell?, hb, Array.getElem?_setIfInBounds] <;> omega
theorem set6_below {w w' : World} {B N o : Nat} {r : Ot} (h : Below N w w') (hB : N ≤ B) : Below N w (set6 w' B o r) :=
  (((((h.setCell hB _).setCell hB _).setCell hB _).setCell hB _).setCell hB _).setCell hB _

set_option maxHeartbeats 400000 in
theorem toOption_any (i t u d c : ByteArray) (n : Int) (w : World) :
    Calls Try.prog 10 #[.agg #[.string i, .string t, .string u, .string d, .string c, .int .i64 n]] w fun e w' => e = .returned (.agg #[.string i, .string t, .string u, .string d, .string c, .int .i64 n]) ∧ Below w.heap.size w w' := by
  go_enter Try.func10, Try.ntmps10
  go_wp2
  exact bodyPost_ret (v := .agg #[.string i, .string t, .string u, .string d, .string c, .int .i64 n]) (by simp [results, Try.results10, go_sem]) rfl ⟨rfl, ((Below.refl _ _).alloc (Nat.le_refl _) _).alloc (by simp) _⟩
end Go.Proofs.Qxb6628330a
