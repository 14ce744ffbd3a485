import Derived.Test.Qxb6628184aRows
import Derived.WalkKit
import Derived.WalkSpells
import Derived.WalkLawsBesides
import Derived.Deep.RegionHeld3
import Derived.Deep.QuietTactic
import Derived.BigQuiet
namespace Go.Proofs.Qxb6628184a
open Go.RowKit

/-- One requirement as the walk is told of it: its five cells, and the strings of its value list. -/
structure Rq where
  key : ByteArray
  va : Option Addr
  vl : Nat
  vc : Nat
  neg : Bool
  ord : Int
  bnd : Int
  ss : List ByteArray

/-- The call returned some bool. -/
def IsBool (e : Ending) : Prop := ∃ b, e = .returned (.bool b)
theorem IsBool.mk {e : Ending} (b : Bool) (h : e = .returned (.bool b)) : IsBool e := ⟨b, h⟩

/-- An old cell behind a new block and a call that only adds. -/
theorem laterOld {w w' : World} {o : Obj} {a : Addr} {v : Value} (hb : Below (w.alloc o).heap.size (w.alloc o) w') (h : w.cell? a = some v) : w'.cell? a = some v :=
  cell_later hb ((World.cell?_alloc_lt _ _ _ (World.block_lt_of_cell? w a h)).trans h)

theorem Try.cells35 : Try.prog.cellsOf 35 = 5 := by kernel_rfl
theorem Try.cells38 : Try.prog.cellsOf 38 = 5 := by kernel_rfl
theorem Try.cells9 : Try.prog.cellsOf 9 = 1 := by kernel_rfl

set_option maxHeartbeats 400000 in
theorem fixes_any (k : ByteArray) (va : Option Addr) (vl vc : Nat) (n : Bool) (o b : Int) (w : World) (c : Bool) (hc : (!n && (vl : Int) == 1) = c) :
    Calls Try.prog 12 #[.agg #[.string k, .slice va vl vc, .bool n, .int .i64 o, .int .i64 b]] w fun e w' => e = .returned (.bool c) ∧ Below w.heap.size w w' := by
  subst hc
  cases n
  · go_enter Try.func12, Try.ntmps12
    go_wp2
    go_ret
    exact ⟨rfl, (Below.refl _ _).alloc (Nat.le_refl _) _⟩
  · go_enter Try.func12, Try.ntmps12
    go_wp2
    go_ret
    exact ⟨rfl, (Below.refl _ _).alloc (Nat.le_refl _) _⟩
end Go.Proofs.Qxb6628184a
