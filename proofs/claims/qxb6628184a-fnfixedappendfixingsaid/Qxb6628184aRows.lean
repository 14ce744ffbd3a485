/-
  No cell of these rows narrows 'for every input' (looked for: loops, veiled, ifaces, maps, wideKeys, modest, calm, conditions, laid).
  DERIVED. THE GIVEN ROWS OF THIS SEAT. 1 by the template 'for every input the law returns true; each argument reads behind the call as it read before'; 0 by the template 'total and deterministic' (their statements: Qxb6628184aTotals.lean).
  GIVEN WITH THE SEED: the statements are not yours to turn. If you find one false, say at which input.
  Laid BY PROGRAM, IN A SANDBOX (cutbox-rows.mjs): the forced cells as the released guide's own fill.sh prints them over the translation 171f668304802333… (all of the seat's roots in one cut). By AI agents, Wed Nov 11 2026. No macro, syntax, notation, axiom, sorry.
-/
import Derived.Test.Qxb6628184aChecked
import GoSem.Claim
import GoSem.ClaimJoined
import GoSem.ClaimMapViews
import Derived.JoinedTies
import Derived.KernelRfl
namespace Go.Proofs.Qxb6628184a
/- THE CELL 'sum', in the pinned program and in every row, IS THE sha256 OF THE DUMP (.gsa) THAT Qxb6628184aProg.lean LOADS. Nothing in Lean hashes anything: it is a label: what it is worth is what the hold of that sum in a sandbox is worth. -/
noncomputable def Try.pinned : Pinned := { name := "qxb6628184a", sum := "171f6683048023334a6d18746dd204cd3cb68291bef52d53dd1cdb628cc67ef7", checked := Try.checked }
namespace Rows
def none {H : Type} : Left H := { results := [], args := [] }

/-- 'zzlaws_internal_selector_b1.FnFixedAppendFixing': WHATEVER THE INPUT: true; the input reads as it did. -/
def fnFixedAppendFixingSpec : ChangeSpec := { name := "fnFixedAppendFixing", fn := fun _ => fun
  | [d1, d2, d3, d4] => { results := [.lit (.bool true)], args := [d1, d2, d3, d4] }
  | _ => none }
def fnFixedAppendFixingRow : OpenClaim := { program := "qxb6628184a", sum := "171f6683048023334a6d18746dd204cd3cb68291bef52d53dd1cdb628cc67ef7", func := "example.com/kindstone/kindstone/zzlaws_internal_selector_b1.FnFixedAppendFixing", spec := "fnFixedAppendFixing", apart := false }
def FnFixedAppendFixingSaid : Prop := fnFixedAppendFixingRow.holds Try.pinned (OpenSpec.ofChange fnFixedAppendFixingSpec)

/-- ITS FALSE NEIGHBOUR: 'it returns false'. Refute it at one input. -/
def fnFixedAppendFixingWrong : ChangeSpec := { name := "fnFixedAppendFixing", fn := fun _ => fun
  | [d1, d2, d3, d4] => { results := [.lit (.bool false)], args := [d1, d2, d3, d4] }
  | _ => none }
def FnFixedAppendFixingWrongFalsely : Prop := fnFixedAppendFixingRow.holds Try.pinned (OpenSpec.ofChange fnFixedAppendFixingWrong)

end Rows
end Go.Proofs.Qxb6628184a
