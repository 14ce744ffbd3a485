/-
  No cell of these rows narrows 'for every input' (looked for: loops, veiled, ifaces, maps, wideKeys, modest, calm, conditions, laid).
  DERIVED. THE GIVEN ROWS OF THIS SEAT. 2 by the template 'for every input the law returns true; each argument reads behind the call as it read before'; 0 by the template 'total and deterministic' (their statements: Qxb6628330aTotals.lean).
  GIVEN WITH THE SEED: the statements are not yours to turn. If you find one false, say at which input.
  Laid BY PROGRAM, IN A SANDBOX (cutbox-rows.mjs): the forced cells as the released guide's own fill.sh prints them over the translation affd5ea395f1800f… (all of the seat's roots in one cut). By AI agents, Wed Nov 11 2026. No macro, syntax, notation, axiom, sorry.
-/
import Derived.Test.Qxb6628330aChecked
import GoSem.Claim
import GoSem.ClaimJoined
import GoSem.ClaimMapViews
import Derived.JoinedTies
import Derived.KernelRfl
namespace Go.Proofs.Qxb6628330a
/- THE CELL 'sum', in the pinned program and in every row, IS THE sha256 OF THE DUMP (.gsa) THAT Qxb6628330aProg.lean LOADS. Nothing in Lean hashes anything: it is a label: what it is worth is what the hold of that sum in a sandbox is worth. -/
noncomputable def Try.pinned : Pinned := { name := "qxb6628330a", sum := "affd5ea395f1800f6809b3c4f529039087704b6c2f22418d5ea16409b4e9ae1a", checked := Try.checked }
namespace Rows
def none {H : Type} : Left H := { results := [], args := [] }

/-- 'zzlaws_internal_checkout_b1.FnOptionInsertAtAnyPlace': WHATEVER THE INPUT: true; the input reads as it did. -/
def fnOptionInsertAtAnyPlaceSpec : ChangeSpec := { name := "fnOptionInsertAtAnyPlace", fn := fun _ => fun
  | [d1, d2, d3, d4] => { results := [.lit (.bool true)], args := [d1, d2, d3, d4] }
  | _ => none }
def fnOptionInsertAtAnyPlaceRow : OpenClaim := { program := "qxb6628330a", sum := "affd5ea395f1800f6809b3c4f529039087704b6c2f22418d5ea16409b4e9ae1a", func := "example.com/tillgate/tillgate/zzlaws_internal_checkout_b1.FnOptionInsertAtAnyPlace", spec := "fnOptionInsertAtAnyPlace", apart := false }
def FnOptionInsertAtAnyPlaceSaid : Prop := fnOptionInsertAtAnyPlaceRow.holds Try.pinned (OpenSpec.ofChange fnOptionInsertAtAnyPlaceSpec)

/-- ITS FALSE NEIGHBOUR: 'it returns false'. Refute it at one input. -/
def fnOptionInsertAtAnyPlaceWrong : ChangeSpec := { name := "fnOptionInsertAtAnyPlace", fn := fun _ => fun
  | [d1, d2, d3, d4] => { results := [.lit (.bool false)], args := [d1, d2, d3, d4] }
  | _ => none }
def FnOptionInsertAtAnyPlaceWrongFalsely : Prop := fnOptionInsertAtAnyPlaceRow.holds Try.pinned (OpenSpec.ofChange fnOptionInsertAtAnyPlaceWrong)

/-- 'zzlaws_internal_checkout_b1.FnOptionJoinedLists': WHATEVER THE INPUT: true; the input reads as it did. -/
def fnOptionJoinedListsSpec : ChangeSpec := { name := "fnOptionJoinedLists", fn := fun _ => fun
  | [d1, d2, d3] => { results := [.lit (.bool true)], args := [d1, d2, d3] }
  | _ => none }
def fnOptionJoinedListsRow : OpenClaim := { program := "qxb6628330a", sum := "affd5ea395f1800f6809b3c4f529039087704b6c2f22418d5ea16409b4e9ae1a", func := "example.com/tillgate/tillgate/zzlaws_internal_checkout_b1.FnOptionJoinedLists", spec := "fnOptionJoinedLists", apart := false }
def FnOptionJoinedListsSaid : Prop := fnOptionJoinedListsRow.holds Try.pinned (OpenSpec.ofChange fnOptionJoinedListsSpec)

/-- ITS FALSE NEIGHBOUR: 'it returns false'. Refute it at one input. -/
def fnOptionJoinedListsWrong : ChangeSpec := { name := "fnOptionJoinedLists", fn := fun _ => fun
  | [d1, d2, d3] => { results := [.lit (.bool false)], args := [d1, d2, d3] }
  | _ => none }
def FnOptionJoinedListsWrongFalsely : Prop := fnOptionJoinedListsRow.holds Try.pinned (OpenSpec.ofChange fnOptionJoinedListsWrong)

end Rows
end Go.Proofs.Qxb6628330a
