/-
  No cell of these rows narrows 'for every input' (looked for: loops, veiled, ifaces, maps, wideKeys, modest, calm, conditions, laid).
  DERIVED. THE GIVEN ROWS OF THIS SEAT. 2 by the template 'for every input the law returns true; each argument reads behind the call as it read before'; 0 by the template 'total and deterministic' (their statements: Qxb6628303aTotals.lean).
  GIVEN WITH THE SEED: the statements are not yours to turn. If you find one false, say at which input.
  Laid BY PROGRAM, IN A SANDBOX (cutbox-rows.mjs): the forced cells as the released guide's own fill.sh prints them over the translation 6773226982341cb7… (all of the seat's roots in one cut). By AI agents, Wed Nov 11 2026. No macro, syntax, notation, axiom, sorry.
-/
import Derived.Test.Qxb6628303aChecked
import GoSem.Claim
import GoSem.ClaimJoined
import GoSem.ClaimMapViews
import Derived.JoinedTies
import Derived.KernelRfl
namespace Go.Proofs.Qxb6628303a
/- THE CELL 'sum', in the pinned program and in every row, IS THE sha256 OF THE DUMP (.gsa) THAT Qxb6628303aProg.lean LOADS. Nothing in Lean hashes anything: it is a label: what it is worth is what the hold of that sum in a sandbox is worth. -/
noncomputable def Try.pinned : Pinned := { name := "qxb6628303a", sum := "6773226982341cb7f4309577a1ebdb22072990b732f251c0a75aeebe8d150bb2", checked := Try.checked }
namespace Rows
def none {H : Type} : Left H := { results := [], args := [] }

/-- 'zzlaws_internal_draw_b1.FnDrawScriptMatchesModel': WHATEVER THE INPUT: true; the input reads as it did. -/
def fnDrawScriptMatchesModelSpec : ChangeSpec := { name := "fnDrawScriptMatchesModel", fn := fun _ => fun
  | [d1, d2] => { results := [.lit (.bool true)], args := [d1, d2] }
  | _ => none }
def fnDrawScriptMatchesModelRow : OpenClaim := { program := "qxb6628303a", sum := "6773226982341cb7f4309577a1ebdb22072990b732f251c0a75aeebe8d150bb2", func := "example.com/weftproof/weftproof/zzlaws_internal_draw_b1.FnDrawScriptMatchesModel", spec := "fnDrawScriptMatchesModel", apart := false }
def FnDrawScriptMatchesModelSaid : Prop := fnDrawScriptMatchesModelRow.holds Try.pinned (OpenSpec.ofChange fnDrawScriptMatchesModelSpec)

/-- ITS FALSE NEIGHBOUR: 'it returns false'. Refute it at one input. -/
def fnDrawScriptMatchesModelWrong : ChangeSpec := { name := "fnDrawScriptMatchesModel", fn := fun _ => fun
  | [d1, d2] => { results := [.lit (.bool false)], args := [d1, d2] }
  | _ => none }
def FnDrawScriptMatchesModelWrongFalsely : Prop := fnDrawScriptMatchesModelRow.holds Try.pinned (OpenSpec.ofChange fnDrawScriptMatchesModelWrong)

/-- 'zzlaws_internal_draw_b1.FnDrawJoinedAtAnyCut': WHATEVER THE INPUT: true; the input reads as it did. -/
def fnDrawJoinedAtAnyCutSpec : ChangeSpec := { name := "fnDrawJoinedAtAnyCut", fn := fun _ => fun
  | [d1, d2, d3] => { results := [.lit (.bool true)], args := [d1, d2, d3] }
  | _ => none }
def fnDrawJoinedAtAnyCutRow : OpenClaim := { program := "qxb6628303a", sum := "6773226982341cb7f4309577a1ebdb22072990b732f251c0a75aeebe8d150bb2", func := "example.com/weftproof/weftproof/zzlaws_internal_draw_b1.FnDrawJoinedAtAnyCut", spec := "fnDrawJoinedAtAnyCut", apart := false }
def FnDrawJoinedAtAnyCutSaid : Prop := fnDrawJoinedAtAnyCutRow.holds Try.pinned (OpenSpec.ofChange fnDrawJoinedAtAnyCutSpec)

/-- ITS FALSE NEIGHBOUR: 'it returns false'. Refute it at one input. -/
def fnDrawJoinedAtAnyCutWrong : ChangeSpec := { name := "fnDrawJoinedAtAnyCut", fn := fun _ => fun
  | [d1, d2, d3] => { results := [.lit (.bool false)], args := [d1, d2, d3] }
  | _ => none }
def FnDrawJoinedAtAnyCutWrongFalsely : Prop := fnDrawJoinedAtAnyCutRow.holds Try.pinned (OpenSpec.ofChange fnDrawJoinedAtAnyCutWrong)

end Rows
end Go.Proofs.Qxb6628303a
