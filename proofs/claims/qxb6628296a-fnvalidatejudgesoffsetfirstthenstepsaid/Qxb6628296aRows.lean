/-
  No cell of these rows narrows 'for every input' (looked for: loops, veiled, ifaces, maps, wideKeys, modest, calm, conditions, laid).
  DERIVED. THE GIVEN ROWS OF THIS SEAT. 1 by the template 'for every input the law returns true; each argument reads behind the call as it read before'; 0 by the template 'total and deterministic' (their statements: Qxb6628296aTotals.lean).
  GIVEN WITH THE SEED: the statements are not yours to turn. If you find one false, say at which input.
  Laid BY PROGRAM, IN A SANDBOX (cutbox-rows.mjs): the forced cells as the released guide's own fill.sh prints them over the translation edd8bf4773b168d3… (all of the seat's roots in one cut). By AI agents, Wed Nov 11 2026. No macro, syntax, notation, axiom, sorry.
-/
import Derived.Test.Qxb6628296aChecked
import GoSem.Claim
import GoSem.ClaimJoined
import GoSem.ClaimMapViews
import Derived.JoinedTies
import Derived.KernelRfl
namespace Go.Proofs.Qxb6628296a
/- THE CELL 'sum', in the pinned program and in every row, IS THE sha256 OF THE DUMP (.gsa) THAT Qxb6628296aProg.lean LOADS. Nothing in Lean hashes anything: it is a label: what it is worth is what the hold of that sum in a sandbox is worth. -/
noncomputable def Try.pinned : Pinned := { name := "qxb6628296a", sum := "edd8bf4773b168d34c49a0b7e44c30f934c5a29fd961d6aa2264407d1ace6190", checked := Try.checked }
namespace Rows
def none {H : Type} : Left H := { results := [], args := [] }

/-- 'zzlaws_root_b1.FnValidateJudgesOffsetFirstThenStep': WHATEVER THE INPUT: true; the input reads as it did. -/
def fnValidateJudgesOffsetFirstThenStepSpec : ChangeSpec := { name := "fnValidateJudgesOffsetFirstThenStep", fn := fun _ => fun
  | [d1, d2] => { results := [.lit (.bool true)], args := [d1, d2] }
  | _ => none }
def fnValidateJudgesOffsetFirstThenStepRow : OpenClaim := { program := "qxb6628296a", sum := "edd8bf4773b168d34c49a0b7e44c30f934c5a29fd961d6aa2264407d1ace6190", func := "example.com/rivulet/rivulet/zzlaws_root_b1.FnValidateJudgesOffsetFirstThenStep", spec := "fnValidateJudgesOffsetFirstThenStep", apart := false }
def FnValidateJudgesOffsetFirstThenStepSaid : Prop := fnValidateJudgesOffsetFirstThenStepRow.holds Try.pinned (OpenSpec.ofChange fnValidateJudgesOffsetFirstThenStepSpec)

/-- ITS FALSE NEIGHBOUR: 'it returns false'. Refute it at one input. -/
def fnValidateJudgesOffsetFirstThenStepWrong : ChangeSpec := { name := "fnValidateJudgesOffsetFirstThenStep", fn := fun _ => fun
  | [d1, d2] => { results := [.lit (.bool false)], args := [d1, d2] }
  | _ => none }
def FnValidateJudgesOffsetFirstThenStepWrongFalsely : Prop := fnValidateJudgesOffsetFirstThenStepRow.holds Try.pinned (OpenSpec.ofChange fnValidateJudgesOffsetFirstThenStepWrong)

end Rows
end Go.Proofs.Qxb6628296a
