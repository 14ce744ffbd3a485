import Derived.Test.Qxb6628296aZZ
import Derived.ProofKit
import Derived.OpenShut
import Derived.ShutString
import Derived.ChangeOld
namespace Go.Proofs.Qxb6628296a
open Go.ChangeShapes Go.WideShapes Go.ChangeAt Go.RowKit
open Go.ChangeMaps (open_string shut_string)

theorem zz_off (o s : Int) (w : World) (h : o < 0) :
    Calls Try.prog 4 #[.int .i64 o, .int .i64 s] w fun e w' => e = .returned (.tuple #[.bool true, .bool true, .string offName, .int .i64 o, .bool true, .string offWant]) ∧ Below w.heap.size w w' :=
  zz_no o s o offName offWant w (fun w => validate_off o s w h)
theorem zz_step (o s : Int) (w : World) (h : 0 ≤ o) (h1 : s < 1) :
    Calls Try.prog 4 #[.int .i64 o, .int .i64 s] w fun e w' => e = .returned (.tuple #[.bool true, .bool true, .string stepName, .int .i64 s, .bool true, .string stepWant]) ∧ Below w.heap.size w w' :=
  zz_no o s s stepName stepWant w (fun w => validate_step o s w h h1)

theorem chain3 {w w1 w2 w3 : World} (h1 : Below w.heap.size w w1) (h2 : Below w1.heap.size w1 w2) (h3 : Below w2.heap.size w2 w3) : Below w.heap.size w w3 :=
  have h12 := h1.trans (h2.mono h1.size)
  h12.trans (h3.mono h12.size)

set_option maxHeartbeats 1000000 in
theorem walk (o s : Int) (w : World) :
    Calls Try.prog 3 #[.int .i64 o, .int .i64 s] w fun e w' => e = .returned (.bool true) ∧ Below w.heap.size w w' := by
  by_cases ho : o < 0
  · by_cases hs : s < 1
    · go_enter Try.func3, Try.ntmps3
      go_wp2_with fail
      refine (zz_off o s _ ho).mono ?_
      rintro e w1 ⟨rfl, hb1⟩
      go_wp2_with fail
      refine (zz_off o 1 _ ho).mono ?_
      rintro e w2 ⟨rfl, hb2⟩
      go_wp2_with fail
      refine (zz_step 0 s _ (Int.le_refl 0) hs).mono ?_
      rintro e w3 ⟨rfl, hb3⟩
      have hb := chain3 hb1 hb2 hb3
      clear hb1 hb2 hb3
      try unfold offName
      try unfold offWant
      try unfold stepName
      try unfold stepWant
      go_wp2_with fail
      go_ret
      exact ⟨rfl, hb⟩
    · go_enter Try.func3, Try.ntmps3
      go_wp2_with fail
      refine (zz_off o s _ ho).mono ?_
      rintro e w1 ⟨rfl, hb1⟩
      go_wp2_with fail
      refine (zz_off o 1 _ ho).mono ?_
      rintro e w2 ⟨rfl, hb2⟩
      go_wp2_with fail
      refine (zz_ok 0 s _ (Int.le_refl 0) (by omega)).mono ?_
      rintro e w3 ⟨rfl, hb3⟩
      have hb := chain3 hb1 hb2 hb3
      clear hb1 hb2 hb3
      try unfold offName
      try unfold offWant
      try unfold stepName
      try unfold stepWant
      go_wp2_with fail
      go_ret
      exact ⟨rfl, hb⟩
  · have ho' : 0 ≤ o := by omega
    by_cases hs : s < 1
    · go_enter Try.func3, Try.ntmps3
      go_wp2_with fail
      refine (zz_step o s _ ho' hs).mono ?_
      rintro e w1 ⟨rfl, hb1⟩
      go_wp2_with fail
      refine (zz_ok o 1 _ ho' (by omega)).mono ?_
      rintro e w2 ⟨rfl, hb2⟩
      go_wp2_with fail
      refine (zz_step 0 s _ (Int.le_refl 0) hs).mono ?_
      rintro e w3 ⟨rfl, hb3⟩
      have hb := chain3 hb1 hb2 hb3
      clear hb1 hb2 hb3
      try unfold offName
      try unfold offWant
      try unfold stepName
      try unfold stepWant
      go_wp2_with fail
      go_ret
      exact ⟨rfl, hb⟩
    · go_enter Try.func3, Try.ntmps3
      go_wp2_with fail
      refine (zz_ok o s _ ho' (by omega)).mono ?_
      rintro e w1 ⟨rfl, hb1⟩
      go_wp2_with fail
      refine (zz_ok o 1 _ ho' (by omega)).mono ?_
      rintro e w2 ⟨rfl, hb2⟩
      go_wp2_with fail
      refine (zz_ok 0 s _ (Int.le_refl 0) (by omega)).mono ?_
      rintro e w3 ⟨rfl, hb3⟩
      have hb := chain3 hb1 hb2 hb3
      clear hb1 hb2 hb3
      try unfold offName
      try unfold offWant
      try unfold stepName
      try unfold stepWant
      go_wp2_with fail
      go_ret
      exact ⟨rfl, hb⟩

theorem own : ownKnob Try.prog.godebug = none := by kernel_rfl

set_option maxRecDepth 100000 in
theorem lifted (os : Os) (started : os.Started) (H : Type) (enc : TypeId × Value → H) :
    ReturnsInHanded {} Try.checked os 3 .any (Rows.fnValidateJudgesOffsetFirstThenStepSpec.pre6 enc Try.prog Try.f3 Rows.fnValidateJudgesOffsetFirstThenStepRow.domain false) (Rows.fnValidateJudgesOffsetFirstThenStepSpec.post enc Try.prog Try.f3 false true false false) := by
  refine returnsInHanded_of_change (C := Try.checked) own started (by kernel_rfl) Try.func3
    (ChangeSpec.witness6 (enc := enc) (C := Try.checked) false ⟨#[], #[.int .i64 0, .int .i64 0], []⟩ 8 (by kernel_rfl) (by kernel_rfl) (by kernel_rfl) (by kernel_rfl)) ?_
  intro W base args ds gs before hval0 hW hcnd _
  have hval : ∀ (j : Nat) t v, Try.f3.params[j]? = some t → args[j]? = some v → Value.okWide Try.prog W .any base t v := hval0
  have hW' := hW
  obtain ⟨p, q, hA0, hV, rfl, hfz, hnd⟩ := hW
  have hA : DataW.TrodAll enc Try.prog W 0 (fun _ => true) true Try.f3.params.toList args.toList ds p := hA0
  rw [Try.params3] at hA hval
  obtain ⟨v0, vs0, d0, ds0, p0, q0, hargs, rfl, rfl, h0, r0⟩ := trodAll_cons hA
  obtain ⟨v1, vs1, d1, ds1, p1, q1, rfl, rfl, rfl, h1, r1⟩ := trodAll_cons r0
  obtain ⟨rfl, rfl, rfl⟩ := trodAll_nil r1
  obtain rfl : args = #[v0, v1] := by cases args; simp_all
  obtain ⟨rfl, rfl⟩ := trodVars_none hV
  obtain ⟨a0, rfl, rfl, rfl, w0⟩ := open_int Try.underlying3 (hval 0 3 v0 rfl rfl) h0
  obtain ⟨a1, rfl, rfl, rfl, w1⟩ := open_int Try.underlying3 (hval 1 3 v1 rfl rfl) h1
  clear hA0 hval0
  refine (walk a0 a1 W).mono fun e W' ⟨he, bel⟩ => ?_
  subst he
  exact ⟨_, rfl, _, _, _, [], _, [], hW', trodAll_mk1 (shut_bool Try.underlying4 _), (trodAll_cons_mk (shut_int Try.underlying3 w0) (trodAll_cons_mk (shut_int Try.underlying3 w1) trodAll_mk0)), rfl, bel.frame _, fun h => by cases h⟩

theorem over : Rows.fnValidateJudgesOffsetFirstThenStepRow.holds Try.pinned (OpenSpec.ofChange Rows.fnValidateJudgesOffsetFirstThenStepSpec) :=
  OpenClaim.holds_of_wide 3 Try.f3 rfl rfl rfl rfl rfl rfl rfl ⟨rfl, rfl, rfl, rfl, rfl⟩ rfl rfl rfl rfl rfl (by kernel_rfl) Try.func3 (by kernel_rfl)
    (of_decide_eq_true (by kernel_rfl)) (by unfold Func.isWrapper; first | (rw [if_pos (by decide +kernel)]; kernel_rfl) | (rw [if_neg (by decide +kernel)]; exact ⟨rfl, rfl⟩))
    (fun os started H enc _ => lifted os started H enc)

theorem fnValidateJudgesOffsetFirstThenStep_proved : Rows.FnValidateJudgesOffsetFirstThenStepSaid := over
end Go.Proofs.Qxb6628296a
