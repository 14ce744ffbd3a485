import Derived.Test.Qxb6628303aOpen
import Derived.Test.Qxb6628303aLaw2
namespace Go.Proofs.Qxb6628303a
open Go.ChangeShapes Go.WideShapes Go.ChangeAt Go.RowKit

set_option maxRecDepth 100000 in
theorem lifted2 (os : Os) (started : os.Started) (H : Type) (enc : TypeId × Value → H) :
    ReturnsInHanded {} Try.checked os 4 .any (Rows.fnDrawJoinedAtAnyCutSpec.pre6 enc Try.prog Try.f4 Rows.fnDrawJoinedAtAnyCutRow.domain false) (Rows.fnDrawJoinedAtAnyCutSpec.post enc Try.prog Try.f4 false true false false) := by
  refine returnsInHanded_of_change (C := Try.checked) own started (by kernel_rfl) Try.func4
    (ChangeSpec.witness6 (enc := enc) (C := Try.checked) false ⟨#[], #[.slice none 0 0, .slice none 0 0, .slice none 0 0], []⟩ 8 (by kernel_rfl) (by kernel_rfl) (by kernel_rfl) (by kernel_rfl)) ?_
  intro W base args ds gs before hval0 hW hcnd _
  have hval : ∀ (j : Nat) t v, Try.f4.params[j]? = some t → args[j]? = some v → Value.okWide Try.prog W .any base t v := hval0
  have hW' := hW
  obtain ⟨p, q, hA0, hV, rfl, hfz, hnd⟩ := hW
  have hA : DataW.TrodAll enc Try.prog W 0 (fun _ => true) true Try.f4.params.toList args.toList ds p := hA0
  rw [Try.params4] at hA hval
  obtain ⟨v0, vs0, d0, ds0, p0, q0, hargs, rfl, rfl, h0, r0⟩ := trodAll_cons hA
  obtain ⟨v1, vs1, d1, ds1, p1, q1, rfl, rfl, rfl, h1, r1⟩ := trodAll_cons r0
  obtain ⟨v2, vs2, d2, ds2, p2, q2, rfl, rfl, rfl, h2, r2⟩ := trodAll_cons r1
  obtain ⟨rfl, rfl, rfl⟩ := trodAll_nil r2
  obtain rfl : args = #[v0, v1, v2] := by cases args; simp_all
  obtain ⟨rfl, rfl⟩ := trodVars_none hV
  obtain ⟨a0, len0, cap0, rfl⟩ := okWide_slice Try.underlying22 (hval 0 22 v0 rfl rfl)
  have k0 := h0
  have lt0 : ∀ x ∈ p0, x.block < W.heap.size := by obtain ⟨m, hm⟩ := k0; exact DataW.trod_lt m _ _ _ hm
  obtain ⟨z0, rfl, i0, n0, f0⟩ := (by obtain ⟨fuel, hf⟩ := h0; exact open_row Try.underlying22 Try.underlying5 Try.cells5 hf : ∃ zs : List Int, zs.length = len0 ∧ IntsIn W.heap.size .u8 W a0 zs ∧ (a0 = none → zs = [] ∧ cap0 = 0) ∧ ∀ z ∈ zs, (Lit.int .u8 z).wf = true)
  obtain ⟨a1, len1, cap1, rfl⟩ := okWide_slice Try.underlying22 (hval 1 22 v1 rfl rfl)
  have k1 := h1
  have lt1 : ∀ x ∈ p1, x.block < W.heap.size := by obtain ⟨m, hm⟩ := k1; exact DataW.trod_lt m _ _ _ hm
  obtain ⟨z1, rfl, i1, n1, f1⟩ := (by obtain ⟨fuel, hf⟩ := h1; exact open_row Try.underlying22 Try.underlying5 Try.cells5 hf : ∃ zs : List Int, zs.length = len1 ∧ IntsIn W.heap.size .u8 W a1 zs ∧ (a1 = none → zs = [] ∧ cap1 = 0) ∧ ∀ z ∈ zs, (Lit.int .u8 z).wf = true)
  obtain ⟨a2, len2, cap2, rfl⟩ := okWide_slice Try.underlying23 (hval 2 23 v2 rfl rfl)
  have k2 := h2
  have lt2 : ∀ x ∈ p2, x.block < W.heap.size := by obtain ⟨m, hm⟩ := k2; exact DataW.trod_lt m _ _ _ hm
  obtain ⟨z2, rfl, i2, n2, f2⟩ := (by obtain ⟨fuel, hf⟩ := h2; exact open_row Try.underlying23 Try.underlying3 Try.cells3 hf : ∃ zs : List Int, zs.length = len2 ∧ IntsIn W.heap.size .i64 W a2 zs ∧ (a2 = none → zs = [] ∧ cap2 = 0) ∧ ∀ z ∈ zs, (Lit.int .i64 z).wf = true)
  clear hA0 hval0
  refine (law2 a0 a1 a2 cap0 cap1 cap2 z0 z1 z2 W i0 (fun z hz => byte_of_wf (f0 z hz)) n0 i1 (fun z hz => byte_of_wf (f1 z hz)) n1 i2).mono fun e W' ⟨he, bel⟩ => ?_
  subst he
  exact ⟨_, rfl, _, _, _, [], _, [], hW', trodAll_mk1 (shut_bool Try.underlying4 _), (trodAll_cons_mk (Below.trod laidOut (by kernel_rfl) (of_decide_eq_true (by kernel_rfl)) k0 bel lt0) (trodAll_cons_mk (Below.trod laidOut (by kernel_rfl) (of_decide_eq_true (by kernel_rfl)) k1 bel lt1) (trodAll_cons_mk (Below.trod laidOut (by kernel_rfl) (of_decide_eq_true (by kernel_rfl)) k2 bel lt2) trodAll_mk0))), rfl, bel.frame _, fun h => by cases h⟩

theorem over2 : Rows.fnDrawJoinedAtAnyCutRow.holds Try.pinned (OpenSpec.ofChange Rows.fnDrawJoinedAtAnyCutSpec) :=
  OpenClaim.holds_of_wide 4 Try.f4 rfl rfl rfl rfl rfl rfl rfl ⟨rfl, rfl, rfl, rfl, rfl⟩ rfl rfl rfl rfl rfl (by kernel_rfl) Try.func4 (by kernel_rfl)
    (of_decide_eq_true (by kernel_rfl)) (by unfold Func.isWrapper; first | (rw [if_pos (by decide +kernel)]; kernel_rfl) | (rw [if_neg (by decide +kernel)]; exact ⟨rfl, rfl⟩))
    (fun os started H enc _ => lifted2 os started H enc)

theorem fnDrawJoinedAtAnyCut_proved : Rows.FnDrawJoinedAtAnyCutSaid := over2
end Go.Proofs.Qxb6628303a
