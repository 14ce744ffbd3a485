import Derived.Test.Qxb6628330aPlain
import Derived.Test.Qxb6628330aBytes2
namespace Go.Proofs.Qxb6628330a
open Go.RowKit

theorem join_left {L M : List Ot} {id : ByteArray} (h : hasF id L = true) : optF id (L ++ M) = optF id L := by rw [optF_append, if_pos h]
theorem join_right {L M : List Ot} {id : ByteArray} (h : hasF id L = false) : optF id (L ++ M) = optF id M := by rw [optF_append, if_neg (by rw [h]; simp)]

set_option maxRecDepth 100000 in
set_option maxHeartbeats 4000000 in
theorem law2 (a b : Option Addr) (ca cb : Nat) (L M : List Ot) (id : ByteArray) (w : World) (hL : OtsAt w a L) (hnila : a = none → L = [] ∧ ca = 0) (hM : OtsAt w b M) (hnilb : b = none → M = [] ∧ cb = 0) :
    Calls Try.prog 4 #[.slice a L.length ca, .slice b M.length cb, .string id] w fun e w' => e = .returned (.bool true) ∧ Below w.heap.size w w' := by
  obtain ⟨i0, hi, hz0, hz1, hz2⟩ := info_parts Try.info50
  go_enter Try.func4, Try.ntmps4
  go_wp2_with fail
  refine (bytes2_any a b ca cb L M id _ hL hM).mono ?_
  rintro e w1 ⟨⟨b1, rfl⟩, rfl⟩
  cases b1
  · go_wp2
    go_ret
    exact ⟨rfl, Below.refl _ _⟩
  by_cases hal : 65536 < L.length
  · go_wp2
    go_ret
    exact ⟨rfl, Below.refl _ _⟩
  have hal' : L.length ≤ 65536 := by omega
  clear hal
  by_cases hbl : 65536 < M.length
  · go_wp2
    go_ret
    exact ⟨rfl, Below.refl _ _⟩
  have hbl' : M.length ≤ 65536 := by omega
  clear hbl
  by_cases hil : 1048576 < id.size
  · go_wp2
    go_ret
    exact ⟨rfl, Below.refl _ _⟩
  have hil' : (id.size : Int) ≤ 1048576 := by omega
  clear hil
  go_wp2_with fail
  refine (addLen_any _ _ _).mono ?_
  rintro e w1' ⟨⟨m1, rfl⟩, rfl⟩
  go_wp2_with fail
  refine (optsBytes_any _ a ca L _ hL hal').mono ?_
  rintro e w2 ⟨⟨m2, rfl⟩, B2⟩
  have L2 := hL.keep B2
  have M2 := hM.keep B2
  clear hL hM
  by_cases hm2 : 1048576 < m2
  · go_wp2
    go_ret
    exact ⟨rfl, B2⟩
  go_wp2_with fail
  refine (optsBytes_any _ b cb M _ M2 hbl').mono ?_
  rintro e w3 ⟨⟨m3, rfl⟩, hb3⟩
  have B3 := B2.trans (hb3.mono B2.size)
  have L3 := L2.keep hb3
  have M3 := M2.keep hb3
  clear B2 L2 M2 hb3 hm2
  by_cases hm3 : 1048576 < m3
  · go_wp2
    go_ret
    exact ⟨rfl, B3⟩
  go_wp2_with fail
  refine (toOptions_any a ca L _ L3 hnila hal').mono ?_
  rintro e w4 ⟨a4, c4, rfl, hO4, hb4⟩
  have B4 := B3.trans (hb4.mono B3.size)
  have L4 := L3.keep hb4
  have M4 := M3.keep hb4
  clear B3 L3 M3 hb4 hm3
  go_wp2_with fail
  refine (toOptions_any b cb M _ ?_ hnilb hbl').mono ?_
  · exact M4.alloc _
  rintro e w5 ⟨a5, c5, rfl, hO5, hb5⟩
  obtain ⟨hSa, b5⟩ := sess_later (a4 := a4) (n := L.length) (c4 := c4) hb5 (by simp) hO4 rfl
  have B5 := B4.trans (b5.mono B4.size)
  have L5 := L4.keep b5
  have M5 := M4.keep b5
  clear B4 L4 M4 hb5 b5 hO4
  generalize w4.heap.size = SA at *
  go_wp2_with (at_make; refine wpList_make_own _ rfl (.const (.int .i64 0)) (.tmp 60) 30 rfl (w5.heap.size + 1) 50 i0 _ 6 Try.underlying30 hi hz0 hz1 .i64 .i64 _ (L.length + M.length) rfl rfl (by omega) (by rw [hz2]; omega) (by unfold maxLen; omega) (by simp) ?_)
  intro w6 hown6 hgrow6
  obtain ⟨wS, sS, hSb, bS, bS6⟩ := sess_made (a4 := a5) (c4 := c5) hgrow6 (by simp) hO5
  have BS := B5.trans (bS.mono B5.size)
  have hSa' := hSa.keep bS
  have LS := L5.keep bS
  have MS := M5.keep bS
  have hB6 : Built w6 wS.heap.size 0 (L.length + M.length) (L.take 0) := ⟨by rw [sS]; exact hown6, rfl⟩
  clear hgrow6 hown6 bS B5 L5 M5 hO5 hSa
  rw [← sS]
  clear sS
  generalize w5.heap.size = SB at *
  go_wp2_with fail
  go_loopw [10, 11] (fun v j wr => ∃ m : Nat, m ≤ L.length ∧ j = .int .i64 m ∧ v = .slice (some ⟨wS.heap.size, 0, none⟩) m (L.length + M.length) ∧ Built wr wS.heap.size m (L.length + M.length) (L.take m) ∧ Below wS.heap.size wS wr) (fun _ j _ => L.length - (intOf j).toNat)
  case atStart => exact ⟨0, Nat.zero_le _, rfl, rfl, hB6, bS6⟩
  case round =>
    clear hB6 bS6
    obtain ⟨m, hm, rfl, rfl, hB, hnx⟩ := hrel
    by_cases hlt : m < L.length
    · have HT : Hid (L.take (m + 1) = L.take m ++ [L[m]]) := List.take_succ_eq_append_getElem hlt
      obtain ⟨b', o, rfl, hrq⟩ := LS m L[m] (by simp)
      have HL : Hid (m = (L.take m).length) := by rw [Hid]; simp; omega
      generalize L[m] = r at *
      generalize L.take m = T at *
      obtain ⟨ri, rt, ru, rd, rc, rn⟩ := r
      obtain ⟨h0, h1, h2, h3, h4, h5⟩ := hrq.keep hnx
      simp only at h0 h1 h2 h3 h4 h5
      have hlt' : (m : Int) < (L.length : Int) := by omega
      go_wp2_with fail
      refine (toOption_any ri rt ru rd rc rn _).mono ?_
      rintro e w7 ⟨rfl, hb7⟩
      have hB7 := hB.keep hb7
      have b7 : Below wS.heap.size wS w7 := hnx.trans (hb7.mono hnx.size)
      have hs7 : wS.heap.size ≤ w7.heap.size := b7.size
      clear hB hb7 hnx h0 h1 h2 h3 h4 h5 hrq LS MS
      go_wp2_with (at_builtin; refine wpList_append_fits _ rfl (.tmp 68) (.tmp 74) 30 rfl wS.heap.size 50 i0 6 Try.underlying30 hi hz1 wS.heap.size m (L.length + M.length) (cellsOf T) rfl (hB7.own.alloc _) ⟨w7.heap.size, 0, none⟩ 1 1 [.string ri, .string rt, .string ru, .string rd, .string rc, .int .i64 rn] rfl rfl (cell_six_new _ _ _ _ _ _ _ _) (six_oneCell _ _ _ _ _ _) (by omega) ?_)
      intro w8 hown8 hgrow8
      have hB8 : Built w8 wS.heap.size (m + 1) (L.length + M.length) (T ++ [⟨ri, rt, ru, rd, rc, rn⟩]) := Built.snoc hown8 HL.out
      have b8 : Below wS.heap.size wS w8 := (b7.alloc hs7 _).grown hgrow8 (by simp; omega) (by intro q e; cases e; exact Nat.le_refl _)
      clear hown8 hgrow8 hB7 b7
      go_wp2_with fail
      go_roundw
      case rel => exact ⟨m + 1, by omega, by go_num, rfl, by rw [HT.out]; exact hB8, b8⟩
      case measure => simp [intOf]; omega
    · have hml : m = L.length := by omega
      subst hml
      have hB0 : Built wr wS.heap.size (L.length + 0) (L.length + M.length) (L ++ M.take 0) := by simpa using hB
      clear hB hlt hm
      obtain ⟨w9, rfl⟩ : ∃ w9 : World, w9 = wr := ⟨_, rfl⟩
      go_wp2_with fail
      go_loopw [10, 12] (fun v j wr => ∃ m : Nat, m ≤ M.length ∧ j = .int .i64 m ∧ v = .slice (some ⟨wS.heap.size, 0, none⟩) (L.length + m) (L.length + M.length) ∧ Built wr wS.heap.size (L.length + m) (L.length + M.length) (L ++ M.take m) ∧ Below wS.heap.size wS wr) (fun _ j _ => M.length - (intOf j).toNat)
      case atStart => exact ⟨0, Nat.zero_le _, rfl, rfl, hB0, hnx⟩
      case round =>
        clear hB0 hnx
        obtain ⟨m, hm, rfl, rfl, hB, hnx⟩ := hrel
        by_cases hlt : m < M.length
        · have HT : Hid (L ++ M.take (m + 1) = (L ++ M.take m) ++ [M[m]]) := by rw [Hid, List.take_succ_eq_append_getElem hlt, List.append_assoc]
          have HL : Hid (L.length + m = (L ++ M.take m).length) := by rw [Hid]; simp; omega
          obtain ⟨b', o, rfl, hrq⟩ := MS m M[m] (by simp)
          generalize M[m] = r at *
          generalize L ++ M.take m = T at *
          obtain ⟨ri, rt, ru, rd, rc, rn⟩ := r
          obtain ⟨h0, h1, h2, h3, h4, h5⟩ := hrq.keep hnx
          simp only at h0 h1 h2 h3 h4 h5
          have hlt' : (m : Int) < (M.length : Int) := by omega
          go_wp2_with fail
          refine (toOption_any ri rt ru rd rc rn _).mono ?_
          rintro e w7 ⟨rfl, hb7⟩
          have hB7 := hB.keep hb7
          have b7 : Below wS.heap.size wS w7 := hnx.trans (hb7.mono hnx.size)
          have hs7 : wS.heap.size ≤ w7.heap.size := b7.size
          clear hB hb7 hnx h0 h1 h2 h3 h4 h5 hrq LS MS
          go_wp2_with (at_builtin; refine wpList_append_fits _ rfl (.tmp 82) (.tmp 88) 30 rfl wS.heap.size 50 i0 6 Try.underlying30 hi hz1 wS.heap.size (L.length + m) (L.length + M.length) (cellsOf T) rfl (hB7.own.alloc _) ⟨w7.heap.size, 0, none⟩ 1 1 [.string ri, .string rt, .string ru, .string rd, .string rc, .int .i64 rn] rfl rfl (cell_six_new _ _ _ _ _ _ _ _) (six_oneCell _ _ _ _ _ _) (by omega) ?_)
          intro w8 hown8 hgrow8
          have hB8 : Built w8 wS.heap.size (L.length + m + 1) (L.length + M.length) (T ++ [⟨ri, rt, ru, rd, rc, rn⟩]) := Built.snoc hown8 HL.out
          have b8 : Below wS.heap.size wS w8 := (b7.alloc hs7 _).grown hgrow8 (by simp; omega) (by intro q e; cases e; exact Nat.le_refl _)
          clear hown8 hgrow8 hB7 b7
          go_wp2_with fail
          go_roundw
          case rel => exact ⟨m + 1, by omega, by go_num, rfl, by rw [HT.out]; exact hB8, b8⟩
          case measure => simp [intOf]; omega
        · have hml : m = M.length := by omega
          subst hml
          have hN : OtsAt wr (some ⟨wS.heap.size, 0, none⟩) (L ++ M) := by have := hB.ots; rwa [List.take_length] at this
          have hNl : Hid ((L ++ M).length = L.length + M.length) := by rw [Hid]; simp
          have ha := hSa'.keep hnx
          have hb := hSb.keep hnx
          have hLr := LS.keep hnx
          have hMr := MS.keep hnx
          have Br : Below w1'.heap.size w1' wr := BS.trans (hnx.mono BS.size)
          have J1 : Hid _ := @join_left L M id
          have J2 : Hid _ := @join_right L M id
          have HTL : Hid ((L.take L.length) = L) := List.take_length
          have HTM : Hid ((M.take M.length) = M) := List.take_length
          clear hSa' hSb LS MS hnx BS hB hlt hm
          generalize L ++ M = N at *
          obtain ⟨w11, rfl⟩ : ∃ w11 : World, w11 = wr := ⟨_, rfl⟩
          rcases hh : hasF id L with _ | _
          · have HA : Hid (optF id L = (zeroOt, false)) := optF_none hh
            have HHa : Hid (hasF id (L.take L.length) = false) := by rw [Hid, HTL.out]; exact hh
            rcases hg : hasF id M with _ | _
            · have HB : Hid (optF id M = (zeroOt, false)) := optF_none hg
              have HHb : Hid (hasF id (M.take M.length) = false) := by rw [Hid, HTM.out]; exact hg
              have HN : Hid (optF id N = (zeroOt, false)) := (J2.out hh).trans HB.out
              clear hh hg
              clear J1 J2
              go_wp2_with fail
              refine (option_zero SA L id _ ?_ (by omega) HA.out).mono ?_
              · exact ha.alloc _
              rintro e w12 ⟨rfl, hb12⟩
              obtain ⟨hj, b12⟩ := sess_later (a4 := some ⟨wS.heap.size, 0, none⟩) (n := L.length + M.length) (c4 := L.length + M.length) hb12 (by simp) hN hNl.out
              have hb2 := hb.keep b12
              have hL2 := hLr.keep b12
              have hM2 := hMr.keep b12
              have B12 := Br.trans (b12.mono Br.size)
              clear hb12 b12 ha hb hLr hMr Br hN
              generalize w11.heap.size = SJ at *
              go_wp2_with fail
              refine (option_zero SB M id _ ?_ (by omega) HB.out).mono ?_
              · exact hb2.alloc _
              rintro e w13 ⟨rfl, hb13⟩
              obtain ⟨ra, b13⟩ := ot_later0 hb13
              have hj3 := hj.keep b13
              have hL3 := hL2.keep b13
              have hM3 := hM2.keep b13
              have B13 := B12.trans (b13.mono B12.size)
              clear hb13 b13 hb2 hj hL2 hM2 B12
              generalize w12.heap.size = RA at *
              go_wp2_with fail
              refine (option_zero SJ N id _ ?_ (by rw [hNl.out]; omega) HN.out).mono ?_
              · exact hj3.alloc _
              rintro e w14 ⟨rfl, hb14⟩
              obtain ⟨rb, b14⟩ := ot_later0 hb14
              have ra4 := ra.keep b14
              have hL4 := hL3.keep b14
              have hM4 := hM3.keep b14
              have B14 := B13.trans (b14.mono B13.size)
              have lA : RA < w14.heap.size := World.block_lt_of_cell? w14 _ ra4.1
              have lB : w13.heap.size < w14.heap.size := World.block_lt_of_cell? w14 _ rb.1
              have hl1 := B14.size
              clear hb14 b14 ra hj3 hL3 hM3 B13
              generalize w13.heap.size = RB at *
              obtain ⟨y0, y1, y2, y3, y4, y5⟩ := ra4.zero
              obtain ⟨o0, o1, o2, o3, o4, o5⟩ := rb.zero
              simp only at y0 y1 y2 y3 y4 y5 o0 o1 o2 o3 o4 o5
              go_wp2_with fail
              refine (hasID_any a ca L.length L id _ false ?_ hal' (Nat.le_refl _) HHa.out).mono ?_
              · exact (hL4.alloc _).alloc _
              rintro e w15 ⟨rfl, rfl⟩
              go_wp2_with fail
              refine (hasID_any b cb M.length M id _ false ?_ hbl' (Nat.le_refl _) HHb.out).mono ?_
              · exact (hM4.alloc _).alloc _
              rintro e w16 ⟨rfl, rfl⟩
              go_wp2_with fail
              go_ret
              exact ⟨rfl, (B14.alloc (by omega) _).alloc (by simp; omega) _⟩
            · obtain ⟨q, hoq, hiq⟩ := optF_some hg
              obtain ⟨qi, qt, qu, qd, qc, qn⟩ := q
              have HB : Hid (optF id M = (⟨qi, qt, qu, qd, qc, qn⟩, true)) := hoq
              have HHb : Hid (hasF id (M.take M.length) = true) := by rw [Hid, HTM.out]; exact hg
              have HN : Hid (optF id N = (⟨qi, qt, qu, qd, qc, qn⟩, true)) := (J2.out hh).trans HB.out
              have hqid : (qi.toList == id.toList) = true := hiq
              clear hh hg hoq hiq
              clear J1 J2
              go_wp2_with fail
              refine (option_zero SA L id _ ?_ (by omega) HA.out).mono ?_
              · exact ha.alloc _
              rintro e w12 ⟨rfl, hb12⟩
              obtain ⟨hj, b12⟩ := sess_later (a4 := some ⟨wS.heap.size, 0, none⟩) (n := L.length + M.length) (c4 := L.length + M.length) hb12 (by simp) hN hNl.out
              have hb2 := hb.keep b12
              have hL2 := hLr.keep b12
              have hM2 := hMr.keep b12
              have B12 := Br.trans (b12.mono Br.size)
              clear hb12 b12 ha hb hLr hMr Br hN
              generalize w11.heap.size = SJ at *
              go_wp2_with fail
              refine (option_any SB M id _ ⟨qi, qt, qu, qd, qc, qn⟩ true ?_ (by omega) HB.out).mono ?_
              · exact hb2.alloc _
              rintro e w13 ⟨rfl, hb13⟩
              obtain ⟨ra, b13⟩ := ot_later0 hb13
              have hj3 := hj.keep b13
              have hL3 := hL2.keep b13
              have hM3 := hM2.keep b13
              have B13 := B12.trans (b13.mono B12.size)
              clear hb13 b13 hb2 hj hL2 hM2 B12
              generalize w12.heap.size = RA at *
              go_wp2_with fail
              refine (option_any SJ N id _ ⟨qi, qt, qu, qd, qc, qn⟩ true ?_ (by rw [hNl.out]; omega) HN.out).mono ?_
              · exact hj3.alloc _
              rintro e w14 ⟨rfl, hb14⟩
              obtain ⟨rb, b14⟩ := ot_later (r := ⟨qi, qt, qu, qd, qc, qn⟩) hb14
              have ra4 := ra.keep b14
              have hL4 := hL3.keep b14
              have hM4 := hM3.keep b14
              have B14 := B13.trans (b14.mono B13.size)
              have lA : RA < w14.heap.size := World.block_lt_of_cell? w14 _ ra4.1
              have lB : w13.heap.size < w14.heap.size := World.block_lt_of_cell? w14 _ rb.1
              have hl1 := B14.size
              clear hb14 b14 ra hj3 hL3 hM3 B13
              generalize w13.heap.size = RB at *
              obtain ⟨y0, y1, y2, y3, y4, y5⟩ := ra4.zero
              obtain ⟨o0, o1, o2, o3, o4, o5⟩ := rb.zero
              simp only at y0 y1 y2 y3 y4 y5 o0 o1 o2 o3 o4 o5
              go_wp2_with fail
              refine (hasID_any a ca L.length L id _ false ?_ hal' (Nat.le_refl _) HHa.out).mono ?_
              · exact (hL4.alloc _).alloc _
              rintro e w15 ⟨rfl, rfl⟩
              go_wp2_with fail
              refine (hasID_any b cb M.length M id _ true ?_ hbl' (Nat.le_refl _) HHb.out).mono ?_
              · exact (hM4.alloc _).alloc _
              rintro e w16 ⟨rfl, rfl⟩
              go_wp2_with fail
              go_ret
              exact ⟨rfl, (B14.alloc (by omega) _).alloc (by simp; omega) _⟩
          · obtain ⟨r, hor, hir⟩ := optF_some hh
            obtain ⟨ri, rt, ru, rd, rc, rn⟩ := r
            have HA : Hid (optF id L = (⟨ri, rt, ru, rd, rc, rn⟩, true)) := hor
            have HHa : Hid (hasF id (L.take L.length) = true) := by rw [Hid, HTL.out]; exact hh
            have HN : Hid (optF id N = (⟨ri, rt, ru, rd, rc, rn⟩, true)) := (J1.out hh).trans HA.out
            have hrid : (ri.toList == id.toList) = true := hir
            obtain ⟨q, okq, hoq⟩ : ∃ q okq, optF id M = (q, okq) := ⟨_, _, rfl⟩
            obtain ⟨qi, qt, qu, qd, qc, qn⟩ := q
            have HB : Hid (optF id M = (⟨qi, qt, qu, qd, qc, qn⟩, okq)) := hoq
            clear hh hor hir hoq
            clear J1 J2
            go_wp2_with fail
            refine (option_any SA L id _ ⟨ri, rt, ru, rd, rc, rn⟩ true ?_ (by omega) HA.out).mono ?_
            · exact ha.alloc _
            rintro e w12 ⟨rfl, hb12⟩
            obtain ⟨hj, b12⟩ := sess_later (a4 := some ⟨wS.heap.size, 0, none⟩) (n := L.length + M.length) (c4 := L.length + M.length) hb12 (by simp) hN hNl.out
            have hb2 := hb.keep b12
            have hL2 := hLr.keep b12
            have hM2 := hMr.keep b12
            have B12 := Br.trans (b12.mono Br.size)
            clear hb12 b12 ha hb hLr hMr Br hN
            generalize w11.heap.size = SJ at *
            go_wp2_with fail
            refine (option_any SB M id _ ⟨qi, qt, qu, qd, qc, qn⟩ okq ?_ (by omega) HB.out).mono ?_
            · exact hb2.alloc _
            rintro e w13 ⟨rfl, hb13⟩
            obtain ⟨ra, b13⟩ := ot_later (r := ⟨ri, rt, ru, rd, rc, rn⟩) hb13
            have hj3 := hj.keep b13
            have hL3 := hL2.keep b13
            have hM3 := hM2.keep b13
            have B13 := B12.trans (b13.mono B12.size)
            clear hb13 b13 hb2 hj hL2 hM2 B12
            generalize w12.heap.size = RA at *
            go_wp2_with fail
            refine (option_any SJ N id _ ⟨ri, rt, ru, rd, rc, rn⟩ true ?_ (by rw [hNl.out]; omega) HN.out).mono ?_
            · exact hj3.alloc _
            rintro e w14 ⟨rfl, hb14⟩
            obtain ⟨rb, b14⟩ := ot_later (r := ⟨qi, qt, qu, qd, qc, qn⟩) hb14
            have ra4 := ra.keep b14
            have hL4 := hL3.keep b14
            have hM4 := hM3.keep b14
            have B14 := B13.trans (b14.mono B13.size)
            have lA : RA < w14.heap.size := World.block_lt_of_cell? w14 _ ra4.1
            have lB : w13.heap.size < w14.heap.size := World.block_lt_of_cell? w14 _ rb.1
            have hl1 := B14.size
            clear hb14 b14 ra hj3 hL3 hM3 B13
            generalize w13.heap.size = RB at *
            obtain ⟨y0, y1, y2, y3, y4, y5⟩ := ra4.zero
            obtain ⟨o0, o1, o2, o3, o4, o5⟩ := rb.zero
            simp only at y0 y1 y2 y3 y4 y5 o0 o1 o2 o3 o4 o5
            go_wp2_with fail
            refine (hasID_any a ca L.length L id _ true ?_ hal' (Nat.le_refl _) HHa.out).mono ?_
            · exact (hL4.alloc _).alloc _
            rintro e w15 ⟨rfl, rfl⟩
            go_wp2_with fail
            go_ret
            exact ⟨rfl, (B14.alloc (by omega) _).alloc (by simp; omega) _⟩
end Go.Proofs.Qxb6628330a
