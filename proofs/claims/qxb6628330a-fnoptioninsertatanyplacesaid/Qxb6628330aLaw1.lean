import Derived.Test.Qxb6628330aPlain
import Derived.Test.Qxb6628330aBytes
namespace Go.Proofs.Qxb6628330a
open Go.RowKit

set_option maxRecDepth 100000 in
set_option maxHeartbeats 4000000 in
theorem law1 (a : Option Addr) (cap : Nat) (L : List Ot) (i ty u d c : ByteArray) (n k0 : Int) (id : ByteArray) (w : World) (hL : OtsAt w a L) (hnil : a = none → L = [] ∧ cap = 0) :
    Calls Try.prog 3 #[.slice a L.length cap, .agg #[.string i, .string ty, .string u, .string d, .string c, .int .i64 n], .int .i64 k0, .string id] w fun e w' => e = .returned (.bool true) ∧ Below w.heap.size w w' := by
  obtain ⟨i0, hi, hz0, hz1, hz2⟩ := info_parts Try.info50
  have hb0 : Below w.heap.size w (w.alloc (.cells #[.string i, .string ty, .string u, .string d, .string c, .int .i64 n] 24)) := (Below.refl _ _).alloc (Nat.le_refl _) _
  have hX0 : HasOt (w.alloc (.cells #[.string i, .string ty, .string u, .string d, .string c, .int .i64 n] 24)) w.heap.size 0 ⟨i, ty, u, d, c, n⟩ := by
    refine ⟨?_, ?_, ?_, ?_, ?_, ?_⟩ <;> simp
  have hL0 := hL.keep hb0
  clear hL
  go_enter Try.func3, Try.ntmps3
  go_wp2_with fail
  refine (bytes1_any a cap L i ty u d c n k0 id _ hL0).mono ?_
  rintro e w1 ⟨⟨b1, rfl⟩, hb1⟩
  have B1 : Below w.heap.size w w1 := hb0.trans (hb1.mono (by simp))
  have X1 := hX0.keep hb1
  have L1 := hL0.keep hb1
  clear hb0 hX0 hL0 hb1
  cases b1
  · go_wp2
    go_ret
    exact ⟨rfl, B1⟩
  by_cases hal : 65536 < L.length
  · go_wp2
    go_ret
    exact ⟨rfl, B1⟩
  have hal' : L.length ≤ 65536 := by omega
  clear hal
  by_cases hil : 1048576 < id.size
  · go_wp2
    go_ret
    exact ⟨rfl, B1⟩
  have hil' : (id.size : Int) ≤ 1048576 := by omega
  clear hil
  go_wp2_with fail
  refine (addLen_any _ _ _).mono ?_
  rintro e w1' ⟨⟨m1, rfl⟩, rfl⟩
  obtain ⟨x0, x1, x2, x3, x4, x5⟩ := X1.zero
  simp only at x0 x1 x2 x3 x4 x5
  go_wp2_with fail
  refine (optBytes_any _ _ _ _ _ _ _ _).mono ?_
  rintro e w2 ⟨⟨m2, rfl⟩, hb2⟩
  have B2 : Below w.heap.size w w2 := B1.trans (hb2.mono B1.size)
  have X2 := X1.keep hb2
  have L2 := L1.keep hb2
  clear B1 X1 L1 hb2 x0 x1 x2 x3 x4 x5
  by_cases hm2 : 1048576 < m2
  · go_wp2
    go_ret
    exact ⟨rfl, B2⟩
  go_wp2_with fail
  refine (optsBytes_any _ a cap L _ L2 hal').mono ?_
  rintro e w3 ⟨⟨m3, rfl⟩, hb3⟩
  have B3 : Below w.heap.size w w3 := B2.trans (hb3.mono B2.size)
  have X3 := X2.keep hb3
  have L3 := L2.keep hb3
  clear B2 X2 L2 hb3 hm2
  by_cases hm3 : 1048576 < m3
  · go_wp2
    go_ret
    exact ⟨rfl, B3⟩
  by_cases hk0 : k0 < 0
  · go_wp2
    go_ret
    exact ⟨rfl, B3⟩
  by_cases hk1 : (L.length : Int) < k0
  · go_wp2
    go_ret
    exact ⟨rfl, B3⟩
  obtain ⟨k, rfl⟩ : ∃ k : Nat, k0 = (k : Int) := ⟨k0.toNat, by omega⟩
  have hkl : k ≤ L.length := by omega
  clear hk0
  have hk1' : (k : Int) ≤ (L.length : Int) := by omega
  go_wp2_with fail
  refine (toOptions_any a cap L _ L3 hnil hal').mono ?_
  rintro e w4 ⟨a4, c4, rfl, hO4, hb4⟩
  have B4 : Below w.heap.size w w4 := B3.trans (hb4.mono B3.size)
  have X4 := X3.keep hb4
  have L4 := L3.keep hb4
  clear B3 X3 L3 hb4 hm3 hk1
  go_wp2_with (at_make; refine wpList_make_own _ rfl (.const (.int .i64 0)) (.tmp 60) 30 rfl (w4.heap.size + 1) 50 i0 _ 6 Try.underlying30 hi hz0 hz1 .i64 .i64 _ (L.length + 1) rfl rfl (by omega) (by rw [hz2]; omega) (by unfold maxLen; omega) (by simp) ?_)
  intro w5 hown5 hgrow5
  obtain ⟨wS, sS, hSS, bS, bS5⟩ := sess_made (a4 := a4) (c4 := c4) hgrow5 (by simp) hO4
  have BS : Below w.heap.size w wS := B4.trans (bS.mono B4.size)
  have XS := X4.keep bS
  have LS := L4.keep bS
  have hb5 : Built w5 wS.heap.size 0 (L.length + 1) (L.take 0) := ⟨by rw [sS]; exact hown5, rfl⟩
  have hXl : w.heap.size < wS.heap.size := by have := B4.size; omega
  clear hgrow5 hown5 bS B4 X4 L4 hO4
  rw [← sS]
  clear sS
  generalize w4.heap.size = S at *
  go_wp2_with fail
  go_loopw [11, 12] (fun v j wr => ∃ m : Nat, m ≤ k ∧ j = .int .i64 m ∧ v = .slice (some ⟨wS.heap.size, 0, none⟩) m (L.length + 1) ∧ Built wr wS.heap.size m (L.length + 1) (L.take m) ∧ Below wS.heap.size wS wr) (fun _ j _ => k - (intOf j).toNat)
  case atStart => exact ⟨0, Nat.zero_le _, rfl, rfl, hb5, bS5⟩
  case round =>
    clear hb5 bS5
    obtain ⟨m, hm, rfl, rfl, hB, hnx⟩ := hrel
    by_cases hlt : m < k
    · have HT : Hid (L.take (m + 1) = L.take m ++ [L[m]]) := List.take_succ_eq_append_getElem (by omega)
      obtain ⟨b, o, rfl, hrq⟩ := LS m L[m] (by simp)
      have hml : (L.take m).length = m := by simp; omega
      have HL : Hid (m = (L.take m).length) := hml.symm
      clear hml
      generalize L[m] = r at *
      generalize L.take m = T at *
      obtain ⟨ri, rt, ru, rd, rc, rn⟩ := r
      obtain ⟨h0, h1, h2, h3, h4, h5⟩ := hrq.keep hnx
      simp only at h0 h1 h2 h3 h4 h5
      have hlt' : (m : Int) < (L.length : Int) := by omega
      have hlt2 : (m : Int) < (k : Int) := by omega
      go_wp2_with fail
      refine (toOption_any ri rt ru rd rc rn _).mono ?_
      rintro e w7 ⟨rfl, hb7⟩
      have hB7 := hB.keep hb7
      have b7 : Below wS.heap.size wS w7 := hnx.trans (hb7.mono hnx.size)
      have hs7 : wS.heap.size ≤ w7.heap.size := b7.size
      clear hB hb7 hnx h0 h1 h2 h3 h4 h5 hrq LS
      go_wp2_with (at_builtin; refine wpList_append_fits _ rfl (.tmp 67) (.tmp 73) 30 rfl wS.heap.size 50 i0 6 Try.underlying30 hi hz1 wS.heap.size m (L.length + 1) (cellsOf T) rfl (hB7.own.alloc _) ⟨w7.heap.size, 0, none⟩ 1 1 [.string ri, .string rt, .string ru, .string rd, .string rc, .int .i64 rn] rfl rfl (cell_six_new _ _ _ _ _ _ _ _) (six_oneCell _ _ _ _ _ _) (by omega) ?_)
      intro w8 hown8 hgrow8
      have hB8 : Built w8 wS.heap.size (m + 1) (L.length + 1) (T ++ [⟨ri, rt, ru, rd, rc, rn⟩]) := Built.snoc hown8 HL.out
      have b8 : Below wS.heap.size wS w8 := (b7.alloc hs7 _).grown hgrow8 (by simp; omega) (by intro q e; cases e; exact Nat.le_refl _)
      clear hown8 hgrow8 hB7 b7
      go_wp2_with fail
      go_roundw
      case rel => exact ⟨m + 1, by omega, by go_num, rfl, by rw [HT.out]; exact hB8, b8⟩
      case measure => simp [intOf]; omega
    · have hmk : k = m := by omega
      subst hmk
      obtain ⟨x0, x1, x2, x3, x4, x5⟩ := (XS.keep hnx).zero
      simp only at x0 x1 x2 x3 x4 x5
      have HL : Hid (k = (L.take k).length) := by rw [Hid]; simp; omega
      have hst := insL_start L ⟨i, ty, u, d, c, n⟩ k
      have HST : Hid (insL L ⟨i, ty, u, d, c, n⟩ k k = L.take k ++ [⟨i, ty, u, d, c, n⟩]) := hst
      clear hst hlt hm
      go_wp2_with fail
      refine (toOption_any i ty u d c n _).mono ?_
      rintro e w7 ⟨rfl, hb7⟩
      have hB7 := hB.keep hb7
      have b7 : Below wS.heap.size wS w7 := hnx.trans (hb7.mono hnx.size)
      have hs7 : wS.heap.size ≤ w7.heap.size := b7.size
      have hs7' : wS.heap.size < w7.heap.size := hB7.lt
      clear hB hb7 hnx x0 x1 x2 x3 x4 x5
      go_wp2_with (at_builtin; refine wpList_append_fits _ rfl (.tmp 77) (.tmp 79) 30 rfl wS.heap.size 50 i0 6 Try.underlying30 hi hz1 wS.heap.size k (L.length + 1) (cellsOf (L.take k)) rfl ((hB7.own.alloc _).alloc _) ⟨w7.heap.size + 1, 0, none⟩ 1 1 [.string i, .string ty, .string u, .string d, .string c, .int .i64 n] rfl rfl (cell_six_at _ _ _ _ _ _ _ _ _ (by simp)) (six_oneCell _ _ _ _ _ _) (by omega) ?_)
      intro w8 hown8 hgrow8
      have hB8 : Built w8 wS.heap.size (k + 1) (L.length + 1) (insL L ⟨i, ty, u, d, c, n⟩ k k) := by
        rw [HST.out]; exact Built.snoc hown8 HL.out
      have hO8 : HasOt w8 w7.heap.size 0 ⟨i, ty, u, d, c, n⟩ := hasOt_grown ((hasOt_new w7 ⟨i, ty, u, d, c, n⟩ 50).alloc _) hgrow8 (by omega)
      have b8 : Below wS.heap.size wS w8 := ((b7.alloc hs7 _).alloc (by simp; omega) _).grown hgrow8 (by simp; omega) (by intro q e; cases e; exact Nat.le_refl _)
      have hne : w7.heap.size ≠ wS.heap.size := by omega
      clear hown8 hgrow8 hB7 b7 hs7 hs7' HST HL
      generalize w7.heap.size = XO at *
      go_wp2_with fail
      go_loopw [11, 14] (fun v j wr => ∃ m : Nat, k ≤ m ∧ m ≤ L.length ∧ j = .int .i64 m ∧ v = .slice (some ⟨wS.heap.size, 0, none⟩) (m + 1) (L.length + 1) ∧ Built wr wS.heap.size (m + 1) (L.length + 1) (insL L ⟨i, ty, u, d, c, n⟩ k m) ∧ HasOt wr XO 0 ⟨i, ty, u, d, c, n⟩ ∧ Below wS.heap.size wS wr) (fun _ j _ => L.length - (intOf j).toNat)
      case atStart => exact ⟨k, Nat.le_refl _, hkl, rfl, rfl, hB8, hO8, b8⟩
      case round =>
        clear hB8 hO8 b8
        obtain ⟨m, hm0, hm, rfl, rfl, hB, hO, hnx⟩ := hrel
        by_cases hlt : m < L.length
        · have HT : Hid (insL L ⟨i, ty, u, d, c, n⟩ k (m + 1) = insL L ⟨i, ty, u, d, c, n⟩ k m ++ [L[m]]) := insL_succ hm0 hlt
          have HL : Hid (m + 1 = (insL L ⟨i, ty, u, d, c, n⟩ k m).length) := (insL_length hm0 hm).symm
          obtain ⟨b, o, rfl, hrq⟩ := LS m L[m] (by simp)
          generalize L[m] = r at *
          generalize insL L ⟨i, ty, u, d, c, n⟩ k m = T at *
          obtain ⟨ri, rt, ru, rd, rc, rn⟩ := r
          obtain ⟨h0, h1, h2, h3, h4, h5⟩ := hrq.keep hnx
          simp only at h0 h1 h2 h3 h4 h5
          have hlt' : (m : Int) < (L.length : Int) := by omega
          go_wp2_with fail
          refine (toOption_any ri rt ru rd rc rn _).mono ?_
          rintro e w9 ⟨rfl, hb9⟩
          have hB9 := hB.keep hb9
          have hO9 := hO.keep hb9
          have b9 : Below wS.heap.size wS w9 := hnx.trans (hb9.mono hnx.size)
          have hs9 : wS.heap.size ≤ w9.heap.size := b9.size
          clear hB hO hb9 hnx h0 h1 h2 h3 h4 h5 hrq LS
          go_wp2_with (at_builtin; refine wpList_append_fits _ rfl (.tmp 88) (.tmp 94) 30 rfl wS.heap.size 50 i0 6 Try.underlying30 hi hz1 wS.heap.size (m + 1) (L.length + 1) (cellsOf T) rfl (hB9.own.alloc _) ⟨w9.heap.size, 0, none⟩ 1 1 [.string ri, .string rt, .string ru, .string rd, .string rc, .int .i64 rn] rfl rfl (cell_six_new _ _ _ _ _ _ _ _) (six_oneCell _ _ _ _ _ _) (by omega) ?_)
          intro w10 hown10 hgrow10
          have hB10 : Built w10 wS.heap.size (m + 1 + 1) (L.length + 1) (T ++ [⟨ri, rt, ru, rd, rc, rn⟩]) := Built.snoc hown10 HL.out
          have hO10 : HasOt w10 XO 0 ⟨i, ty, u, d, c, n⟩ := hasOt_grown (hO9.alloc _) hgrow10 hne
          have b10 : Below wS.heap.size wS w10 := (b9.alloc hs9 _).grown hgrow10 (by simp; omega) (by intro q e; cases e; exact Nat.le_refl _)
          clear hown10 hgrow10 hB9 hO9 b9 HL
          go_wp2_with fail
          go_roundw
          case rel => exact ⟨m + 1, by omega, by omega, by go_num, rfl, by rw [HT.out]; exact hB10, hO10, b10⟩
          case measure => simp [intOf]; omega
        · have hml : m = L.length := by omega
          subst hml
          have hNl : Hid ((insL L ⟨i, ty, u, d, c, n⟩ k L.length).length = L.length + 1) := insL_length hm0 hm
          have hN := hB.ots
          have hS := hSS.keep hnx
          have hX := XS.keep hnx
          have hLr := LS.keep hnx
          have Br : Below w.heap.size w wr := BS.trans (hnx.mono BS.size)
          have hwl : w.heap.size < wr.heap.size := by have := hnx.size; omega
          have hXO : XO < wr.heap.size := World.block_lt_of_cell? wr _ hO.1
          have P1 : Hid _ := @ins_before L ⟨i, ty, u, d, c, n⟩ k id
          have P2 : Hid _ := @ins_here L ⟨i, ty, u, d, c, n⟩ k id
          have P3 : Hid _ := @ins_other L ⟨i, ty, u, d, c, n⟩ k id
          have hkl2 : (L.take L.length) = L := List.take_length
          have HTL : Hid ((L.take L.length) = L) := hkl2
          clear hkl2 hSS XS LS hnx BS hB hlt hm hm0 hne hXl
          generalize insL L ⟨i, ty, u, d, c, n⟩ k L.length = N at *
          obtain ⟨w11, rfl⟩ : ∃ w11 : World, w11 = wr := ⟨_, rfl⟩
          rcases hh : hasF id L with _ | _
          · have HO : Hid (optF id L = (zeroOt, false)) := optF_none hh
            have HH : Hid (hasF id (L.take L.length) = false) := by rw [Hid, HTL.out]; exact hh
            have HK : Hid (hasF id (L.take k) = false) := by
              rcases hq : hasF id (L.take k) with _ | _
              · rfl
              · have := hasF_mono (m := L.length) hkl hq
                rw [HTL.out, hh] at this
                cases this
            clear hh
            rcases hx : isF id ⟨i, ty, u, d, c, n⟩ with _ | _
            · have HN : Hid (optF id N = (zeroOt, false)) := (P3.out hx).trans HO.out
              have hid : (id.toList == i.toList) = false := by
                have h1 : (i.toList == id.toList) = false := hx
                have h2 : ¬ i.toList = id.toList := by simpa using h1
                simpa using fun e => h2 (Eq.symm e)
              clear hx
              clear P1 P2 P3
              go_wp2_with fail
              refine (option_zero S L id _ ?_ (by omega) HO.out).mono ?_
              · exact hS.alloc _
              rintro e w12 ⟨rfl, hb12⟩
              obtain ⟨hS2, b12⟩ := sess_later (a4 := some ⟨wS.heap.size, 0, none⟩) (n := L.length + 1) (c4 := L.length + 1) hb12 (by simp) hN hNl.out
              have hO12 := hO.keep b12
              have hX12 := hX.keep b12
              have hL12 := hLr.keep b12
              have B12 := Br.trans (b12.mono Br.size)
              have hl12 := b12.size
              clear hb12 b12 hO hX hLr Br hS hN
              go_wp2_with fail
              refine (option_zero w11.heap.size N id _ ?_ (by rw [hNl.out]; omega) HN.out).mono ?_
              · exact hS2.alloc _
              rintro e w13 ⟨rfl, hb13⟩
              obtain ⟨hb, b13⟩ := ot_later0 hb13
              have hO13 := hO12.keep b13
              have hX13 := hX12.keep b13
              have hL13 := hL12.keep b13
              have B13 := B12.trans (b13.mono B12.size)
              have hl13 := b13.size
              have hbl : w12.heap.size < w13.heap.size := World.block_lt_of_cell? w13 _ hb.1
              clear hb13 b13 hO12 hX12 hL12 B12 hS2
              go_wp2_with fail
              refine (hasID_any a cap L.length L id _ false ?_ hal' (Nat.le_refl _) HH.out).mono ?_
              · exact (hL13.alloc _).alloc _
              rintro e w14 ⟨rfl, rfl⟩
              obtain ⟨y0, y1, y2, y3, y4, y5⟩ := hb.zero
              obtain ⟨o0, o1, o2, o3, o4, o5⟩ := hO13.zero
              obtain ⟨x0, x1, x2, x3, x4, x5⟩ := hX13.zero
              simp only at y0 y1 y2 y3 y4 y5 o0 o1 o2 o3 o4 o5 x0 x1 x2 x3 x4 x5
              have hol : XO < w13.heap.size := by omega
              have hxl : w.heap.size < w13.heap.size := by omega
              go_wp2_with fail
              go_ret
              exact ⟨rfl, (B13.alloc (by omega) _).alloc (by simp; omega) _⟩
            · have HN : Hid (optF id N = (⟨i, ty, u, d, c, n⟩, true)) := P2.out HK.out hx
              have hid : (id.toList == i.toList) = true := by
                have h1 : (i.toList == id.toList) = true := hx
                have h2 : i.toList = id.toList := by simpa using h1
                simpa using h2.symm
              clear hx
              clear P1 P2 P3
              go_wp2_with fail
              refine (option_zero S L id _ ?_ (by omega) HO.out).mono ?_
              · exact hS.alloc _
              rintro e w12 ⟨rfl, hb12⟩
              obtain ⟨hS2, b12⟩ := sess_later (a4 := some ⟨wS.heap.size, 0, none⟩) (n := L.length + 1) (c4 := L.length + 1) hb12 (by simp) hN hNl.out
              have hO12 := hO.keep b12
              have hX12 := hX.keep b12
              have hL12 := hLr.keep b12
              have B12 := Br.trans (b12.mono Br.size)
              have hl12 := b12.size
              clear hb12 b12 hO hX hLr Br hS hN
              go_wp2_with fail
              refine (option_any w11.heap.size N id _ ⟨i, ty, u, d, c, n⟩ true ?_ (by rw [hNl.out]; omega) HN.out).mono ?_
              · exact hS2.alloc _
              rintro e w13 ⟨rfl, hb13⟩
              obtain ⟨hb, b13⟩ := ot_later0 hb13
              have hO13 := hO12.keep b13
              have hX13 := hX12.keep b13
              have hL13 := hL12.keep b13
              have B13 := B12.trans (b13.mono B12.size)
              have hl13 := b13.size
              have hbl : w12.heap.size < w13.heap.size := World.block_lt_of_cell? w13 _ hb.1
              clear hb13 b13 hO12 hX12 hL12 B12 hS2
              go_wp2_with fail
              refine (hasID_any a cap L.length L id _ false ?_ hal' (Nat.le_refl _) HH.out).mono ?_
              · exact (hL13.alloc _).alloc _
              rintro e w14 ⟨rfl, rfl⟩
              obtain ⟨y0, y1, y2, y3, y4, y5⟩ := hb.zero
              obtain ⟨o0, o1, o2, o3, o4, o5⟩ := hO13.zero
              obtain ⟨x0, x1, x2, x3, x4, x5⟩ := hX13.zero
              simp only at y0 y1 y2 y3 y4 y5 o0 o1 o2 o3 o4 o5 x0 x1 x2 x3 x4 x5
              have hol : XO < w13.heap.size := by omega
              have hxl : w.heap.size < w13.heap.size := by omega
              go_wp2_with fail
              refine (hasID_any a cap k L id _ false ?_ hal' hkl HK.out).mono ?_
              · exact (hL13.alloc _).alloc _
              rintro e w15 ⟨rfl, rfl⟩
              go_wp2_with fail
              go_ret
              exact ⟨rfl, (B13.alloc (by omega) _).alloc (by simp; omega) _⟩
          · obtain ⟨r, hor, hir⟩ := optF_some hh
            obtain ⟨ri, rt, ru, rd, rc, rn⟩ := r
            have HO : Hid (optF id L = (⟨ri, rt, ru, rd, rc, rn⟩, true)) := hor
            have HH : Hid (hasF id (L.take L.length) = true) := by rw [Hid, HTL.out]; exact hh
            have hrid : (ri.toList == id.toList) = true := hir
            clear hh hor hir
            rcases hx : isF id ⟨i, ty, u, d, c, n⟩ with _ | _
            · have HN : Hid (optF id N = (⟨ri, rt, ru, rd, rc, rn⟩, true)) := (P3.out hx).trans HO.out
              have hid : (id.toList == i.toList) = false := by
                have h1 : (i.toList == id.toList) = false := hx
                have h2 : ¬ i.toList = id.toList := by simpa using h1
                simpa using fun e => h2 (Eq.symm e)
              clear hx
              clear P1 P2 P3
              go_wp2_with fail
              refine (option_any S L id _ ⟨ri, rt, ru, rd, rc, rn⟩ true ?_ (by omega) HO.out).mono ?_
              · exact hS.alloc _
              rintro e w12 ⟨rfl, hb12⟩
              obtain ⟨hS2, b12⟩ := sess_later (a4 := some ⟨wS.heap.size, 0, none⟩) (n := L.length + 1) (c4 := L.length + 1) hb12 (by simp) hN hNl.out
              have hO12 := hO.keep b12
              have hX12 := hX.keep b12
              have hL12 := hLr.keep b12
              have B12 := Br.trans (b12.mono Br.size)
              have hl12 := b12.size
              clear hb12 b12 hO hX hLr Br hS hN
              go_wp2_with fail
              refine (option_any w11.heap.size N id _ ⟨ri, rt, ru, rd, rc, rn⟩ true ?_ (by rw [hNl.out]; omega) HN.out).mono ?_
              · exact hS2.alloc _
              rintro e w13 ⟨rfl, hb13⟩
              obtain ⟨hb, b13⟩ := ot_later (r := ⟨ri, rt, ru, rd, rc, rn⟩) hb13
              have hO13 := hO12.keep b13
              have hX13 := hX12.keep b13
              have hL13 := hL12.keep b13
              have B13 := B12.trans (b13.mono B12.size)
              have hl13 := b13.size
              have hbl : w12.heap.size < w13.heap.size := World.block_lt_of_cell? w13 _ hb.1
              clear hb13 b13 hO12 hX12 hL12 B12 hS2
              go_wp2_with fail
              refine (hasID_any a cap L.length L id _ true ?_ hal' (Nat.le_refl _) HH.out).mono ?_
              · exact (hL13.alloc _).alloc _
              rintro e w14 ⟨rfl, rfl⟩
              obtain ⟨y0, y1, y2, y3, y4, y5⟩ := hb.zero
              obtain ⟨o0, o1, o2, o3, o4, o5⟩ := hO13.zero
              obtain ⟨x0, x1, x2, x3, x4, x5⟩ := hX13.zero
              simp only at y0 y1 y2 y3 y4 y5 o0 o1 o2 o3 o4 o5 x0 x1 x2 x3 x4 x5
              have hol : XO < w13.heap.size := by omega
              have hxl : w.heap.size < w13.heap.size := by omega
              go_wp2_with fail
              go_ret
              exact ⟨rfl, (B13.alloc (by omega) _).alloc (by simp; omega) _⟩
            · have hid : (id.toList == i.toList) = true := by
                have h1 : (i.toList == id.toList) = true := hx
                have h2 : i.toList = id.toList := by simpa using h1
                simpa using h2.symm
              rcases hq : hasF id (L.take k) with _ | _
              · have HN : Hid (optF id N = (⟨i, ty, u, d, c, n⟩, true)) := P2.out hq hx
                have HK : Hid (hasF id (L.take k) = false) := hq
                clear hq hx
                clear P1 P2 P3
                go_wp2_with fail
                refine (option_any S L id _ ⟨ri, rt, ru, rd, rc, rn⟩ true ?_ (by omega) HO.out).mono ?_
                · exact hS.alloc _
                rintro e w12 ⟨rfl, hb12⟩
                obtain ⟨hS2, b12⟩ := sess_later (a4 := some ⟨wS.heap.size, 0, none⟩) (n := L.length + 1) (c4 := L.length + 1) hb12 (by simp) hN hNl.out
                have hO12 := hO.keep b12
                have hX12 := hX.keep b12
                have hL12 := hLr.keep b12
                have B12 := Br.trans (b12.mono Br.size)
                have hl12 := b12.size
                clear hb12 b12 hO hX hLr Br hS hN
                go_wp2_with fail
                refine (option_any w11.heap.size N id _ ⟨i, ty, u, d, c, n⟩ true ?_ (by rw [hNl.out]; omega) HN.out).mono ?_
                · exact hS2.alloc _
                rintro e w13 ⟨rfl, hb13⟩
                obtain ⟨hb, b13⟩ := ot_later (r := ⟨ri, rt, ru, rd, rc, rn⟩) hb13
                have hO13 := hO12.keep b13
                have hX13 := hX12.keep b13
                have hL13 := hL12.keep b13
                have B13 := B12.trans (b13.mono B12.size)
                have hl13 := b13.size
                have hbl : w12.heap.size < w13.heap.size := World.block_lt_of_cell? w13 _ hb.1
                clear hb13 b13 hO12 hX12 hL12 B12 hS2
                go_wp2_with fail
                refine (hasID_any a cap L.length L id _ true ?_ hal' (Nat.le_refl _) HH.out).mono ?_
                · exact (hL13.alloc _).alloc _
                rintro e w14 ⟨rfl, rfl⟩
                obtain ⟨y0, y1, y2, y3, y4, y5⟩ := hb.zero
                obtain ⟨o0, o1, o2, o3, o4, o5⟩ := hO13.zero
                obtain ⟨x0, x1, x2, x3, x4, x5⟩ := hX13.zero
                simp only at y0 y1 y2 y3 y4 y5 o0 o1 o2 o3 o4 o5 x0 x1 x2 x3 x4 x5
                have hol : XO < w13.heap.size := by omega
                have hxl : w.heap.size < w13.heap.size := by omega
                go_wp2_with fail
                refine (hasID_any a cap k L id _ false ?_ hal' hkl HK.out).mono ?_
                · exact (hL13.alloc _).alloc _
                rintro e w15 ⟨rfl, rfl⟩
                go_wp2_with fail
                go_ret
                exact ⟨rfl, (B13.alloc (by omega) _).alloc (by simp; omega) _⟩
              · have HN : Hid (optF id N = (⟨ri, rt, ru, rd, rc, rn⟩, true)) := (P1.out hq).trans HO.out
                have HK : Hid (hasF id (L.take k) = true) := hq
                clear hq hx
                clear P1 P2 P3
                go_wp2_with fail
                refine (option_any S L id _ ⟨ri, rt, ru, rd, rc, rn⟩ true ?_ (by omega) HO.out).mono ?_
                · exact hS.alloc _
                rintro e w12 ⟨rfl, hb12⟩
                obtain ⟨hS2, b12⟩ := sess_later (a4 := some ⟨wS.heap.size, 0, none⟩) (n := L.length + 1) (c4 := L.length + 1) hb12 (by simp) hN hNl.out
                have hO12 := hO.keep b12
                have hX12 := hX.keep b12
                have hL12 := hLr.keep b12
                have B12 := Br.trans (b12.mono Br.size)
                have hl12 := b12.size
                clear hb12 b12 hO hX hLr Br hS hN
                go_wp2_with fail
                refine (option_any w11.heap.size N id _ ⟨ri, rt, ru, rd, rc, rn⟩ true ?_ (by rw [hNl.out]; omega) HN.out).mono ?_
                · exact hS2.alloc _
                rintro e w13 ⟨rfl, hb13⟩
                obtain ⟨hb, b13⟩ := ot_later (r := ⟨ri, rt, ru, rd, rc, rn⟩) hb13
                have hO13 := hO12.keep b13
                have hX13 := hX12.keep b13
                have hL13 := hL12.keep b13
                have B13 := B12.trans (b13.mono B12.size)
                have hl13 := b13.size
                have hbl : w12.heap.size < w13.heap.size := World.block_lt_of_cell? w13 _ hb.1
                clear hb13 b13 hO12 hX12 hL12 B12 hS2
                go_wp2_with fail
                refine (hasID_any a cap L.length L id _ true ?_ hal' (Nat.le_refl _) HH.out).mono ?_
                · exact (hL13.alloc _).alloc _
                rintro e w14 ⟨rfl, rfl⟩
                obtain ⟨y0, y1, y2, y3, y4, y5⟩ := hb.zero
                obtain ⟨o0, o1, o2, o3, o4, o5⟩ := hO13.zero
                obtain ⟨x0, x1, x2, x3, x4, x5⟩ := hX13.zero
                simp only at y0 y1 y2 y3 y4 y5 o0 o1 o2 o3 o4 o5 x0 x1 x2 x3 x4 x5
                have hol : XO < w13.heap.size := by omega
                have hxl : w.heap.size < w13.heap.size := by omega
                go_wp2_with fail
                refine (hasID_any a cap k L id _ true ?_ hal' hkl HK.out).mono ?_
                · exact (hL13.alloc _).alloc _
                rintro e w15 ⟨rfl, rfl⟩
                go_wp2_with fail
                go_ret
                exact ⟨rfl, (B13.alloc (by omega) _).alloc (by simp; omega) _⟩
end Go.Proofs.Qxb6628330a
