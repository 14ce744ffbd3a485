import Derived.Test.Qxb6628303aPlain2
namespace Go.Proofs.Qxb6628303a
open Go.RowKit

set_option maxRecDepth 100000 in
set_option maxHeartbeats 4000000 in
theorem law2 (a0 a1 a2 : Option Addr) (c0 c1 c2 : Nat) (za zb ns : List Int) (w : World) (h0 : IntsIn w.heap.size .u8 w a0 za) (hza : ∀ z ∈ za, IsByte z) (hnil0 : a0 = none → za = [] ∧ c0 = 0)
    (h1 : IntsIn w.heap.size .u8 w a1 zb) (hzb : ∀ z ∈ zb, IsByte z) (hnil1 : a1 = none → zb = [] ∧ c1 = 0) (h2 : IntsIn w.heap.size .i64 w a2 ns) :
    Calls Try.prog 4 #[.slice a0 za.length c0, .slice a1 zb.length c1, .slice a2 ns.length c2] w fun e w' => e = .returned (.bool true) ∧ Below w.heap.size w w' := by
  go_enter Try.func4, Try.ntmps4
  go_wp2_with fail
  refine (bytes2_any _ _ _ _ _ _ _ _ _ _).mono ?_
  rintro e w1 ⟨⟨b1, rfl⟩, rfl⟩
  cases b1
  · go_wp2
    go_ret
    exact ⟨rfl, Below.refl _ _⟩
  by_cases hal : 65536 < za.length
  · go_wp2
    go_ret
    exact ⟨rfl, Below.refl _ _⟩
  have hal' : za.length ≤ 65536 := by omega
  clear hal
  by_cases hbl : 65536 < zb.length
  · go_wp2
    go_ret
    exact ⟨rfl, Below.refl _ _⟩
  have hbl' : zb.length ≤ 65536 := by omega
  clear hbl
  by_cases hnl : 65536 < ns.length
  · go_wp2
    go_ret
    exact ⟨rfl, Below.refl _ _⟩
  have hnl' : ns.length ≤ 65536 := by omega
  clear hnl
  go_wp2
  go_loop [7] (fun i => ∃ k : Nat, k ≤ ns.length ∧ i = .int .i64 k ∧ PosTo ns k) (fun i => ns.length - (intOf i).toNat)
  case atStart => exact ⟨0, Nat.zero_le _, rfl, fun j hj => by omega⟩
  case round =>
    obtain ⟨k, hk, rfl, hpos⟩ := hrel
    by_cases hlt : k < ns.length
    · obtain ⟨b, o, rfl, _, hc⟩ := h2 k hlt
      generalize hx : ns.getD k 0 = x at hc
      have HX : Hid (ns.getD k 0 = x) := hx
      clear hx
      have hlt' : (k : Int) < (ns.length : Int) := by omega
      by_cases hx1 : x < 1
      · go_wp2
        go_ret
        exact ⟨rfl, Below.refl _ _⟩
      · go_wp2
        go_round
        case rel => exact ⟨k + 1, by omega, by go_num, hpos.succ HX.out (by omega)⟩
        case measure => simp [intOf]; omega
    · have hp : PosTo ns ns.length := by rw [show ns.length = k by omega]; exact hpos
      clear hpos
      go_wp2_with fail
      refine (clone_any a0 c0 za _ h0 hnil0 (by omega)).mono ?_
      rintro e w2 ⟨a3, c3, rfl, hc3, hnil3, hi3, hb2⟩
      go_wp2_with fail
      refine (clone_any a1 c1 zb _ ((h1.keep hb2).mono hb2.size) hnil1 (by omega)).mono ?_
      rintro e w3 ⟨a4, c4, rfl, hc4, hnil4, hi4, hb3⟩
      have hB3 : Below w1.heap.size w1 w3 := hb2.trans (hb3.mono hb2.size)
      have hi3' : IntsIn w3.heap.size .u8 w3 a3 za := (hi3.keep hb3).mono hb3.size
      clear hb2 hb3 hi3 h0 h1 hnil0 hnil1
      go_wp2_with fail
      refine (clone_any a3 c3 za _ hi3' hnil3 (by omega)).mono ?_
      rintro e w4 ⟨a5, c5, rfl, _, _, hi5, hb4⟩
      go_wp2_with fail
      refine (clone_any a4 c4 zb _ ((hi4.keep hb4).mono hb4.size) hnil4 (by omega)).mono ?_
      rintro e w5 ⟨a6, c6, rfl, _, _, hi6, hb5⟩
      have hb45 : Below w3.heap.size w3 w5 := hb4.trans (hb5.mono hb4.size)
      have hB5 : Below w1.heap.size w1 w5 := hB3.trans (hb45.mono hB3.size)
      have g3 : IntsIn w5.heap.size .u8 w5 a3 za := (hi3'.keep hb45).mono hb45.size
      have g4 : IntsIn w5.heap.size .u8 w5 a4 zb := (hi4.keep hb45).mono hb45.size
      have g5 : IntsIn w5.heap.size .u8 w5 a5 za := (hi5.keep hb5).mono hb5.size
      have g2 : IntsIn w5.heap.size .i64 w5 a2 ns := (h2.keep hB5).mono hB5.size
      clear hb4 hb5 hb45 hB3 hi3' hi4 hi5 h2 hnil3 hnil4 hlt hk
      have hmk := run_make_row' (P := Try.prog) 22 5 (.int .u8 0) 1 Try.underlying22 Try.info5 rfl .i64 .i64 (za.length + zb.length) (by omega) (by omega)
      simp only [Int.natCast_add] at hmk
      obtain ⟨zj, hJ⟩ : ∃ zj, Hid (Joined za zb zj) := ⟨_, joined_append za zb⟩
      go_wp2_with fail
      clear hmk
      go_loopw [12] (fun i wr => ∃ m : Nat, m ≤ za.length ∧ i = .int .i64 m ∧ wr.rowIs w5.heap.size 5 (za.length + zb.length) (fun j => if j < m then .int .u8 (zj.getD j 0) else .int .u8 0) ∧ Below w5.heap.size w5 wr) (fun i _ => za.length - (intOf i).toNat)
      case atStart => exact ⟨0, Nat.zero_le _, rfl, (World.rowIs_made _ _ _ _).congr (by simp), (Below.refl _ _).alloc (Nat.le_refl _) _⟩
      case round =>
        obtain ⟨m, hm, rfl, hrow, hnx⟩ := hrel
        by_cases hlt : m < za.length
        · obtain ⟨b, o, rfl, _, hc⟩ := g5 m hlt
          have hc' := cell_later hnx hc
          have hst := hrow.cell (i := m) (by omega)
          have hfr := hrow.frozen m
          have HX : Hid (zj.getD m 0 = za.getD m 0) := hJ.out.left m hlt
          have hrow' := hrow.set m (.int .u8 (za.getD m 0))
          clear hrow hc g5
          generalize za.getD m 0 = x at hc' hrow' HX
          have hlt' : (m : Int) < (za.length : Int) := by omega
          have hlt2 : (m : Int) < (za.length : Int) + (zb.length : Int) := by omega
          go_wp2
          go_roundw
          case rel => exact ⟨m + 1, by omega, by go_num, rowStep HX.out hrow', hnx.setCell (Nat.le_refl _) _⟩
          case measure => simp [intOf]; omega
        · have hmz : m = za.length := by omega
          subst hmz
          obtain ⟨w6, rfl⟩ : ∃ w6 : World, w6 = wr := ⟨_, rfl⟩
          go_wp2_with fail
          go_loopw [13] (fun i wr => ∃ m : Nat, m ≤ zb.length ∧ i = .int .i64 m ∧ wr.rowIs w5.heap.size 5 (za.length + zb.length) (fun j => if j < za.length + m then .int .u8 (zj.getD j 0) else .int .u8 0) ∧ Below w5.heap.size w5 wr) (fun i _ => zb.length - (intOf i).toNat)
          case atStart => exact ⟨0, Nat.zero_le _, rfl, hrow, hnx⟩
          case round =>
            clear hrow hnx
            obtain ⟨m, hm, rfl, hrow, hnx⟩ := hrel
            by_cases hlt : m < zb.length
            · obtain ⟨b, o, rfl, _, hc⟩ := hi6 m hlt
              have hc' := cell_later hnx hc
              have hst := hrow.cell (i := za.length + m) (by omega)
              have hfr := hrow.frozen (za.length + m)
              have HX : Hid (zj.getD (za.length + m) 0 = zb.getD m 0) := hJ.out.right m hlt
              have hrow' := hrow.set (za.length + m) (.int .u8 (zb.getD m 0))
              clear hrow hc hi6
              generalize zb.getD m 0 = x at hc' hrow' HX
              have hlt' : (m : Int) < (zb.length : Int) := by omega
              have hlt2 : (za.length : Int) + (m : Int) < (za.length : Int) + (zb.length : Int) := by omega
              have hadd : ((za.length : Int) + (m : Int)).toNat = za.length + m := by omega
              go_wp2
              go_roundw
              case rel => exact ⟨m + 1, by omega, by go_num, rowStep HX.out hrow', hnx.setCell (Nat.le_refl _) _⟩
              case measure => simp [intOf]; omega
            · have hmz : m = zb.length := by omega
              subst hmz
              obtain ⟨w7, rfl⟩ : ∃ w7 : World, w7 = wr := ⟨_, rfl⟩
              have hij : IntsIn w7.heap.size .u8 w7 (some ⟨w5.heap.size, 0, none⟩) zj := intsIn_row hJ.out.len hrow
              have hB7 : Below w1.heap.size w1 w7 := hB5.trans (hnx.mono hB5.size)
              have k3 : IntsIn w7.heap.size .u8 w7 a3 za := (g3.keep hnx).mono hnx.size
              have k4 : IntsIn w7.heap.size .u8 w7 a4 zb := (g4.keep hnx).mono hnx.size
              have k5 : IntsIn w7.heap.size .u8 w7 a5 za := (g5.keep hnx).mono hnx.size
              have k6 : IntsIn w7.heap.size .u8 w7 a6 zb := (hi6.keep hnx).mono hnx.size
              have k2 : IntsIn w7.heap.size .i64 w7 a2 ns := (g2.keep hnx).mono hnx.size
              clear hrow hnx hB5 g3 g4 g5 hi6 g2 hlt hm
              generalize w5.heap.size = Jb at *
              go_wp2_with fail
              refine (newBytes_hid _ _ _ _).mono ?_
              rintro e w8 ⟨rfl, hw8⟩
              go_wp2_with fail
              refine (newBytes_hid _ _ _ _).mono ?_
              rintro e w9 ⟨rfl, hw9⟩
              go_wp2_with fail
              refine (newBytes_hid _ _ _ _).mono ?_
              rintro e w10 ⟨rfl, hw10⟩
              have s8 : w8.heap.size = w7.heap.size + 1 := by rw [hw8.out]; simp
              have s9 : w9.heap.size = w7.heap.size + 2 := by rw [hw9.out]; simp; omega
              have b8 : Below w7.heap.size w7 w8 := by rw [hw8.out]; exact (Below.refl _ _).alloc (Nat.le_refl _) _
              have b9 : Below w7.heap.size w7 w9 := by rw [hw9.out]; exact b8.alloc (by omega) _
              have b10 : Below w7.heap.size w7 w10 := by rw [hw10.out]; exact b9.alloc (by omega) _
              have ox : BytesObj w7.heap.size w7.heap.size w10 zj := by
                rw [hw10.out]; refine BytesObj.alloc ?_ _; rw [hw9.out]; refine BytesObj.alloc ?_ _; rw [hw8.out]
                exact newObjAt hij (Nat.le_refl _) hJ.out.len (Nat.le_refl _)
              have oy : BytesObj w7.heap.size (w7.heap.size + 1) w10 za := by
                rw [hw10.out]; refine BytesObj.alloc ?_ _; rw [← s8, hw9.out]
                exact newObjAt (k3.keep b8) (by omega) rfl hc3
              have oz : BytesObj w7.heap.size (w7.heap.size + 2) w10 zb := by
                rw [← s9, hw10.out]
                exact newObjAt (k4.keep b9) (by omega) rfl hc4
              have k5' : IntsIn w7.heap.size .u8 w10 a5 za := k5.keep b10
              have k6' : IntsIn w7.heap.size .u8 w10 a6 zb := k6.keep b10
              have k2' : IntsIn w7.heap.size .i64 w10 a2 ns := k2.keep b10
              have hB10 : Below w1.heap.size w1 w10 := hB7.trans (b10.mono hB7.size)
              have hle : w1.heap.size ≤ w7.heap.size := hB7.size
              rw [s8, s9]
              clear hw8 hw9 hw10 s8 s9 b8 b9 b10 k3 k4 k5 k6 k2 hij hB7 hc3 hc4
              generalize w7.heap.size = P at *
              have hzj : Hid (∀ z ∈ zj, IsByte z) := byte_joined hJ.out hza hzb
              have hjl : zj.length ≤ 131072 := by rw [hJ.out.len]; omega
              go_wp2_with fail
              go_loopw [17, 18] (fun fs i wr => ∃ (m : Nat) (f : Int), m ≤ ns.length ∧ i = .int .i64 m ∧ fs = .int .i64 f ∧ FirstOk zj ns m f ∧ BytesObj P P wr (zj.drop m) ∧ BytesObj P (P + 1) wr (za.drop m) ∧ BytesObj P (P + 2) wr (zb.drop (m - za.length)) ∧ Below P w10 wr) (fun _ i _ => ns.length - (intOf i).toNat)
              case atStart => exact ⟨0, 0, Nat.zero_le _, rfl, rfl, fun h => absurd h (Nat.lt_irrefl 0), ox, oy, by simpa using oz, Below.refl _ _⟩
              case round =>
                clear ox oy oz
                obtain ⟨m, f, hm, rfl, rfl, hF, ox, oy, oz, hnx⟩ := hrel
                by_cases hlt : m < ns.length
                · have hx1 : 1 ≤ ns.getD m 0 := hp m hlt
                  obtain ⟨b, o, rfl, hbP, hcn⟩ := k2' m hlt
                  generalize hx : ns.getD m 0 = x at hcn hx1
                  have HX : Hid (ns.getD m 0 = x) := hx
                  clear hx
                  have hcn1 : wr.cell? ⟨b, o + m, none⟩ = some (.int .i64 x) := (hnx.cell hbP).trans hcn
                  have hlt' : (m : Int) < (ns.length : Int) := by omega
                  obtain ⟨g, hg0⟩ : ∃ g, drawV (zj.drop m) x = g := ⟨_, rfl⟩
                  have HG : Hid (drawV (zj.drop m) x = g) := hg0
                  clear hg0
                  by_cases hmz : m < za.length
                  · have HP : Hid (drawV (za.drop m) x = g) := (hJ.out.draw_left hmz x).trans HG.out
                    have hmz' : (m : Int) < (za.length : Int) := by omega
                    rcases hk0 : ((m : Int) == 0) with _ | _
                    · go_wp2_with fail
                      refine (draw_any P P (zj.drop m) x hx1 (mem_drop hzj.out m) (by simp; omega) _ ox).mono ?_
                      rintro e w11 ⟨he, ox1, hg1⟩
                      rw [HG.out] at he
                      subst he
                      rw [tail_drop] at ox1
                      have oy1 := oy.other hg1 (by omega) (Nat.le_refl _)
                      have oz1 := oz.other hg1 (by omega) (Nat.le_refl _)
                      have b11 : Below P w10 w11 := hnx.trans (grown_belowQ hg1 (Nat.le_refl _) (Nat.le_of_lt ox.lt))
                      have hcn2 : w11.cell? ⟨b, o + m, none⟩ = some (.int .i64 x) := (b11.cell hbP).trans hcn
                      clear hg1 hcn1 ox oy oz hnx
                      go_wp2_with fail
                      refine (draw_any P (P + 1) (za.drop m) x hx1 (mem_drop hza _) (by simp; omega) _ oy1).mono ?_
                      rintro e w12 ⟨he, o12, hg2⟩
                      rw [HP.out] at he
                      subst he
                      rw [tail_drop] at o12
                      have ox2 := ox1.other hg2 (by omega) (by omega)
                      have oz2 := oz1.other hg2 (by omega) (by omega)
                      rw [drop_stay hmz] at oz2
                      have b12 : Below P w10 w12 := b11.trans (grown_belowQ hg2 (by omega) (Nat.le_of_lt ox1.lt))
                      clear hg2 hcn hcn2 ox1 oy1 oz1 b11 HP
                      go_wp2_with fail
                      go_roundw
                      case rel => exact ⟨m + 1, _, by omega, by go_num, rfl, hF.stay hk0, ox2, o12, oz2, b12⟩
                      case measure => simp [intOf]; omega
                    · go_wp2_with fail
                      refine (draw_any P P (zj.drop m) x hx1 (mem_drop hzj.out m) (by simp; omega) _ ox).mono ?_
                      rintro e w11 ⟨he, ox1, hg1⟩
                      rw [HG.out] at he
                      subst he
                      rw [tail_drop] at ox1
                      have oy1 := oy.other hg1 (by omega) (Nat.le_refl _)
                      have oz1 := oz.other hg1 (by omega) (Nat.le_refl _)
                      have b11 : Below P w10 w11 := hnx.trans (grown_belowQ hg1 (Nat.le_refl _) (Nat.le_of_lt ox.lt))
                      have hcn2 : w11.cell? ⟨b, o + m, none⟩ = some (.int .i64 x) := (b11.cell hbP).trans hcn
                      clear hg1 hcn1 ox oy oz hnx
                      go_wp2_with fail
                      refine (draw_any P (P + 1) (za.drop m) x hx1 (mem_drop hza _) (by simp; omega) _ oy1).mono ?_
                      rintro e w12 ⟨he, o12, hg2⟩
                      rw [HP.out] at he
                      subst he
                      rw [tail_drop] at o12
                      have ox2 := ox1.other hg2 (by omega) (by omega)
                      have oz2 := oz1.other hg2 (by omega) (by omega)
                      rw [drop_stay hmz] at oz2
                      have b12 : Below P w10 w12 := b11.trans (grown_belowQ hg2 (by omega) (Nat.le_of_lt ox1.lt))
                      clear hg2 hcn hcn2 ox1 oy1 oz1 b11 HP
                      go_wp2_with fail
                      go_roundw
                      case rel => exact ⟨m + 1, _, by omega, by go_num, rfl, FirstOk.hit hk0 HX.out HG.out, ox2, o12, oz2, b12⟩
                      case measure => simp [intOf]; omega
                  · have hmz2 : za.length ≤ m := by omega
                    have HP : Hid (drawV (zb.drop (m - za.length)) x = g) := (hJ.out.draw_right hmz2 x).trans HG.out
                    have hmz' : (za.length : Int) ≤ (m : Int) := by omega
                    rcases hk0 : ((m : Int) == 0) with _ | _
                    · go_wp2_with fail
                      refine (draw_any P P (zj.drop m) x hx1 (mem_drop hzj.out m) (by simp; omega) _ ox).mono ?_
                      rintro e w11 ⟨he, ox1, hg1⟩
                      rw [HG.out] at he
                      subst he
                      rw [tail_drop] at ox1
                      have oy1 := oy.other hg1 (by omega) (Nat.le_refl _)
                      have oz1 := oz.other hg1 (by omega) (Nat.le_refl _)
                      have b11 : Below P w10 w11 := hnx.trans (grown_belowQ hg1 (Nat.le_refl _) (Nat.le_of_lt ox.lt))
                      have hcn2 : w11.cell? ⟨b, o + m, none⟩ = some (.int .i64 x) := (b11.cell hbP).trans hcn
                      clear hg1 hcn1 ox oy oz hnx
                      go_wp2_with fail
                      refine (draw_any P (P + 2) (zb.drop (m - za.length)) x hx1 (mem_drop hzb _) (by simp; omega) _ oz1).mono ?_
                      rintro e w12 ⟨he, o12, hg2⟩
                      rw [HP.out] at he
                      subst he
                      rw [drop_next hmz2] at o12
                      have ox2 := ox1.other hg2 (by omega) (by omega)
                      have oy2 := oy1.other hg2 (by omega) (by omega)
                      rw [drop_past hmz2] at oy2
                      have b12 : Below P w10 w12 := b11.trans (grown_belowQ hg2 (by omega) (Nat.le_of_lt ox1.lt))
                      clear hg2 hcn hcn2 ox1 oy1 oz1 b11 HP
                      go_wp2_with fail
                      go_roundw
                      case rel => exact ⟨m + 1, _, by omega, by go_num, rfl, hF.stay hk0, ox2, oy2, o12, b12⟩
                      case measure => simp [intOf]; omega
                    · go_wp2_with fail
                      refine (draw_any P P (zj.drop m) x hx1 (mem_drop hzj.out m) (by simp; omega) _ ox).mono ?_
                      rintro e w11 ⟨he, ox1, hg1⟩
                      rw [HG.out] at he
                      subst he
                      rw [tail_drop] at ox1
                      have oy1 := oy.other hg1 (by omega) (Nat.le_refl _)
                      have oz1 := oz.other hg1 (by omega) (Nat.le_refl _)
                      have b11 : Below P w10 w11 := hnx.trans (grown_belowQ hg1 (Nat.le_refl _) (Nat.le_of_lt ox.lt))
                      have hcn2 : w11.cell? ⟨b, o + m, none⟩ = some (.int .i64 x) := (b11.cell hbP).trans hcn
                      clear hg1 hcn1 ox oy oz hnx
                      go_wp2_with fail
                      refine (draw_any P (P + 2) (zb.drop (m - za.length)) x hx1 (mem_drop hzb _) (by simp; omega) _ oz1).mono ?_
                      rintro e w12 ⟨he, o12, hg2⟩
                      rw [HP.out] at he
                      subst he
                      rw [drop_next hmz2] at o12
                      have ox2 := ox1.other hg2 (by omega) (by omega)
                      have oy2 := oy1.other hg2 (by omega) (by omega)
                      rw [drop_past hmz2] at oy2
                      have b12 : Below P w10 w12 := b11.trans (grown_belowQ hg2 (by omega) (Nat.le_of_lt ox1.lt))
                      clear hg2 hcn hcn2 ox1 oy1 oz1 b11 HP
                      go_wp2_with fail
                      go_roundw
                      case rel => exact ⟨m + 1, _, by omega, by go_num, rfl, FirstOk.hit hk0 HX.out HG.out, ox2, oy2, o12, b12⟩
                      case measure => simp [intOf]; omega
                · have hmn : m = ns.length := by omega
                  subst hmn
                  have hx1 : 0 < ns.length → 1 ≤ ns.getD 0 0 := fun h => hp 0 h
                  have hbe : Below w1.heap.size w1 wr := hB10.trans (hnx.mono hle)
                  have q5 : IntsIn P .u8 wr a5 za := k5'.keep hnx
                  have q6 : IntsIn P .u8 wr a6 zb := k6'.keep hnx
                  have q2 : IntsIn P .i64 wr a2 ns := k2'.keep hnx
                  obtain ⟨ax, cx, hcx, _, hix⟩ := ox.ex
                  obtain ⟨ay, cy, hcy, _, hiy⟩ := oy.ex
                  obtain ⟨az, cz, hcz, _, hiz⟩ := oz.ex
                  have L5 : Hid _ := hJ.out.rest_left ns.length
                  have L6 : Hid _ := hJ.out.rest_right ns.length
                  have rl := hJ.out.rest_len ns.length
                  have rl1 : (zj.drop ns.length).length ≤ (za.drop ns.length).length + (zb.drop (ns.length - za.length)).length := by omega
                  have rl2 : (za.drop ns.length).length + (zb.drop (ns.length - za.length)).length ≤ (zj.drop ns.length).length := by omega
                  have rt : (zj.drop ns.length).length = za.length + zb.length - ns.length := by rw [List.length_drop, hJ.out.len]
                  have rt1 : (zj.drop ns.length).length ≤ za.length + zb.length - ns.length := by omega
                  have rt2 : za.length + zb.length - ns.length ≤ (zj.drop ns.length).length := by omega
                  have hj0 : Hid (zj.length = za.length + zb.length) := hJ.out.len
                  have hjA : Hid (0 < za.length → zj.getD 0 0 = za.getD 0 0) := fun h => hJ.out.left 0 h
                  have hjB : Hid (za.length = 0 → 0 < zb.length → zj.getD 0 0 = zb.getD 0 0) := fun h h' => by have := hJ.out.right 0 h'; rwa [h] at this
                  clear rl rt ox oy oz hnx hJ k5' k6' k2' hB10 hlt hm hp
                  generalize zj.drop ns.length = rx at *
                  generalize za.drop ns.length = ry at *
                  generalize zb.drop (ns.length - za.length) = rz at *
                  have hut : ns.length ≤ za.length + zb.length ∨ za.length + zb.length < ns.length := by omega
                  by_cases hn0 : ns.length = 0
                  · have hn0' : (ns.length : Int) ≤ 0 := by omega
                    clear hn0
                    clear q5 q6 q2 hF hzj hx1 hj0 hjA hjB
                    rcases hut with hut | hut
                    · go_wp2_with fail
                      refine (bytesData_any P ax _ cx _ hcx).mono ?_
                      rintro e w13 ⟨rfl, rfl⟩
                      go_wp2_with fail
                      refine (bytesData_any (P + 1) ay _ cy _ hcy).mono ?_
                      rintro e w14 ⟨rfl, rfl⟩
                      go_wp2_with fail
                      refine (bytesData_any (P + 2) az _ cz _ hcz).mono ?_
                      rintro e w15 ⟨rfl, rfl⟩
                      clear hcx hcy hcz
                      go_wp2_with fail
                      go_loopw [26] (fun i wi => ∃ q : Nat, q ≤ ry.length ∧ i = .int .i64 q ∧ Below w15.heap.size w15 wi) (fun i _ => ry.length - (intOf i).toNat)
                      case atStart => exact ⟨0, Nat.zero_le _, rfl, Below.refl _ _⟩
                      case round =>
                        obtain ⟨q, hq, rfl, hny⟩ := hrel
                        by_cases hqt : q < ry.length
                        · obtain ⟨heq, hin⟩ := L5.out q hqt
                          obtain ⟨b1, o1, rfl, _, hc1⟩ := hix q hin
                          obtain ⟨b2, o2, rfl, _, hc2⟩ := hiy q hqt
                          have hc1' := cell_later hny hc1
                          have hc2' := cell_later hny hc2
                          rw [heq] at hc2'
                          clear hc1 hc2 hix hiy hiz heq L5 L6
                          generalize rx.getD q 0 = y at hc1' hc2'
                          have hqt' : (q : Int) < (ry.length : Int) := by omega
                          have hin' : (q : Int) < (rx.length : Int) := by omega
                          go_wp2
                          go_quiet (fail)
                          go_wp2
                          go_roundw
                          case rel => exact ⟨q + 1, by omega, by go_num, below_drewN hny _⟩
                          case measure => simp [intOf]; omega
                        · obtain ⟨wv, rfl⟩ : ∃ wv : World, wv = wr := ⟨_, rfl⟩
                          go_wp2_with fail
                          go_loopw [27] (fun i wi => ∃ q : Nat, q ≤ rz.length ∧ i = .int .i64 q ∧ Below w15.heap.size w15 wi) (fun i _ => rz.length - (intOf i).toNat)
                          case atStart => exact ⟨0, Nat.zero_le _, rfl, hny⟩
                          case round =>
                            clear hny
                            obtain ⟨t, ht, rfl, hny⟩ := hrel
                            by_cases htt : t < rz.length
                            · obtain ⟨heq, hin⟩ := L6.out t htt
                              obtain ⟨b1, o1, rfl, _, hc1⟩ := hix (ry.length + t) hin
                              obtain ⟨b2, o2, rfl, _, hc2⟩ := hiz t htt
                              have hc1' := cell_later hny hc1
                              have hc2' := cell_later hny hc2
                              rw [heq] at hc2'
                              clear hc1 hc2 hix hiy hiz heq L5 L6
                              generalize rx.getD (ry.length + t) 0 = y at hc1' hc2'
                              have htt' : (t : Int) < (rz.length : Int) := by omega
                              have hin' : (ry.length : Int) + (t : Int) < (rx.length : Int) := by omega
                              have hadd : ((ry.length : Int) + (t : Int)).toNat = ry.length + t := by omega
                              go_wp2
                              go_quiet (fail)
                              go_wp2
                              go_roundw
                              case rel => exact ⟨t + 1, by omega, by go_num, below_drewN hny _⟩
                              case measure => simp [intOf]; omega
                            · go_wp2
                              go_ret
                              exact ⟨rfl, hbe.trans (hny.mono hbe.size)⟩
                    · exact absurd hut (by omega)
                  · have hn0' : (0 : Int) < (ns.length : Int) := by omega
                    by_cases ht0 : za.length + zb.length = 0
                    · have ht0' : (za.length : Int) + (zb.length : Int) ≤ 0 := by omega
                      clear ht0 hn0
                      clear q5 q6 q2 hF hzj hx1 hj0 hjA hjB
                      rcases hut with hut | hut
                      · exact absurd hut (by omega)
                      · go_wp2_with fail
                        refine (bytesData_any P ax _ cx _ hcx).mono ?_
                        rintro e w13 ⟨rfl, rfl⟩
                        go_wp2_with fail
                        refine (bytesData_any (P + 1) ay _ cy _ hcy).mono ?_
                        rintro e w14 ⟨rfl, rfl⟩
                        go_wp2_with fail
                        refine (bytesData_any (P + 2) az _ cz _ hcz).mono ?_
                        rintro e w15 ⟨rfl, rfl⟩
                        clear hcx hcy hcz
                        go_wp2_with fail
                        go_loopw [26] (fun i wi => ∃ q : Nat, q ≤ ry.length ∧ i = .int .i64 q ∧ Below w15.heap.size w15 wi) (fun i _ => ry.length - (intOf i).toNat)
                        case atStart => exact ⟨0, Nat.zero_le _, rfl, Below.refl _ _⟩
                        case round =>
                          obtain ⟨q, hq, rfl, hny⟩ := hrel
                          by_cases hqt : q < ry.length
                          · obtain ⟨heq, hin⟩ := L5.out q hqt
                            obtain ⟨b1, o1, rfl, _, hc1⟩ := hix q hin
                            obtain ⟨b2, o2, rfl, _, hc2⟩ := hiy q hqt
                            have hc1' := cell_later hny hc1
                            have hc2' := cell_later hny hc2
                            rw [heq] at hc2'
                            clear hc1 hc2 hix hiy hiz heq L5 L6
                            generalize rx.getD q 0 = y at hc1' hc2'
                            have hqt' : (q : Int) < (ry.length : Int) := by omega
                            have hin' : (q : Int) < (rx.length : Int) := by omega
                            go_wp2
                            go_quiet (fail)
                            go_wp2
                            go_roundw
                            case rel => exact ⟨q + 1, by omega, by go_num, below_drewN hny _⟩
                            case measure => simp [intOf]; omega
                          · obtain ⟨wv, rfl⟩ : ∃ wv : World, wv = wr := ⟨_, rfl⟩
                            go_wp2_with fail
                            go_loopw [27] (fun i wi => ∃ q : Nat, q ≤ rz.length ∧ i = .int .i64 q ∧ Below w15.heap.size w15 wi) (fun i _ => rz.length - (intOf i).toNat)
                            case atStart => exact ⟨0, Nat.zero_le _, rfl, hny⟩
                            case round =>
                              clear hny
                              obtain ⟨t, ht, rfl, hny⟩ := hrel
                              by_cases htt : t < rz.length
                              · obtain ⟨heq, hin⟩ := L6.out t htt
                                obtain ⟨b1, o1, rfl, _, hc1⟩ := hix (ry.length + t) hin
                                obtain ⟨b2, o2, rfl, _, hc2⟩ := hiz t htt
                                have hc1' := cell_later hny hc1
                                have hc2' := cell_later hny hc2
                                rw [heq] at hc2'
                                clear hc1 hc2 hix hiy hiz heq L5 L6
                                generalize rx.getD (ry.length + t) 0 = y at hc1' hc2'
                                have htt' : (t : Int) < (rz.length : Int) := by omega
                                have hin' : (ry.length : Int) + (t : Int) < (rx.length : Int) := by omega
                                have hadd : ((ry.length : Int) + (t : Int)).toNat = ry.length + t := by omega
                                go_wp2
                                go_quiet (fail)
                                go_wp2
                                go_roundw
                                case rel => exact ⟨t + 1, by omega, by go_num, below_drewN hny _⟩
                                case measure => simp [intOf]; omega
                              · go_wp2
                                go_ret
                                exact ⟨rfl, hbe.trans (hny.mono hbe.size)⟩
                    · have ht0' : (0 : Int) < (za.length : Int) + (zb.length : Int) := by omega
                      have hx1' : 1 ≤ ns.getD 0 0 := hx1 (by omega)
                      obtain ⟨b0, o0, rfl, _, hcn⟩ := q2 0 (by omega)
                      simp only [Nat.add_zero] at hcn
                      generalize hx0 : ns.getD 0 0 = x0 at hcn hx1'
                      by_cases hA0 : 0 < za.length
                      · obtain ⟨bk, ok, rfl, _, hck⟩ := q5 0 (by omega)
                        simp only [Nat.add_zero] at hck
                        obtain ⟨hy0, hy1⟩ := getD_byte hza (show 0 < za.length by omega)
                        have hfv : f = za.getD 0 0 % x0 := hF.val (by omega) hx0 (by rw [hj0.out]; omega) (hjA.out hA0)
                        subst hfv
                        have hA0' : (0 : Int) < (za.length : Int) := by omega
                        generalize za.getD 0 0 = y0 at hck hy0 hy1
                        clear q5 q6 q2 hF hzj hx1 hj0 hjA hjB hx0 ht0 hn0
                        go_wp2_with fail
                        refine (reduce_any y0 x0 hy0 hy1 hx1' _).mono ?_
                        rintro e w12 ⟨rfl, rfl⟩
                        clear hck hcn hy0 hy1 hx1'
                        rcases hut with hut | hut
                        · go_wp2_with fail
                          refine (bytesData_any P ax _ cx _ hcx).mono ?_
                          rintro e w13 ⟨rfl, rfl⟩
                          go_wp2_with fail
                          refine (bytesData_any (P + 1) ay _ cy _ hcy).mono ?_
                          rintro e w14 ⟨rfl, rfl⟩
                          go_wp2_with fail
                          refine (bytesData_any (P + 2) az _ cz _ hcz).mono ?_
                          rintro e w15 ⟨rfl, rfl⟩
                          clear hcx hcy hcz
                          go_wp2_with fail
                          go_loopw [26] (fun i wi => ∃ q : Nat, q ≤ ry.length ∧ i = .int .i64 q ∧ Below w15.heap.size w15 wi) (fun i _ => ry.length - (intOf i).toNat)
                          case atStart => exact ⟨0, Nat.zero_le _, rfl, Below.refl _ _⟩
                          case round =>
                            obtain ⟨q, hq, rfl, hny⟩ := hrel
                            by_cases hqt : q < ry.length
                            · obtain ⟨heq, hin⟩ := L5.out q hqt
                              obtain ⟨b1, o1, rfl, _, hc1⟩ := hix q hin
                              obtain ⟨b2, o2, rfl, _, hc2⟩ := hiy q hqt
                              have hc1' := cell_later hny hc1
                              have hc2' := cell_later hny hc2
                              rw [heq] at hc2'
                              clear hc1 hc2 hix hiy hiz heq L5 L6
                              generalize rx.getD q 0 = y at hc1' hc2'
                              have hqt' : (q : Int) < (ry.length : Int) := by omega
                              have hin' : (q : Int) < (rx.length : Int) := by omega
                              go_wp2
                              go_quiet (fail)
                              go_wp2
                              go_roundw
                              case rel => exact ⟨q + 1, by omega, by go_num, below_drewN hny _⟩
                              case measure => simp [intOf]; omega
                            · obtain ⟨wv, rfl⟩ : ∃ wv : World, wv = wr := ⟨_, rfl⟩
                              go_wp2_with fail
                              go_loopw [27] (fun i wi => ∃ q : Nat, q ≤ rz.length ∧ i = .int .i64 q ∧ Below w15.heap.size w15 wi) (fun i _ => rz.length - (intOf i).toNat)
                              case atStart => exact ⟨0, Nat.zero_le _, rfl, hny⟩
                              case round =>
                                clear hny
                                obtain ⟨t, ht, rfl, hny⟩ := hrel
                                by_cases htt : t < rz.length
                                · obtain ⟨heq, hin⟩ := L6.out t htt
                                  obtain ⟨b1, o1, rfl, _, hc1⟩ := hix (ry.length + t) hin
                                  obtain ⟨b2, o2, rfl, _, hc2⟩ := hiz t htt
                                  have hc1' := cell_later hny hc1
                                  have hc2' := cell_later hny hc2
                                  rw [heq] at hc2'
                                  clear hc1 hc2 hix hiy hiz heq L5 L6
                                  generalize rx.getD (ry.length + t) 0 = y at hc1' hc2'
                                  have htt' : (t : Int) < (rz.length : Int) := by omega
                                  have hin' : (ry.length : Int) + (t : Int) < (rx.length : Int) := by omega
                                  have hadd : ((ry.length : Int) + (t : Int)).toNat = ry.length + t := by omega
                                  go_wp2
                                  go_quiet (fail)
                                  go_wp2
                                  go_roundw
                                  case rel => exact ⟨t + 1, by omega, by go_num, below_drewN hny _⟩
                                  case measure => simp [intOf]; omega
                                · go_wp2
                                  go_ret
                                  exact ⟨rfl, hbe.trans (hny.mono hbe.size)⟩
                        · go_wp2_with fail
                          refine (bytesData_any P ax _ cx _ hcx).mono ?_
                          rintro e w13 ⟨rfl, rfl⟩
                          go_wp2_with fail
                          refine (bytesData_any (P + 1) ay _ cy _ hcy).mono ?_
                          rintro e w14 ⟨rfl, rfl⟩
                          go_wp2_with fail
                          refine (bytesData_any (P + 2) az _ cz _ hcz).mono ?_
                          rintro e w15 ⟨rfl, rfl⟩
                          clear hcx hcy hcz
                          go_wp2_with fail
                          go_loopw [26] (fun i wi => ∃ q : Nat, q ≤ ry.length ∧ i = .int .i64 q ∧ Below w15.heap.size w15 wi) (fun i _ => ry.length - (intOf i).toNat)
                          case atStart => exact ⟨0, Nat.zero_le _, rfl, Below.refl _ _⟩
                          case round =>
                            obtain ⟨q, hq, rfl, hny⟩ := hrel
                            by_cases hqt : q < ry.length
                            · obtain ⟨heq, hin⟩ := L5.out q hqt
                              obtain ⟨b1, o1, rfl, _, hc1⟩ := hix q hin
                              obtain ⟨b2, o2, rfl, _, hc2⟩ := hiy q hqt
                              have hc1' := cell_later hny hc1
                              have hc2' := cell_later hny hc2
                              rw [heq] at hc2'
                              clear hc1 hc2 hix hiy hiz heq L5 L6
                              generalize rx.getD q 0 = y at hc1' hc2'
                              have hqt' : (q : Int) < (ry.length : Int) := by omega
                              have hin' : (q : Int) < (rx.length : Int) := by omega
                              go_wp2
                              go_quiet (fail)
                              go_wp2
                              go_roundw
                              case rel => exact ⟨q + 1, by omega, by go_num, below_drewN hny _⟩
                              case measure => simp [intOf]; omega
                            · obtain ⟨wv, rfl⟩ : ∃ wv : World, wv = wr := ⟨_, rfl⟩
                              go_wp2_with fail
                              go_loopw [27] (fun i wi => ∃ q : Nat, q ≤ rz.length ∧ i = .int .i64 q ∧ Below w15.heap.size w15 wi) (fun i _ => rz.length - (intOf i).toNat)
                              case atStart => exact ⟨0, Nat.zero_le _, rfl, hny⟩
                              case round =>
                                clear hny
                                obtain ⟨t, ht, rfl, hny⟩ := hrel
                                by_cases htt : t < rz.length
                                · obtain ⟨heq, hin⟩ := L6.out t htt
                                  obtain ⟨b1, o1, rfl, _, hc1⟩ := hix (ry.length + t) hin
                                  obtain ⟨b2, o2, rfl, _, hc2⟩ := hiz t htt
                                  have hc1' := cell_later hny hc1
                                  have hc2' := cell_later hny hc2
                                  rw [heq] at hc2'
                                  clear hc1 hc2 hix hiy hiz heq L5 L6
                                  generalize rx.getD (ry.length + t) 0 = y at hc1' hc2'
                                  have htt' : (t : Int) < (rz.length : Int) := by omega
                                  have hin' : (ry.length : Int) + (t : Int) < (rx.length : Int) := by omega
                                  have hadd : ((ry.length : Int) + (t : Int)).toNat = ry.length + t := by omega
                                  go_wp2
                                  go_quiet (fail)
                                  go_wp2
                                  go_roundw
                                  case rel => exact ⟨t + 1, by omega, by go_num, below_drewN hny _⟩
                                  case measure => simp [intOf]; omega
                                · go_wp2
                                  go_ret
                                  exact ⟨rfl, hbe.trans (hny.mono hbe.size)⟩
                      · obtain ⟨bk, ok, rfl, _, hck⟩ := q6 0 (by omega)
                        simp only [Nat.add_zero] at hck
                        obtain ⟨hy0, hy1⟩ := getD_byte hzb (show 0 < zb.length by omega)
                        have hfv : f = zb.getD 0 0 % x0 := hF.val (by omega) hx0 (by rw [hj0.out]; omega) (hjB.out (by omega) (by omega))
                        subst hfv
                        have hA0' : (za.length : Int) ≤ 0 := by omega
                        generalize zb.getD 0 0 = y0 at hck hy0 hy1
                        clear q5 q6 q2 hF hzj hx1 hj0 hjA hjB hx0 ht0 hn0
                        go_wp2_with fail
                        refine (reduce_any y0 x0 hy0 hy1 hx1' _).mono ?_
                        rintro e w12 ⟨rfl, rfl⟩
                        clear hck hcn hy0 hy1 hx1'
                        rcases hut with hut | hut
                        · go_wp2_with fail
                          refine (bytesData_any P ax _ cx _ hcx).mono ?_
                          rintro e w13 ⟨rfl, rfl⟩
                          go_wp2_with fail
                          refine (bytesData_any (P + 1) ay _ cy _ hcy).mono ?_
                          rintro e w14 ⟨rfl, rfl⟩
                          go_wp2_with fail
                          refine (bytesData_any (P + 2) az _ cz _ hcz).mono ?_
                          rintro e w15 ⟨rfl, rfl⟩
                          clear hcx hcy hcz
                          go_wp2_with fail
                          go_loopw [26] (fun i wi => ∃ q : Nat, q ≤ ry.length ∧ i = .int .i64 q ∧ Below w15.heap.size w15 wi) (fun i _ => ry.length - (intOf i).toNat)
                          case atStart => exact ⟨0, Nat.zero_le _, rfl, Below.refl _ _⟩
                          case round =>
                            obtain ⟨q, hq, rfl, hny⟩ := hrel
                            by_cases hqt : q < ry.length
                            · obtain ⟨heq, hin⟩ := L5.out q hqt
                              obtain ⟨b1, o1, rfl, _, hc1⟩ := hix q hin
                              obtain ⟨b2, o2, rfl, _, hc2⟩ := hiy q hqt
                              have hc1' := cell_later hny hc1
                              have hc2' := cell_later hny hc2
                              rw [heq] at hc2'
                              clear hc1 hc2 hix hiy hiz heq L5 L6
                              generalize rx.getD q 0 = y at hc1' hc2'
                              have hqt' : (q : Int) < (ry.length : Int) := by omega
                              have hin' : (q : Int) < (rx.length : Int) := by omega
                              go_wp2
                              go_quiet (fail)
                              go_wp2
                              go_roundw
                              case rel => exact ⟨q + 1, by omega, by go_num, below_drewN hny _⟩
                              case measure => simp [intOf]; omega
                            · obtain ⟨wv, rfl⟩ : ∃ wv : World, wv = wr := ⟨_, rfl⟩
                              go_wp2_with fail
                              go_loopw [27] (fun i wi => ∃ q : Nat, q ≤ rz.length ∧ i = .int .i64 q ∧ Below w15.heap.size w15 wi) (fun i _ => rz.length - (intOf i).toNat)
                              case atStart => exact ⟨0, Nat.zero_le _, rfl, hny⟩
                              case round =>
                                clear hny
                                obtain ⟨t, ht, rfl, hny⟩ := hrel
                                by_cases htt : t < rz.length
                                · obtain ⟨heq, hin⟩ := L6.out t htt
                                  obtain ⟨b1, o1, rfl, _, hc1⟩ := hix (ry.length + t) hin
                                  obtain ⟨b2, o2, rfl, _, hc2⟩ := hiz t htt
                                  have hc1' := cell_later hny hc1
                                  have hc2' := cell_later hny hc2
                                  rw [heq] at hc2'
                                  clear hc1 hc2 hix hiy hiz heq L5 L6
                                  generalize rx.getD (ry.length + t) 0 = y at hc1' hc2'
                                  have htt' : (t : Int) < (rz.length : Int) := by omega
                                  have hin' : (ry.length : Int) + (t : Int) < (rx.length : Int) := by omega
                                  have hadd : ((ry.length : Int) + (t : Int)).toNat = ry.length + t := by omega
                                  go_wp2
                                  go_quiet (fail)
                                  go_wp2
                                  go_roundw
                                  case rel => exact ⟨t + 1, by omega, by go_num, below_drewN hny _⟩
                                  case measure => simp [intOf]; omega
                                · go_wp2
                                  go_ret
                                  exact ⟨rfl, hbe.trans (hny.mono hbe.size)⟩
                        · go_wp2_with fail
                          refine (bytesData_any P ax _ cx _ hcx).mono ?_
                          rintro e w13 ⟨rfl, rfl⟩
                          go_wp2_with fail
                          refine (bytesData_any (P + 1) ay _ cy _ hcy).mono ?_
                          rintro e w14 ⟨rfl, rfl⟩
                          go_wp2_with fail
                          refine (bytesData_any (P + 2) az _ cz _ hcz).mono ?_
                          rintro e w15 ⟨rfl, rfl⟩
                          clear hcx hcy hcz
                          go_wp2_with fail
                          go_loopw [26] (fun i wi => ∃ q : Nat, q ≤ ry.length ∧ i = .int .i64 q ∧ Below w15.heap.size w15 wi) (fun i _ => ry.length - (intOf i).toNat)
                          case atStart => exact ⟨0, Nat.zero_le _, rfl, Below.refl _ _⟩
                          case round =>
                            obtain ⟨q, hq, rfl, hny⟩ := hrel
                            by_cases hqt : q < ry.length
                            · obtain ⟨heq, hin⟩ := L5.out q hqt
                              obtain ⟨b1, o1, rfl, _, hc1⟩ := hix q hin
                              obtain ⟨b2, o2, rfl, _, hc2⟩ := hiy q hqt
                              have hc1' := cell_later hny hc1
                              have hc2' := cell_later hny hc2
                              rw [heq] at hc2'
                              clear hc1 hc2 hix hiy hiz heq L5 L6
                              generalize rx.getD q 0 = y at hc1' hc2'
                              have hqt' : (q : Int) < (ry.length : Int) := by omega
                              have hin' : (q : Int) < (rx.length : Int) := by omega
                              go_wp2
                              go_quiet (fail)
                              go_wp2
                              go_roundw
                              case rel => exact ⟨q + 1, by omega, by go_num, below_drewN hny _⟩
                              case measure => simp [intOf]; omega
                            · obtain ⟨wv, rfl⟩ : ∃ wv : World, wv = wr := ⟨_, rfl⟩
                              go_wp2_with fail
                              go_loopw [27] (fun i wi => ∃ q : Nat, q ≤ rz.length ∧ i = .int .i64 q ∧ Below w15.heap.size w15 wi) (fun i _ => rz.length - (intOf i).toNat)
                              case atStart => exact ⟨0, Nat.zero_le _, rfl, hny⟩
                              case round =>
                                clear hny
                                obtain ⟨t, ht, rfl, hny⟩ := hrel
                                by_cases htt : t < rz.length
                                · obtain ⟨heq, hin⟩ := L6.out t htt
                                  obtain ⟨b1, o1, rfl, _, hc1⟩ := hix (ry.length + t) hin
                                  obtain ⟨b2, o2, rfl, _, hc2⟩ := hiz t htt
                                  have hc1' := cell_later hny hc1
                                  have hc2' := cell_later hny hc2
                                  rw [heq] at hc2'
                                  clear hc1 hc2 hix hiy hiz heq L5 L6
                                  generalize rx.getD (ry.length + t) 0 = y at hc1' hc2'
                                  have htt' : (t : Int) < (rz.length : Int) := by omega
                                  have hin' : (ry.length : Int) + (t : Int) < (rx.length : Int) := by omega
                                  have hadd : ((ry.length : Int) + (t : Int)).toNat = ry.length + t := by omega
                                  go_wp2
                                  go_quiet (fail)
                                  go_wp2
                                  go_roundw
                                  case rel => exact ⟨t + 1, by omega, by go_num, below_drewN hny _⟩
                                  case measure => simp [intOf]; omega
                                · go_wp2
                                  go_ret
                                  exact ⟨rfl, hbe.trans (hny.mono hbe.size)⟩
end Go.Proofs.Qxb6628303a
