import Derived.Test.Qxb6628303aBytes
namespace Go.Proofs.Qxb6628303a
open Go.RowKit

/-- The first k counts are at least 1. -/
def PosTo (ns : List Int) (k : Nat) : Prop := ∀ j, j < k → 1 ≤ ns.getD j 0
theorem PosTo.succ {ns : List Int} {k : Nat} {x : Int} (h : PosTo ns k) (hx : ns.getD k 0 = x) (h1 : 1 ≤ x) : PosTo ns (k + 1) := fun j hj => by
  by_cases e : j = k
  · subst e; omega
  · exact h j (by omega)

theorem drop_cons {zs : List Int} {k : Nat} (h : k < zs.length) : zs.drop k = zs.getD k 0 :: zs.drop (k + 1) := by
  rw [List.drop_eq_getElem_cons h]
  simp [List.getD, h]
theorem drawV_lt {zs : List Int} {k : Nat} {n : Int} (h : k < zs.length) : drawV (zs.drop k) n = zs.getD k 0 % n := by rw [drop_cons h]; rfl
theorem drawV_ge {zs : List Int} {k : Nat} {n : Int} (h : zs.length ≤ k) : drawV (zs.drop k) n = 0 := by rw [List.drop_eq_nil_of_le h]; rfl
theorem tail_drop {zs : List Int} {k : Nat} : (zs.drop k).tail = zs.drop (k + 1) := by simp
theorem getD_byte {zs : List Int} (h : ∀ z ∈ zs, IsByte z) {k : Nat} (hk : k < zs.length) : IsByte (zs.getD k 0) := h _ (by simp [List.getD, hk])

theorem grown_below {P : Nat} {w w' : World} (hg : w.grownBy w' (some P)) (hP : P ≤ w.heap.size) : Below P w w' :=
  ⟨hg.os, hg.tape, hg.output, hg.size, fun k hk => hg.block k (by omega) (fun e => by cases e; omega)⟩

theorem newObj {w : World} {a : Option Addr} {c : Nat} {zs : List Int} (h : IntsIn w.heap.size .u8 w a zs) (hc : zs.length ≤ c) : BytesObj w.heap.size w.heap.size (w.alloc (.cells #[.slice a zs.length c] 33)) zs :=
  ⟨⟨a, c, by simp, hc, h.keep ((Below.refl _ _).alloc (Nat.le_refl _) _)⟩, by simp, Nat.le_refl _⟩

set_option maxRecDepth 100000 in
set_option maxHeartbeats 1000000 in
theorem law1 (a0 a1 : Option Addr) (c0 c1 : Nat) (zs ns : List Int) (w : World) (h0 : IntsIn w.heap.size .u8 w a0 zs) (hz : ∀ z ∈ zs, IsByte z) (hnil0 : a0 = none → zs = [] ∧ c0 = 0) (h1 : IntsIn w.heap.size .i64 w a1 ns) :
    Calls Try.prog 3 #[.slice a0 zs.length c0, .slice a1 ns.length c1] w fun e w' => e = .returned (.bool true) ∧ Below w.heap.size w w' := by
  go_enter Try.func3, Try.ntmps3
  go_wp2_with fail
  refine (bytes1_any _ _ _ _ _ _ _).mono ?_
  rintro e w1 ⟨⟨b1, rfl⟩, rfl⟩
  cases b1
  · go_wp2
    go_ret
    exact ⟨rfl, Below.refl _ _⟩
  by_cases hzl : 65536 < zs.length
  · go_wp2
    go_ret
    exact ⟨rfl, Below.refl _ _⟩
  have hzl' : zs.length ≤ 65536 := by omega
  clear hzl
  by_cases hnl : 65536 < ns.length
  · go_wp2
    go_ret
    exact ⟨rfl, Below.refl _ _⟩
  have hnl' : ns.length ≤ 65536 := by omega
  clear hnl
  go_wp2
  go_loop [5] (fun i => ∃ k : Nat, k ≤ ns.length ∧ i = .int .i64 k ∧ PosTo ns k) (fun i => ns.length - (intOf i).toNat)
  case atStart => exact ⟨0, Nat.zero_le _, rfl, fun j hj => by omega⟩
  case round =>
    obtain ⟨k, hk, rfl, hpos⟩ := hrel
    by_cases hlt : k < ns.length
    · obtain ⟨b, o, rfl, _, hc⟩ := h1 k hlt
      generalize hx : ns.getD k 0 = x at hc
      have HX : Hid (ns.getD k 0 = x) := hx
      clear hx
      have hlt' : (k : Int) < (ns.length : Int) := by omega
      by_cases hx1 : x < 1
      · go_wp2
        go_ret
        exact ⟨rfl, Below.refl _ _⟩
      · go_wp2
        go_round
        case rel => exact ⟨k + 1, by omega, by go_num, hpos.succ HX.out (by omega)⟩
        case measure => simp [intOf]; omega
    · have hp : PosTo ns ns.length := by rw [show ns.length = k by omega]; exact hpos
      clear hpos
      go_wp2_with fail
      refine (clone_any a0 c0 zs _ h0 hnil0 (by omega)).mono ?_
      rintro e w2 ⟨a2, c2, rfl, hc2, hnil2, hi2, hb2⟩
      go_wp2_with fail
      refine (clone_any a2 c2 zs _ hi2 hnil2 (by omega)).mono ?_
      rintro e w3 ⟨a3, c3, rfl, hc3, _, hi3, hb3⟩
      have hi2' : IntsIn w3.heap.size .u8 w3 a2 zs := (hi2.keep hb3).mono hb3.size
      have hb3' : Below w1.heap.size w1 w3 := hb2.trans (hb3.mono hb2.size)
      have h1' : IntsIn w3.heap.size .i64 w3 a1 ns := (h1.keep hb3').mono hb3'.size
      clear hi2 hb2 hb3 h1 h0 hnil0 hnil2 hlt hk
      go_wp2_with fail
      refine (newBytes_any _ _ _ _).mono ?_
      rintro e w4 ⟨rfl, hw4⟩
      have hobj : BytesObj w3.heap.size w3.heap.size w4 zs := by rw [hw4]; exact newObj hi2' hc2
      have hb4 : Below w3.heap.size w3 w4 := by rw [hw4]; exact (Below.refl _ _).alloc (Nat.le_refl _) _
      clear hw4 hi2' hc2
      have hi3' : IntsIn w3.heap.size .u8 w4 a3 zs := hi3.keep hb4
      have h1'' : IntsIn w3.heap.size .i64 w4 a1 ns := h1'.keep hb4
      have hb4' : Below w1.heap.size w1 w4 := hb3'.trans (hb4.mono hb3'.size)
      have hle : w1.heap.size ≤ w3.heap.size := hb3'.size
      clear hi3 h1' hb4 hb3'
      generalize w3.heap.size = P at *
      go_wp2_with fail
      go_loopw [8] (fun i wr => ∃ m : Nat, m ≤ ns.length ∧ i = .int .i64 m ∧ BytesObj P P wr (zs.drop m) ∧ Below P w4 wr) (fun i _ => ns.length - (intOf i).toNat)
      case atStart => exact ⟨0, Nat.zero_le _, rfl, hobj, Below.refl _ _⟩
      case round =>
        clear hobj
        obtain ⟨m, hm, rfl, hobj, hnx⟩ := hrel
        by_cases hlt : m < ns.length
        · have hx1 : 1 ≤ ns.getD m 0 := hp m hlt
          obtain ⟨b, o, rfl, hbP, hcn⟩ := h1'' m hlt
          generalize ns.getD m 0 = x at hcn hx1
          have hcn1 : wr.cell? ⟨b, o + m, none⟩ = some (.int .i64 x) := (hnx.cell hbP).trans hcn
          have hlt' : (m : Int) < (ns.length : Int) := by omega
          have hdz : ∀ z ∈ zs.drop m, IsByte z := fun z hz' => hz z (List.mem_of_mem_drop hz')
          by_cases hmz : m < zs.length
          · have HV : Hid (drawV (zs.drop m) x = zs.getD m 0 % x) := drawV_lt hmz
            obtain ⟨hy0, hy1⟩ := getD_byte hz hmz
            obtain ⟨b2, o2, rfl, hbP2, hck⟩ := hi3' m hmz
            generalize zs.getD m 0 = y at hck hy0 hy1 HV
            have hmz' : (m : Int) < (zs.length : Int) := by omega
            go_wp2_with fail
            refine (draw_any P P (zs.drop m) x hx1 hdz (by simp; omega) _ hobj).mono ?_
            rintro e w5 ⟨he, hobj', hg⟩
            rw [HV.out] at he
            subst he
            rw [tail_drop] at hobj'
            have hB5 : Below P w4 w5 := hnx.trans (grown_below hg (Nat.le_of_lt hobj.lt))
            have hcn2 : w5.cell? ⟨b, o + m, none⟩ = some (.int .i64 x) := (hB5.cell hbP).trans hcn
            have hck2 : w5.cell? ⟨b2, o2 + m, none⟩ = some (.int .u8 y) := (hB5.cell hbP2).trans hck
            clear hg hcn1 hcn hck hobj hnx hdz HV
            go_wp2_with fail
            go_quiet ((go_at_call 9; exact Calls.quiet_of_same (reduce_any _ _ hy0 hy1 hx1 _)))
            go_wp2_with fail
            go_roundw
            case rel => exact ⟨m + 1, by omega, by go_num, ⟨hobj'.ex, hobj'.fr, hobj'.le⟩, below_drewN hB5 _⟩
            case measure => simp [intOf]; omega
          · have HV : Hid (drawV (zs.drop m) x = 0) := drawV_ge (by omega)
            have hmz' : (zs.length : Int) ≤ (m : Int) := by omega
            go_wp2_with fail
            refine (draw_any P P (zs.drop m) x hx1 hdz (by simp; omega) _ hobj).mono ?_
            rintro e w5 ⟨he, hobj', hg⟩
            rw [HV.out] at he
            subst he
            rw [tail_drop] at hobj'
            have hB5 : Below P w4 w5 := hnx.trans (grown_below hg (Nat.le_of_lt hobj.lt))
            clear hg hcn1 hcn hobj hnx hdz HV
            go_wp2_with fail
            go_roundw
            case rel => exact ⟨m + 1, by omega, by go_num, hobj', hB5⟩
            case measure => simp [intOf]; omega
        · have hmn : m = ns.length := by omega
          subst hmn
          clear hp
          by_cases hnz : zs.length < ns.length
          · have HR : Hid (∀ m, m < (zs.drop ns.length).length → (zs.drop ns.length).getD m 0 = zs.getD (zs.length + m) 0 ∧ zs.length + m < zs.length) := fun m h => by simp at h; omega
            have hr0 : (zs.drop ns.length).length ≤ 0 := by simp; omega
            generalize zs.drop ns.length = rs at *
            obtain ⟨ar, cr, hcr, hcr2, hir⟩ := hobj.ex
            have hbe : Below w1.heap.size w1 wr := hb4'.trans (hnx.mono hle)
            have hk3 : IntsIn P .u8 wr a3 zs := hi3'.keep hnx
            have hPs : P < wr.heap.size := hobj.lt
            clear hobj hnx hi3' h1''
            go_wp2_with fail
            refine (bytesData_any P ar _ cr _ hcr).mono ?_
            rintro e w5 ⟨rfl, rfl⟩
            clear hcr
            go_wp2_with fail
            go_loopw [13] (fun j wi => ∃ m : Nat, m ≤ rs.length ∧ j = .int .i64 m ∧ Below w5.heap.size w5 wi) (fun j _ => rs.length - (intOf j).toNat)
            case atStart => exact ⟨0, Nat.zero_le _, rfl, Below.refl _ _⟩
            case round =>
              obtain ⟨m, hm, rfl, hny⟩ := hrel
              by_cases hmt : m < rs.length
              · obtain ⟨heq, hin⟩ := HR.out m hmt
                obtain ⟨b1, o1, rfl, hb1, hc1⟩ := hir m hmt
                obtain ⟨b2, o2, rfl, hb2, hc2⟩ := hk3 (zs.length + m) hin
                have hc1' := cell_later hny hc1
                have hc2' := cell_later hny hc2
                rw [heq] at hc1'
                clear hc1 hc2 hir hk3 heq HR
                generalize zs.getD (zs.length + m) 0 = x at hc1' hc2'
                have hmt' : (m : Int) < (rs.length : Int) := by omega
                have hin' : (zs.length : Int) + (m : Int) < (zs.length : Int) := by omega
                have hadd : ((zs.length : Int) + (m : Int)).toNat = zs.length + m := by omega
                go_wp2
                go_quiet (fail)
                go_wp2
                go_roundw
                case rel => exact ⟨m + 1, by omega, by go_num, below_drewN hny _⟩
                case measure => simp [intOf]; omega
              · go_wp2
                go_ret
                exact ⟨rfl, hbe.trans (hny.mono hbe.size)⟩
          · have HR : Hid (∀ m, m < (zs.drop ns.length).length → (zs.drop ns.length).getD m 0 = zs.getD (ns.length + m) 0 ∧ ns.length + m < zs.length) := fun m h => by
              simp at h
              exact ⟨by simp [List.getD, List.getElem?_drop], by omega⟩
            have hr0 : (zs.drop ns.length).length + ns.length ≤ zs.length := by simp; omega
            have hr1 : zs.length ≤ (zs.drop ns.length).length + ns.length := by simp; omega
            generalize zs.drop ns.length = rs at *
            obtain ⟨ar, cr, hcr, hcr2, hir⟩ := hobj.ex
            have hbe : Below w1.heap.size w1 wr := hb4'.trans (hnx.mono hle)
            have hk3 : IntsIn P .u8 wr a3 zs := hi3'.keep hnx
            have hPs : P < wr.heap.size := hobj.lt
            clear hobj hnx hi3' h1''
            go_wp2_with fail
            refine (bytesData_any P ar _ cr _ hcr).mono ?_
            rintro e w5 ⟨rfl, rfl⟩
            clear hcr
            go_wp2_with fail
            go_loopw [13] (fun j wi => ∃ m : Nat, m ≤ rs.length ∧ j = .int .i64 m ∧ Below w5.heap.size w5 wi) (fun j _ => rs.length - (intOf j).toNat)
            case atStart => exact ⟨0, Nat.zero_le _, rfl, Below.refl _ _⟩
            case round =>
              obtain ⟨m, hm, rfl, hny⟩ := hrel
              by_cases hmt : m < rs.length
              · obtain ⟨heq, hin⟩ := HR.out m hmt
                obtain ⟨b1, o1, rfl, hb1, hc1⟩ := hir m hmt
                obtain ⟨b2, o2, rfl, hb2, hc2⟩ := hk3 (ns.length + m) hin
                have hc1' := cell_later hny hc1
                have hc2' := cell_later hny hc2
                rw [heq] at hc1'
                clear hc1 hc2 hir hk3 heq HR
                generalize zs.getD (ns.length + m) 0 = x at hc1' hc2'
                have hmt' : (m : Int) < (rs.length : Int) := by omega
                have hin' : (ns.length : Int) + (m : Int) < (zs.length : Int) := by omega
                have hadd : ((ns.length : Int) + (m : Int)).toNat = ns.length + m := by omega
                go_wp2
                go_quiet (fail)
                go_wp2
                go_roundw
                case rel => exact ⟨m + 1, by omega, by go_num, below_drewN hny _⟩
                case measure => simp [intOf]; omega
              · go_wp2
                go_ret
                exact ⟨rfl, hbe.trans (hny.mono hbe.size)⟩
end Go.Proofs.Qxb6628303a
