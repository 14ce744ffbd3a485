import Derived.Test.Qxb6628184aBase
namespace Go.Proofs.Qxb6628184a
open Go.RowKit

def HasRq (w : World) (b o : Nat) (r : Rq) : Prop :=
  w.cell? ⟨b, o, none⟩ = some (.string r.key) ∧ w.cell? ⟨b, o + 1, none⟩ = some (.slice r.va r.vl r.vc) ∧ w.cell? ⟨b, o + 2, none⟩ = some (.bool r.neg) ∧
    w.cell? ⟨b, o + 3, none⟩ = some (.int .i64 r.ord) ∧ w.cell? ⟨b, o + 4, none⟩ = some (.int .i64 r.bnd)
def HasStrs (w : World) (va : Option Addr) (ss : List ByteArray) : Prop :=
  ∀ j, j < ss.length → ∃ b o, va = some ⟨b, o, none⟩ ∧ w.cell? ⟨b, o + j, none⟩ = some (.string (ss.getD j ByteArray.empty))
def ReqsAt (w : World) (a : Option Addr) (L : List Rq) : Prop :=
  ∀ k r, L[k]? = some r → ∃ b o, a = some ⟨b, o, none⟩ ∧ HasRq w b (o + k * 5) r ∧ r.ss.length = r.vl ∧ HasStrs w r.va r.ss

theorem HasRq.keep {w w' : World} {b o : Nat} {r : Rq} (h : HasRq w b o r) (hb : Below w.heap.size w w') : HasRq w' b o r := by
  obtain ⟨h0, h1, h2, h3, h4⟩ := h
  exact ⟨(hb.cell (World.block_lt_of_cell? w _ h0)).trans h0, (hb.cell (World.block_lt_of_cell? w _ h1)).trans h1, (hb.cell (World.block_lt_of_cell? w _ h2)).trans h2, (hb.cell (World.block_lt_of_cell? w _ h3)).trans h3, (hb.cell (World.block_lt_of_cell? w _ h4)).trans h4⟩
theorem HasStrs.keep {w w' : World} {va : Option Addr} {ss : List ByteArray} (h : HasStrs w va ss) (hb : Below w.heap.size w w') : HasStrs w' va ss := by
  intro j hj
  obtain ⟨b, o, e, hc⟩ := h j hj
  exact ⟨b, o, e, (hb.cell (World.block_lt_of_cell? w _ hc)).trans hc⟩
theorem ReqsAt.keep {w w' : World} {a : Option Addr} {L : List Rq} (h : ReqsAt w a L) (hb : Below w.heap.size w w') : ReqsAt w' a L := by
  intro k r hr
  obtain ⟨b, o, e, h1, h2, h3⟩ := h k r hr
  exact ⟨b, o, e, h1.keep hb, h2, h3.keep hb⟩

def hit (key : ByteArray) (r : Rq) : Bool := r.key.toList == key.toList && (!r.neg && (r.vl : Int) == 1)
def fixedF (key : ByteArray) : List Rq → ByteArray × Bool
  | [] => (ByteArray.empty, false)
  | r :: t => if hit key r then (r.ss.getD 0 ByteArray.empty, true) else fixedF key t

set_option maxHeartbeats 400000 in
theorem fixed_any (a : Option Addr) (cap : Nat) (L : List Rq) (key : ByteArray) (w : World) (hL : ReqsAt w a L) (hn : L.length ≤ 1048577) :
    Calls Try.prog 9 #[.slice a L.length cap, .string key] w fun e w' => e = .returned (.tuple #[.string (fixedF key L).1, .bool (fixedF key L).2]) ∧ Below w.heap.size w w' := by
  go_enter Try.func9, Try.ntmps9
  go_wp2
  go_loopw [10] (fun i wr => ∃ k : Nat, k ≤ L.length ∧ i = .int .i64 k ∧ fixedF key L = fixedF key (L.drop k) ∧ Below w.heap.size w wr) (fun i _ => L.length - (intOf i).toNat)
  case atStart => exact ⟨0, Nat.zero_le _, rfl, rfl, Below.refl _ _⟩
  case round =>
    obtain ⟨k, hk, rfl, hf, hnx⟩ := hrel
    have HF : Hid (fixedF key L = fixedF key (L.drop k)) := hf
    clear hf
    by_cases hlt : k < L.length
    · have hdr : L.drop k = L[k] :: L.drop (k + 1) := List.drop_eq_getElem_cons hlt
      obtain ⟨b, o, rfl, hrq, hsl, hss⟩ := hL k L[k] (by simp [hlt])
      have HH : Hid (hit key L[k] = (L[k].key.toList == key.toList && (!L[k].neg && (L[k].vl : Int) == 1))) := rfl
      have HD : Hid (fixedF key (L.drop k) = if hit key L[k] then (L[k].ss.getD 0 ByteArray.empty, true) else fixedF key (L.drop (k + 1))) := by rw [hdr]; rfl
      have hss' := hss.keep hnx
      obtain ⟨h0, h1, h2, h3, h4⟩ := hrq.keep hnx
      clear hdr hrq hss hL
      generalize L[k] = r at *
      obtain ⟨rk, va, vl, vc, neg, rord, bnd, ss⟩ := r
      simp only at h0 h1 h2 h3 h4 hss' hsl
      have hlt' : (k : Int) < (L.length : Int) := by omega
      have HN : Hid (hit key ⟨rk, va, vl, vc, neg, rord, bnd, ss⟩ = false → fixedF key L = fixedF key (L.drop (k + 1))) := fun h => by rw [HF.out, HD.out, if_neg (by rw [h]; simp)]
      have HY : Hid (hit key ⟨rk, va, vl, vc, neg, rord, bnd, ss⟩ = true → fixedF key L = (ss.getD 0 ByteArray.empty, true)) := fun h => by rw [HF.out, HD.out, if_pos h]
      clear HD HF
      by_cases hke : rk.toList = key.toList
      · rcases hfx : (!neg && (vl : Int) == 1) with _ | _
        · have HX : Hid ((!neg && (vl : Int) == 1) = false) := hfx
          have HR : Hid (fixedF key L = fixedF key (L.drop (k + 1))) := HN.out (by rw [HH.out, HX.out]; simp)
          clear hfx HN HY HH
          go_wp2_with (go_at_call 12; refine (fixes_any _ _ _ _ _ _ _ _ false HX.out).mono ?_; rintro e w' ⟨rfl, hb⟩)
          go_roundw
          case rel => exact ⟨k + 1, by omega, by go_num, HR.out, (hnx.alloc hnx.size _).trans (hb.mono (by have := hnx.size; simp; omega))⟩
          case measure => simp [intOf]; omega
        · have HX : Hid ((!neg && (vl : Int) == 1) = true) := hfx
          have HR : Hid (fixedF key L = (ss.getD 0 ByteArray.empty, true)) := HY.out (by rw [HH.out, HX.out, hke]; simp)
          have hvl : vl = 1 := by simp at hfx; omega
          clear hfx HN HY HH
          subst hvl
          obtain ⟨b2, o2, rfl, hc2⟩ := hss' 0 (by omega)
          clear hss' hsl
          generalize ss.getD 0 ByteArray.empty = x at hc2 HR
          go_wp2_with (go_at_call 12; refine (fixes_any _ _ _ _ _ _ _ _ true HX.out).mono ?_; rintro e w' ⟨rfl, hb⟩; have c1 : w'.cell? ⟨wr.heap.size, 1, none⟩ = some (.slice (some ⟨b2, o2, none⟩) 1 vc) := cell_later hb (by simp); have c2 := laterOld hb hc2; simp only [Nat.add_zero] at c2)
          go_ret2
          exact ⟨by rw [HR.out]; rfl, (hnx.alloc hnx.size _).trans (hb.mono (by have := hnx.size; simp; omega))⟩
      · have HR : Hid (fixedF key L = fixedF key (L.drop (k + 1))) := HN.out (by rw [HH.out]; simp [hke])
        clear HN HY HH
        go_wp2
        go_roundw
        case rel => exact ⟨k + 1, by omega, by go_num, HR.out, hnx.alloc hnx.size _⟩
        case measure => simp [intOf]; omega
    · go_wp2
      go_ret2
      exact ⟨by rw [HF.out, List.drop_eq_nil_of_le (by omega)]; rfl, hnx⟩
end Go.Proofs.Qxb6628184a
