import Derived.Test.Qxb6628184aLaw
import Derived.ProofKit
import Derived.Deep.Strs
namespace Go.Proofs.Qxb6628184a
open Go.ChangeShapes Go.WideShapes Go.ChangeAt Go.RowKit Go.Deep

theorem Try.cells33 : Try.prog.cellsOf 33 = 1 := by kernel_rfl
theorem Try.cells4 : Try.prog.cellsOf 4 = 1 := by kernel_rfl
theorem Try.cells3 : Try.prog.cellsOf 3 = 1 := by kernel_rfl
theorem Try.cells2 : Try.prog.cellsOf 2 = 1 := by kernel_rfl

section
variable {H : Type} {enc : TypeId × Value → H} {W : World}

theorem list5 {α : Type} {l : List α} (h : l.length = 5) : ∃ a b c d e, l = [a, b, c, d, e] := by
  match l, h with
  | [a, b, c, d, e], _ => exact ⟨a, b, c, d, e, rfl⟩

theorem open_vals {n : Nat} {c : Value} {y : DataW H × List MemPlace} (h : DataW.trod enc Try.prog W 0 (fun _ => true) true n 33 [c] = some y) :
    ∃ (va : Option Addr) (vl vc : Nat) (ss : List ByteArray), c = .slice va vl vc ∧ ss.length = vl ∧ HasStrs W va ss ∧ (va = none → vl = 0 ∧ vc = 0) := by
  rcases open_strs Try.underlying33 Try.underlying9 Try.cells9 h with ⟨hcs, _⟩ | ⟨a, len, cap, m, Sx, hcs, _, hl, _, hm, _, hx⟩
  · exact ⟨none, 0, 0, [], by simpa using hcs, rfl, fun j hj => by simp at hj, fun _ => ⟨rfl, rfl⟩⟩
  · refine ⟨some a, len, cap, (List.range len).map Sx, by simpa using hcs, by simp, fun j hj => ?_, fun h => by cases h⟩
    simp at hm
    simp at hj
    obtain ⟨hc, _⟩ := hx j (by omega)
    obtain ⟨b, o, s⟩ := a
    have hs : s = none := by simpa [Addr.add] using World.cell?_spot (hx 0 (by omega)).1
    subst hs
    refine ⟨b, o, rfl, ?_⟩
    rw [add_plain] at hc
    rw [hc]
    simp [List.getD, hj]

theorem open_req {n : Nat} {cs : List Value} {y : DataW H × List MemPlace} (h : DataW.trod enc Try.prog W 0 (fun _ => true) true n 35 cs = some y) :
    ∃ r : Rq, cs = r.cells ∧ r.ss.length = r.vl ∧ HasStrs W r.va r.ss ∧ (r.va = none → r.vl = 0 ∧ r.vc = 0) := by
  obtain ⟨xs, m, _, _, hl, hlen, hf⟩ := DataW.trod_struct Try.underlying35 h
  rw [Try.cells35] at hl
  obtain ⟨c0, c1, c2, c3, c4, rfl⟩ := list5 hl
  obtain ⟨x0, x1, x2, x3, x4, rfl⟩ := list5 (show xs.length = 5 from hlen)
  have f0 := hf 0 _ rfl
  have f1 := hf 1 _ rfl
  have f2 := hf 2 _ rfl
  have f3 := hf 3 _ rfl
  have f4 := hf 4 _ rfl
  simp [Try.cells9] at f0
  simp [Try.cells33] at f1
  simp [Try.cells4] at f2
  simp [Try.cells3] at f3
  simp [Try.cells2] at f4
  obtain ⟨k, e0, _⟩ := DataW.trod_string Try.underlying9 f0
  obtain ⟨va, vl, vc, ss, e1, h1, h2, h3⟩ := open_vals f1
  obtain ⟨ng, e2, _⟩ := DataW.trod_bool Try.underlying4 f2
  obtain ⟨o, e3, _⟩ := DataW.trod_int Try.underlying3 f3
  obtain ⟨b, e4, _⟩ := DataW.trod_int Try.underlying2 f4
  simp at e0 e2 e3 e4
  subst e0 e1 e2 e3 e4
  exact ⟨⟨k, va, vl, vc, ng, o, b, ss⟩, rfl, h1, h2, h3⟩

theorem open_reqs {fuel : Nat} {a : Option Addr} {len cap : Nat} {x : DataW H × List MemPlace} (h : DataW.trod enc Try.prog W 0 (fun _ => true) true fuel 22 [.slice a len cap] = some x) :
    ∃ L : List Rq, L.length = len ∧ ReqsAt W a L ∧ (a = none → L = [] ∧ cap = 0) ∧ (∀ r ∈ L, r.va = none → r.vl = 0 ∧ r.vc = 0) := by
  rcases open_slice Try.underlying22 h with ⟨hcs, _⟩ | ⟨ad, len', cap', m, n, D, Pl, hcs, _, hl, _, hm, _, hx⟩
  · simp at hcs
    obtain ⟨rfl, rfl, rfl⟩ := hcs
    exact ⟨[], rfl, fun k r hr => by simp at hr, fun _ => ⟨rfl, rfl⟩, fun r hr => by simp at hr⟩
  · simp at hcs
    obtain ⟨rfl, rfl, rfl⟩ := hcs
    simp at hm
    rw [Try.cells35] at hx
    have : Inhabited Rq := ⟨⟨ByteArray.empty, none, 0, 0, false, 0, 0, []⟩⟩
    obtain ⟨R, hR⟩ := choose_lt (α := Rq) (n := len) (p := fun i r => W.cells? 0 (ad.add (i * 5)) 5 = some r.cells ∧ r.ss.length = r.vl ∧ HasStrs W r.va r.ss ∧ (r.va = none → r.vl = 0 ∧ r.vc = 0)) (fun i hi => by
      obtain ⟨cs', h1, h2⟩ := hx i (by omega)
      obtain ⟨r, rfl, h3, h4, h5⟩ := open_req h2
      exact ⟨r, h1, h3, h4, h5⟩)
    refine ⟨(List.range len).map R, by simp, fun k r hr => ?_, fun h => (by cases h), fun r hr => ?_⟩
    · have hk : k < len := by
        have := (List.getElem?_eq_some_iff.1 hr).1
        simpa using this
      simp [hk] at hr
      subst hr
      obtain ⟨h1, h2, h3, _⟩ := hR k hk
      obtain ⟨_, _, hc⟩ := World.cells?_some h1
      obtain ⟨b, o, s⟩ := ad
      have hs : s = none := by
        obtain ⟨_, _, hc0⟩ := World.cells?_some (hR 0 (by omega)).1
        have h0 := hc0 0 (by omega)
        simpa [Addr.add] using World.cell?_spot (v := .string (R 0).key) (h0.trans rfl)
      subst hs
      refine ⟨b, o, rfl, ?_, h2, h3⟩
      have one : ∀ c, c < 5 → W.cell? ⟨b, o + k * 5 + c, none⟩ = (R k).cells[c]? := fun c hc5 => by
        have := hc c hc5
        rwa [add_plain, add_plain] at this
      exact ⟨one 0 (by omega), one 1 (by omega), one 2 (by omega), one 3 (by omega), one 4 (by omega)⟩
    · obtain ⟨i, hi, rfl⟩ := List.mem_map.1 hr
      exact (hR i (by simpa using hi)).2.2.2
end
end Go.Proofs.Qxb6628184a
