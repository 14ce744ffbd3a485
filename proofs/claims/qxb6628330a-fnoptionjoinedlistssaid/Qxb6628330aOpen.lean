import Derived.Test.Qxb6628330aOption
import Derived.ProofKit
import Derived.Deep.Slices
import Derived.OpenShut
import Derived.ShutString
import Derived.ChangeOld
namespace Go.Proofs.Qxb6628330a
open Go.ChangeShapes Go.WideShapes Go.ChangeAt Go.RowKit Go.Deep

theorem own : ownKnob Try.prog.godebug = none := by kernel_rfl
theorem laidOut : laidOutB Try.prog = true := by kernel_rfl
theorem Try.cells24 : Try.prog.cellsOf 24 = 6 := by kernel_rfl
theorem Try.cells9 : Try.prog.cellsOf 9 = 1 := by kernel_rfl
theorem Try.cells2 : Try.prog.cellsOf 2 = 1 := by kernel_rfl

section
variable {H : Type} {enc : TypeId × Value → H} {W : World}

theorem list6 {α : Type} {l : List α} (h : l.length = 6) : ∃ a b c d e f, l = [a, b, c, d, e, f] := by
  match l, h with
  | [a, b, c, d, e, f], _ => exact ⟨a, b, c, d, e, f, rfl⟩

theorem open_ot {n : Nat} {cs : List Value} {y : DataW H × List MemPlace} (h : DataW.trod enc Try.prog W 0 (fun _ => true) true n 24 cs = some y) : ∃ r : Ot, cs = r.cells := by
  obtain ⟨xs, m, _, _, hl, hlen, hf⟩ := DataW.trod_struct Try.underlying24 h
  rw [Try.cells24] at hl
  obtain ⟨c0, c1, c2, c3, c4, c5, rfl⟩ := list6 hl
  obtain ⟨x0, x1, x2, x3, x4, x5, rfl⟩ := list6 (show xs.length = 6 from hlen)
  have f0 := hf 0 _ rfl
  have f1 := hf 1 _ rfl
  have f2 := hf 2 _ rfl
  have f3 := hf 3 _ rfl
  have f4 := hf 4 _ rfl
  have f5 := hf 5 _ rfl
  simp [Try.cells9] at f0 f1 f2 f3 f4
  simp [Try.cells2] at f5
  obtain ⟨k0, e0, _⟩ := DataW.trod_string Try.underlying9 f0
  obtain ⟨k1, e1, _⟩ := DataW.trod_string Try.underlying9 f1
  obtain ⟨k2, e2, _⟩ := DataW.trod_string Try.underlying9 f2
  obtain ⟨k3, e3, _⟩ := DataW.trod_string Try.underlying9 f3
  obtain ⟨k4, e4, _⟩ := DataW.trod_string Try.underlying9 f4
  obtain ⟨k5, e5, _⟩ := DataW.trod_int Try.underlying2 f5
  simp at e0 e1 e2 e3 e4 e5
  subst e0 e1 e2 e3 e4 e5
  exact ⟨⟨k0, k1, k2, k3, k4, k5⟩, rfl⟩

theorem open_ots {fuel : Nat} {a : Option Addr} {len cap : Nat} {x : DataW H × List MemPlace} (h : DataW.trod enc Try.prog W 0 (fun _ => true) true fuel 22 [.slice a len cap] = some x) :
    ∃ L : List Ot, L.length = len ∧ OtsAt W a L ∧ (a = none → L = [] ∧ cap = 0) := by
  rcases open_slice Try.underlying22 h with ⟨hcs, _⟩ | ⟨ad, len', cap', m, n, D, Pl, hcs, _, hl, _, hm, _, hx⟩
  · simp at hcs
    obtain ⟨rfl, rfl, rfl⟩ := hcs
    exact ⟨[], rfl, fun k r hr => by simp at hr, fun _ => ⟨rfl, rfl⟩⟩
  · simp at hcs
    obtain ⟨rfl, rfl, rfl⟩ := hcs
    simp at hm
    rw [Try.cells24] at hx
    have : Inhabited Ot := ⟨zeroOt⟩
    obtain ⟨R, hR⟩ := choose_lt (α := Ot) (n := len) (p := fun i r => W.cells? 0 (ad.add (i * 6)) 6 = some r.cells) (fun i hi => by
      obtain ⟨cs', h1, h2⟩ := hx i (by omega)
      obtain ⟨r, rfl⟩ := open_ot h2
      exact ⟨r, h1⟩)
    refine ⟨(List.range len).map R, by simp, fun k r hr => ?_, fun h => (by cases h)⟩
    have hk : k < len := by
      have := (List.getElem?_eq_some_iff.1 hr).1
      simpa using this
    simp [hk] at hr
    subst hr
    obtain ⟨_, _, hc⟩ := World.cells?_some (hR k hk)
    obtain ⟨b, o, s⟩ := ad
    have hs : s = none := by
      obtain ⟨_, _, hc0⟩ := World.cells?_some (hR 0 (by omega))
      have h0 := hc0 0 (by omega)
      simpa [Addr.add] using World.cell?_spot (v := .string (R 0).id) (h0.trans rfl)
    subst hs
    refine ⟨b, o, rfl, ?_⟩
    have one : ∀ c, c < 6 → W.cell? ⟨b, o + k * 6 + c, none⟩ = (R k).cells[c]? := fun c hc5 => by
      have := hc c hc5
      rwa [add_plain, add_plain] at this
    exact ⟨one 0 (by omega), one 1 (by omega), one 2 (by omega), one 3 (by omega), one 4 (by omega), one 5 (by omega)⟩

theorem open_otv {base : Nat} {v : Value} {d : DataW H} {p : List MemPlace} (hv : Value.okWide Try.prog W .any base 24 v) (h : DataW.Trod enc Try.prog W 0 (fun _ => true) true 24 v d p) :
    ∃ r : Ot, v = .agg #[.string r.id, .string r.ty, .string r.ti, .string r.de, .string r.ca, .int .i64 r.am] := by
  obtain ⟨cs, rfl, hsz⟩ := okWide_struct Try.underlying24 hv
  obtain ⟨fuel, hf⟩ := h
  obtain ⟨r, hr⟩ := open_ot (by simpa [Value.cells] using hf : DataW.trod enc Try.prog W 0 (fun _ => true) true fuel 24 cs.toList = some (d, p))
  refine ⟨r, ?_⟩
  obtain ⟨l⟩ := cs
  simp at hr
  rw [hr]
  rfl
end
end Go.Proofs.Qxb6628330a
