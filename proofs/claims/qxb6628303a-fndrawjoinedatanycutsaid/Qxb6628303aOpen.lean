import Derived.Test.Qxb6628303aBytes
import Derived.ProofKit
import Derived.OpenShut
import Derived.ShutString
import Derived.ChangeOld
namespace Go.Proofs.Qxb6628303a
open Go.ChangeShapes Go.WideShapes Go.ChangeAt Go.RowKit

theorem own : ownKnob Try.prog.godebug = none := by kernel_rfl
theorem laidOut : laidOutB Try.prog = true := by kernel_rfl
theorem Try.cells5 : Try.prog.cellsOf 5 = 1 := by kernel_rfl
theorem Try.cells3 : Try.prog.cellsOf 3 = 1 := by kernel_rfl

theorem open_row {H : Type} {enc : TypeId × Value → H} {W : World} {k : IntKind} {t e : TypeId} {fuel : Nat} {a : Option Addr} {len cap : Nat} {x : DataW H × List MemPlace}
    (ht : Try.prog.underlying t = some (.slice e)) (he : Try.prog.underlying e = some (.int k)) (hc : Try.prog.cellsOf e = 1)
    (h : DataW.trod enc Try.prog W 0 (fun _ => true) true fuel t [.slice a len cap] = some x) :
    ∃ zs : List Int, zs.length = len ∧ IntsIn W.heap.size k W a zs ∧ (a = none → zs = [] ∧ cap = 0) ∧ ∀ z ∈ zs, (Lit.int k z).wf = true := by
  rcases open_ints ht he hc h with ⟨hcs, _⟩ | ⟨ad, l, c, zs, hcs, _, hl, hm, hz, _, hcell, hwz⟩
  · simp at hcs
    obtain ⟨rfl, rfl, rfl⟩ := hcs
    exact ⟨[], rfl, IntsIn.nil _ _ _ _, fun _ => ⟨rfl, rfl⟩, fun z hz => by simp at hz⟩
  · simp at hcs
    obtain ⟨rfl, rfl, rfl⟩ := hcs
    simp at hz
    refine ⟨zs.take len, by simp; omega, fun i hi => ?_, fun h => (by cases h), fun z hz' => hwz z (List.mem_of_mem_take hz')⟩
    simp at hi
    obtain ⟨b, o, s⟩ := ad
    have hs : s = none := by simpa [Addr.add] using World.cell?_spot (hcell 0 (by omega))
    subst hs
    have hci := hcell i (by omega)
    rw [add_plain] at hci
    refine ⟨b, o, rfl, World.block_lt_of_cell? W _ hci, ?_⟩
    rw [hci]
    simp [List.getD, show i < len by omega]

theorem byte_of_wf {z : Int} (h : (Lit.int .u8 z).wf = true) : IsByte z := by
  have := bounds_u8 h
  unfold IsByte
  omega
end Go.Proofs.Qxb6628303a
