import Derived.Test.Qxb6628184aPlain
import Derived.Test.Qxb6628184aBytes
import Derived.Test.Qxb6628184aReads
namespace Go.Proofs.Qxb6628184a
open Go.RowKit

set_option maxHeartbeats 1000000 in
theorem law_any (a : Option Addr) (cap : Nat) (L : List Rq) (key v other : ByteArray) (w : World) (hL : ReqsAt w a L) (hnil : a = none → L = [] ∧ cap = 0) (hvn : ∀ r ∈ L, r.va = none → r.vl = 0 ∧ r.vc = 0) :
    Calls Try.prog 3 #[.slice a L.length cap, .string key, .string v, .string other] w fun e w' => e = .returned (.bool true) ∧ Below w.heap.size w w' := by
  go_enter Try.func3, Try.ntmps3
  go_wp2_with fail
  refine (bytes_any a cap L key v other _ hL).mono ?_
  rintro e w1 ⟨⟨b1, rfl, hok⟩, rfl⟩
  cases b1
  · go_wp2
    go_ret
    exact ⟨rfl, Below.refl _ _⟩
  obtain ⟨hn, hv, hs⟩ := hok rfl
  clear hok
  have s1 : (key.size : Int) ≤ 1048576 := by omega
  have s2 : (v.size : Int) ≤ 1048576 := by omega
  have s3 : (other.size : Int) ≤ 1048576 := by omega
  have s4 : (key.size : Int) + v.size + other.size ≤ 1048576 := by omega
  go_wp2_with fail
  refine (reqsTooBig_any a cap L _ _ hL hn hv).mono ?_
  rintro e w2 ⟨⟨b2, rfl⟩, hb2⟩
  cases b2
  case true =>
    go_wp2
    go_ret
    exact ⟨rfl, hb2⟩
  go_wp2_with fail
  refine (ordersPlain_any a cap L _ (hL.keep hb2) hn).mono ?_
  rintro e w3 ⟨⟨b3, rfl⟩, hb3⟩
  have hb3' : Below w1.heap.size w1 w3 := hb2.trans (hb3.mono hb2.size)
  clear hb2 hb3
  cases b3
  case false =>
    go_wp2
    go_ret
    exact ⟨rfl, hb3'⟩
  go_wp2_with fail
  refine (cloneReqs_any a cap L _ (hL.keep hb3') hnil hn hv hvn).mono ?_
  rintro e w4 ⟨a', cap', M, rfl, hM, hR, hb4⟩
  have hb4' : Below w1.heap.size w1 w4 := hb3'.trans (hb4.mono hb3'.size)
  have hMn : M.length ≤ 1048576 := by omega
  clear hb3' hb4 hn hv hvn hnil hL
  clear hM
  obtain ⟨x, ok, hf⟩ : ∃ x ok, fixedF key M = (x, ok) := ⟨_, _, rfl⟩
  have HF : Hid (fixedF key M = (x, ok)) := hf
  clear hf
  go_wp2_with fail
  refine (built_any a' cap' M _ hR hMn).mono ?_
  rintro e w5 ⟨a5, c5, rfl, -, hR5, hb5⟩
  go_wp2_with fail
  refine (fixed_at a5 M.length c5 M key _ x ok hR5 rfl (by omega) HF.out).mono ?_
  rintro e w6 ⟨rfl, hb6⟩
  have hb6' : Below w4.heap.size w4 w6 := hb5.trans (hb6.mono hb5.size)
  have hR6 : ReqsAt w6 a' M := hR.keep hb6'
  have hB6 : Below w1.heap.size w1 w6 := hb4'.trans (hb6'.mono hb4'.size)
  clear hb4' hb5 hb6 hb6' hR hR5
  go_wp2_with fail
  refine (built_any a' cap' M _ hR6 hMn).mono ?_
  rintro e w7 ⟨a7, c7, rfl, hown7, hR7, hb7⟩
  go_wp2_with fail
  refine (extended_any a7 a' c7 M key v w6 w7 hR6 hMn hown7 hb7).mono ?_
  rintro e w8 ⟨a8, c8, rfl, hR8, hb8⟩
  have hR8' : ReqsAt w8 a' M := hR6.keep hb8
  have hB8 : Below w1.heap.size w1 w8 := hB6.trans (hb8.mono hB6.size)
  have HF2 : Hid (fixedF key (M ++ [fresh key v w7.heap.size]) = (if ok then x else v, true)) := by
    cases ok
    · exact fixed_new HF.out
    · exact fixed_yes HF.out
  have HO : Hid (¬ other.toList = key.toList → fixedF other (M ++ [fresh key v w7.heap.size]) = fixedF other M) := fun h => fixed_other h
  obtain ⟨y, ok2, hf2⟩ : ∃ x ok, fixedF other M = (x, ok) := ⟨_, _, rfl⟩
  have HF3 : Hid (fixedF other M = (y, ok2)) := hf2
  have hln : (M ++ [fresh key v w7.heap.size]).length = M.length + 1 := by simp
  have HL : Hid ((M ++ [fresh key v w7.heap.size]).length = M.length + 1) := hln
  generalize M ++ [fresh key v w7.heap.size] = N at *
  clear hb7 hb8 hown7 hR7 hR6 hB6 hf2 hln HF
  go_wp2_with fail
  refine (fixed_at a8 (M.length + 1) c8 N key _ _ true hR8 HL.out (by omega) HF2.out).mono ?_
  rintro e w9 ⟨rfl, hb9⟩
  have hR9 : ReqsAt w9 a' M := hR8'.keep hb9
  have hN9 : ReqsAt w9 a8 N := hR8.keep hb9
  have hB9 : Below w1.heap.size w1 w9 := hB8.trans (hb9.mono hB8.size)
  clear hR8' hR8 hb9 hB8
  by_cases hok : other.toList = key.toList
  · cases ok
    all_goals
      go_wp2_with fail
      go_ret
      exact ⟨rfl, hB9⟩
  · have HF4 : Hid (fixedF other N = (y, ok2)) := by rw [Hid, HO.out hok, HF3.out]
    clear HO
    have hok' : (other.toList == key.toList) = false := by simpa using hok
    cases ok
    all_goals
      go_wp2_with fail
      refine (built_any a' cap' M _ hR9 hMn).mono ?_
      rintro e w10 ⟨a10, c10, rfl, -, hR10, hb10⟩
      go_wp2_with fail
      refine (fixed_at a10 M.length c10 M other _ y ok2 hR10 rfl (by omega) HF3.out).mono ?_
      rintro e w11 ⟨rfl, hb11⟩
      have hb11' : Below w9.heap.size w9 w11 := hb10.trans (hb11.mono hb10.size)
      go_wp2_with fail
      refine (fixed_at a8 (M.length + 1) c8 N other _ y ok2 (hN9.keep hb11') HL.out (by omega) HF4.out).mono ?_
      rintro e w12 ⟨rfl, hb12⟩
      have hb12' : Below w9.heap.size w9 w12 := hb11'.trans (hb12.mono hb11'.size)
      have hB12 : Below w1.heap.size w1 w12 := hB9.trans (hb12'.mono hB9.size)
      clear hb10 hb11 hb11' hb12 hb12' hB9
      cases ok2
      all_goals
        go_wp2_with fail
        go_ret
        exact ⟨rfl, hB12⟩
end Go.Proofs.Qxb6628184a
