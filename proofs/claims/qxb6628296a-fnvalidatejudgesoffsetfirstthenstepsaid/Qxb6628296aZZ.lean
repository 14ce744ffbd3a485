import Derived.Test.Qxb6628296aVal
import Derived.WalkSmall
namespace Go.Proofs.Qxb6628296a
open Go.RowKit

theorem results_tmp6 {fn : Func} {t0 t1 t2 t3 t4 t5 : Tmp} (h : fn.results = #[.tmp t0, .tmp t1, .tmp t2, .tmp t3, .tmp t4, .tmp t5]) (tmps : Array Value) (P : Program) (w : World) :
    (results fn tmps).run P w = .ok (.tuple #[tmps.getD t0 undef, tmps.getD t1 undef, tmps.getD t2 undef, tmps.getD t3 undef, tmps.getD t4 undef, tmps.getD t5 undef]) w := by
  simp [results, h]

set_option maxHeartbeats 400000 in
theorem zz_ok (o s : Int) (w : World) (h : 0 ≤ o) (h1 : 1 ≤ s) :
    Calls Try.prog 4 #[.int .i64 o, .int .i64 s] w fun e w' => e = .returned (.tuple #[.bool false, .bool false, .string ByteArray.empty, .int .i64 0, .bool false, .string ByteArray.empty]) ∧ Below w.heap.size w w' := by
  go_enter Try.func4, Try.ntmps4
  go_wp2_with fail
  refine (validate_ok o s _ h h1).mono ?_
  rintro e w1 ⟨rfl, hb⟩
  go_wp2
  (try simp only [Exit.inBlock, Exit.then])
  refine bodyPost_ret (results_tmp6 rfl _ _ _) rfl ?_
  exact ⟨rfl, hb⟩

theorem assertP (a : Option Addr) (w : World) : (Instr.typeAssert (.iface 30 (.pointer a)) 26 30 true).run Try.prog w = .ok (.tuple #[.pointer a, .bool true]) w := by kernel_rfl
theorem assertI (n : Int) (w : World) : (Instr.typeAssert (.iface 3 (.int .i64 n)) 20 3 true).run Try.prog w = .ok (.tuple #[.int .i64 n, .bool true]) w := by kernel_rfl

set_option maxHeartbeats 400000 in
theorem zz_no (o s n : Int) (nm want : ByteArray) (w : World) (hv : Hid (∀ w, Calls Try.prog 5 #[.agg #[.int .i64 o, .int .i64 s]] w fun e w' => Refused nm n want w e w')) :
    Calls Try.prog 4 #[.int .i64 o, .int .i64 s] w fun e w' => e = .returned (.tuple #[.bool true, .bool true, .string nm, .int .i64 n, .bool true, .string want]) ∧ Below w.heap.size w w' := by
  go_enter Try.func4, Try.ntmps4
  go_wp2_with fail
  refine (hv.out _).mono ?_
  rintro e w1 ⟨b, rfl, h0, h1, h2, hb⟩
  clear hv
  have ta := assertP
  have ti := assertI
  go_wp2
  go_quiet (fail)
  go_wp2
  (try simp only [Exit.inBlock, Exit.then])
  refine bodyPost_ret (results_tmp6 rfl _ _ _) rfl ?_
  exact ⟨rfl, below_drewN hb _⟩
end Go.Proofs.Qxb6628296a
