import Derived.Test.Qxb6628184aAppend
import Derived.Test.Qxb6628184aCloneR
namespace Go.Proofs.Qxb6628184a
open Go.RowKit

theorem fixedF_append (key : ByteArray) (M : List Rq) (r : Rq) : fixedF key (M ++ [r]) = if (fixedF key M).2 then fixedF key M else if hit key r then (r.ss.getD 0 ByteArray.empty, true) else (ByteArray.empty, false) := by
  induction M with
  | nil => simp [fixedF]
  | cons x M ih =>
    by_cases h : hit key x
    · simp [fixedF, h]
    · simp only [List.cons_append, fixedF, h]
      rw [ih]
      simp

theorem fixedF_no {key : ByteArray} {M : List Rq} (h : (fixedF key M).2 = false) : fixedF key M = (ByteArray.empty, false) := by
  induction M with
  | nil => rfl
  | cons x M ih =>
    unfold fixedF at h ⊢
    split at h
    · simp at h
    · rename_i hx
      rw [if_neg hx]
      exact ih h

/-- The requirement that the law appends. -/
def fresh (key v : ByteArray) (blk : Nat) : Rq := ⟨key, some ⟨blk, 0, none⟩, 1, 1, false, 0, 0, [v]⟩

theorem fixed_yes {key v x : ByteArray} {blk : Nat} {M : List Rq} (h : fixedF key M = (x, true)) : fixedF key (M ++ [fresh key v blk]) = (x, true) := by
  rw [fixedF_append, h]; simp
theorem fixed_new {key v : ByteArray} {x : ByteArray} {blk : Nat} {M : List Rq} (h : fixedF key M = (x, false)) : fixedF key (M ++ [fresh key v blk]) = (v, true) := by
  rw [fixedF_append, h]; simp [hit, fresh]
theorem fixed_other {key v other : ByteArray} {blk : Nat} {M : List Rq} (h : ¬ other.toList = key.toList) : fixedF other (M ++ [fresh key v blk]) = fixedF other M := by
  rw [fixedF_append]
  have hh : hit other (fresh key v blk) = false := by simp [hit, fresh]; exact fun e => absurd e.symm h
  rw [hh]
  by_cases e : (fixedF other M).2 = true
  · simp [e]
  · rw [if_neg e]
    simp only [Bool.not_eq_true] at e
    rw [fixedF_no e]; simp

theorem cellsOf_get {L : List Rq} {k : Nat} {r : Rq} (h : L[k]? = some r) (c : Nat) (hc : c < 5) : (cellsOf L)[k * 5 + c]? = r.cells[c]? := by
  induction L generalizing k with
  | nil => simp at h
  | cons x L ih =>
    show (x.cells ++ cellsOf L)[k * 5 + c]? = _
    cases k with
    | zero =>
      simp at h
      subst h
      rw [List.getElem?_append_left (by show _ < 5; omega)]
      simp
    | succ k =>
      simp at h
      rw [List.getElem?_append_right (by show 5 ≤ _; omega)]
      have := ih h
      rw [← this]
      congr 1
      show (k + 1) * 5 + c - 5 = _
      omega

def StrsOk (w : World) (L : List Rq) : Prop := ∀ r ∈ L, r.ss.length = r.vl ∧ HasStrs w r.va r.ss
theorem ReqsAt.strs {w : World} {a : Option Addr} {L : List Rq} (h : ReqsAt w a L) : StrsOk w L := by
  intro r hr
  obtain ⟨j, hj, rfl⟩ := List.getElem_of_mem hr
  obtain ⟨_, _, _, _, h1, h2⟩ := h j L[j] (by simp [hj])
  exact ⟨h1, h2⟩
theorem own_reqs {w : World} {base n : Nat} {v : Value} {L : List Rq} (h : w.ownsRow base 38 5 v n (cellsOf L)) (hn : n = L.length) (hs : StrsOk w L) : ∃ a cap, v = .slice a L.length cap ∧ ReqsAt w a L := by
  subst hn
  rcases h.2 with ⟨hv, hn⟩ | ⟨g, cap, cur, hv, hg, hh, hnc, _, hsz, htk⟩
  · have : L = [] := List.eq_nil_of_length_eq_zero hn
    subst this
    exact ⟨none, 0, hv, fun k r hr => by simp at hr⟩
  · refine ⟨some ⟨g, 0, none⟩, cap, hv, fun k r hr => ⟨g, 0, rfl, ?_, hs r (List.mem_of_getElem? hr)⟩⟩
    have hc := h.cells (g := g) (by rw [hv]; rfl)
    have one : ∀ c u, c < 5 → r.cells[c]? = some u → w.cell? ⟨g, 0 + k * 5 + c, none⟩ = some u := by
      intro c u hc5 hu
      have := hc (k * 5 + c) u (by rw [cellsOf_get hr c hc5]; exact hu)
      rw [Addr.add_lit] at this
      rw [Nat.zero_add] at this ⊢
      exact this
    exact ⟨one 0 _ (by omega) rfl, one 1 _ (by omega) rfl, one 2 _ (by omega) rfl, one 3 _ (by omega) rfl, one 4 _ (by omega) rfl⟩

/-- appendReqs(nil, s), told of the requirements. -/
def Built (M : List Rq) (w : World) (e : Ending) (w' : World) : Prop :=
  ∃ a cap, e = .returned (.slice a M.length cap) ∧ w'.ownsRow w.heap.size 38 5 (.slice a M.length cap) M.length (cellsOf M) ∧ ReqsAt w' a M ∧ Below w.heap.size w w'
theorem built_any (a : Option Addr) (cap : Nat) (M : List Rq) (w : World) (hM : ReqsAt w a M) (hn : M.length ≤ 1048576) :
    Calls Try.prog 8 #[.slice none 0 0, .slice a M.length cap] w fun e w' => Built M w e w' := by
  refine (appendReqs_any a cap M w hM hn).mono ?_
  rintro e w' ⟨v, rfl, hown, hb⟩
  obtain ⟨a', c', rfl, hR⟩ := own_reqs hown rfl (hM.keep hb).strs
  exact ⟨a', c', rfl, hown, hR, hb⟩

/-- ZZappendReq(.., key, []string{v}, false, 0, 0), told of the requirements. -/
def Extended (M : List Rq) (r : Rq) (w : World) (e : Ending) (w' : World) : Prop :=
  ∃ a cap, e = .returned (.slice a (M.length + 1) cap) ∧ ReqsAt w' a (M ++ [r]) ∧ Below w.heap.size w w'
theorem extended_any (a a0 : Option Addr) (cap : Nat) (M : List Rq) (key v : ByteArray) (w w3 : World) (hM : ReqsAt w a0 M) (hn : M.length ≤ 1048576)
    (hown : w3.ownsRow w.heap.size 38 5 (.slice a M.length cap) M.length (cellsOf M)) (hb : Below w.heap.size w w3) :
    Calls Try.prog 10 #[.slice a M.length cap, .string key, .slice (some ⟨w3.heap.size, 0, none⟩) 1 1, .bool false, .int .i64 0, .int .i64 0] (w3.alloc (.cells #[.string v] 9))
      fun e w' => Extended M (fresh key v w3.heap.size) w e w' := by
  have hsz : w.heap.size ≤ w3.heap.size := hb.size
  refine (appendReq_any w.heap.size M.length _ (cellsOf M) key (some ⟨w3.heap.size, 0, none⟩) 1 1 false 0 0 _ (hown.alloc _) (by simp; omega) hn).mono ?_
  rintro e w' ⟨v', rfl, hown', hg⟩
  have hcell : w'.cell? ⟨w3.heap.size, 0, none⟩ = some (.string v) := hg.cell (by simp) (fun e => by have := (hown.lt _ e.symm).2; simp at this)
  have hb' : Below w.heap.size w w' := (hb.alloc hsz _).grown hg (by simp; omega) (own_ge hown)
  have hst : StrsOk w' (M ++ [fresh key v w3.heap.size]) := by
    intro r hr
    rcases List.mem_append.1 hr with hr | hr
    · exact (hM.keep hb').strs r hr
    · simp at hr
      subst hr
      refine ⟨rfl, fun j hj => ⟨_, _, rfl, ?_⟩⟩
      have : j = 0 := by simp [fresh] at hj; exact hj
      subst this
      exact hcell
  have hown2 : w'.ownsRow w.heap.size 38 5 v' (M.length + 1) (cellsOf (M ++ [fresh key v w3.heap.size])) := by
    have e : cellsOf (M ++ [fresh key v w3.heap.size]) = cellsOf M ++ (fresh key v w3.heap.size).cells := by simp [cellsOf]
    rw [e]
    exact hown'
  obtain ⟨a', c', rfl, hR⟩ := own_reqs hown2 (by simp) hst
  exact ⟨a', c', by simp, hR, hb'⟩

theorem fixed_at (a : Option Addr) (n cap : Nat) (L : List Rq) (key : ByteArray) (w : World) (x : ByteArray) (ok : Bool) (hL : ReqsAt w a L) (hl : L.length = n) (hn : n ≤ 1048577) (hf : fixedF key L = (x, ok)) :
    Calls Try.prog 9 #[.slice a n cap, .string key] w fun e w' => e = .returned (.tuple #[.string x, .bool ok]) ∧ Below w.heap.size w w' := by
  subst hl
  have := fixed_any a cap L key w hL hn
  rw [hf] at this
  exact this
end Go.Proofs.Qxb6628184a
