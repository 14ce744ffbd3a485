import Derived.Test.Qxb6628330aReads
namespace Go.Proofs.Qxb6628330a
open Go.RowKit

/-- What the look-up answers. -/
def optF (id : ByteArray) : List Ot → Ot × Bool
  | [] => (zeroOt, false)
  | r :: t => if isF id r then (r, true) else optF id t

/-- A session: its options lie in the eighth cell. -/
def SessAt (w : World) (S : Nat) (L : List Ot) : Prop := ∃ a cap, w.cell? ⟨S, 7, none⟩ = some (.slice a L.length cap) ∧ OtsAt w a L
theorem SessAt.keep {w w' : World} {S : Nat} {L : List Ot} (h : SessAt w S L) (hb : Below w.heap.size w w') : SessAt w' S L := by
  obtain ⟨a, cap, h1, h2⟩ := h
  exact ⟨a, cap, cell_later hb h1, h2.keep hb⟩

/-- The block of the result, as it is laid. -/
def zeroBlock : Obj := .cells #[.string ByteArray.empty, .string ByteArray.empty, .string ByteArray.empty, .string ByteArray.empty, .string ByteArray.empty, .int .i64 0] 50

theorem below_bd {w wr : World} {o : Obj} (h : Below (w.heap.size + 1) (w.alloc o) wr) : Below w.heap.size w wr :=
  ((Below.refl w.heap.size w).alloc (Nat.le_refl _) o).trans (h.mono (by omega))

theorem res11 {W : World} {N : Nat} {r : Ot} {ok : Bool} {tmps : Array Value} (h4 : tmps.getD 4 undef = .pointer (some ⟨N, 0, none⟩)) (h5 : tmps.getD 5 undef = .bool ok) (h : HasOt W N 0 r) :
    (results Try.f11 tmps).run Try.prog W = .ok (.tuple #[.agg #[.string r.id, .string r.ty, .string r.ti, .string r.de, .string r.ca, .int .i64 r.am], .bool ok]) W := by
  obtain ⟨q0, q1, q2, q3, q4, q5⟩ := h
  simp only [Nat.zero_add] at q0 q1 q2 q3 q4 q5
  rw [results_cell_tmp Try.results11, h4, h5]
  simp [go_sem, q0, q1, q2, q3, q4, q5]

set_option maxHeartbeats 1000000 in
theorem option_any (S : Nat) (L : List Ot) (id : ByteArray) (w : World) (r : Ot) (ok : Bool) (hS : SessAt w S L) (hn : L.length ≤ 131073) (hf : optF id L = (r, ok)) :
    Calls Try.prog 11 #[.pointer (some ⟨S, 0, none⟩), .string id] w fun e w' => e = .returned (.tuple #[.agg #[.string r.id, .string r.ty, .string r.ti, .string r.de, .string r.ca, .int .i64 r.am], .bool ok]) ∧ Below w.heap.size w w' := by
  have HR : Hid (optF id L = (r, ok)) := hf
  clear hf
  obtain ⟨a, cap, hc, hL⟩ := hS
  have hSlt : S < w.heap.size := World.block_lt_of_cell? w _ hc
  go_enter Try.func11, Try.ntmps11
  go_wp2
  go_loopw [13] (fun i wr => ∃ k : Nat, k ≤ L.length ∧ i = .int .i64 k ∧ optF id L = optF id (L.drop k) ∧ Below (w.heap.size + 1) (w.alloc zeroBlock) wr) (fun i _ => L.length - (intOf i).toNat)
  case atStart => exact ⟨0, Nat.zero_le _, rfl, rfl, Below.refl _ _⟩
  case round =>
    obtain ⟨k, hk, rfl, hf, hnx⟩ := hrel
    have HF : Hid (optF id L = optF id (L.drop k)) := hf
    clear hf
    have hbx := below_bd hnx
    have hsz : w.heap.size + 1 ≤ wr.heap.size := by have := hnx.size; simpa using this
    have hsz2 : w.heap.size < wr.heap.size := by omega
    have hblk : wr.heap[w.heap.size]? = some (.cells #[.string ByteArray.empty, .string ByteArray.empty, .string ByteArray.empty, .string ByteArray.empty, .string ByteArray.empty, .int .i64 0] 50 (0, 0)) := (hnx.block w.heap.size (by omega)).trans (heap_alloc_new w _)
    have z0 : wr.cell? ⟨w.heap.size, 0, none⟩ = some (.string ByteArray.empty) := (hnx.cell (by simp)).trans (by simp [zeroBlock])
    have z1 : wr.cell? ⟨w.heap.size, 1, none⟩ = some (.string ByteArray.empty) := (hnx.cell (by simp)).trans (by simp [zeroBlock])
    have z2 : wr.cell? ⟨w.heap.size, 2, none⟩ = some (.string ByteArray.empty) := (hnx.cell (by simp)).trans (by simp [zeroBlock])
    have z3 : wr.cell? ⟨w.heap.size, 3, none⟩ = some (.string ByteArray.empty) := (hnx.cell (by simp)).trans (by simp [zeroBlock])
    have z4 : wr.cell? ⟨w.heap.size, 4, none⟩ = some (.string ByteArray.empty) := (hnx.cell (by simp)).trans (by simp [zeroBlock])
    have z5 : wr.cell? ⟨w.heap.size, 5, none⟩ = some (.int .i64 0) := (hnx.cell (by simp)).trans (by simp [zeroBlock])
    have y0 : ∀ j, wr.frozen? ⟨w.heap.size, j, none⟩ = false := fun j => (hnx.frozen (p := ⟨w.heap.size, j, none⟩) (by simp)).trans (by simp [zeroBlock])
    by_cases hlt : k < L.length
    · have hdr : L.drop k = L[k] :: L.drop (k + 1) := List.drop_eq_getElem_cons hlt
      obtain ⟨b, o, rfl, hrq⟩ := hL k L[k] (by simp [hlt])
      have HD : Hid (optF id (L.drop k) = if isF id L[k] then (L[k], true) else optF id (L.drop (k + 1))) := by rw [hdr]; rfl
      obtain ⟨h0, h1, h2, h3, h4, h5⟩ := hrq.keep hbx
      clear hdr hrq hL
      generalize L[k] = q at *
      obtain ⟨i, ty, u, d, c, n⟩ := q
      simp only at h0 h1 h2 h3 h4 h5
      have hlt' : (k : Int) < (L.length : Int) := by omega
      rcases hi0 : (i.toList == id.toList) with _ | _
      · have HE : Hid (optF id L = optF id (L.drop (k + 1))) := by rw [Hid, HF.out, HD.out, if_neg (by show ¬ (i.toList == id.toList) = true; rw [hi0]; simp)]
        clear HD HF
        go_wp2
        go_roundw
        case rel => exact ⟨k + 1, by omega, by go_num, HE.out, hnx.alloc (by simpa using hsz) _⟩
        case measure => simp [intOf]; omega
      · have HE : Hid ((r, ok) = (⟨i, ty, u, d, c, n⟩, true)) := by rw [Hid, ← HR.out, HF.out, HD.out, if_pos (by exact hi0)]
        obtain ⟨rfl, rfl⟩ : r = ⟨i, ty, u, d, c, n⟩ ∧ ok = true := by simpa using HE.out
        clear HD HF HR HE
        go_wp2
        have hH := (set6_has (o := 0) (r := ⟨i, ty, u, d, c, n⟩) hblk (Nat.le_refl _)).alloc (.cells #[.string i, .string ty, .string u, .string d, .string c, .int .i64 n] 50)
        have hZ : w.heap.size ≤ (set6 wr w.heap.size 0 ⟨i, ty, u, d, c, n⟩).heap.size := by simp [set6, World.setCell]; omega
        have hB := (set6_below (r := ⟨i, ty, u, d, c, n⟩) (o := 0) hbx (Nat.le_refl _)).alloc hZ (.cells #[.string i, .string ty, .string u, .string d, .string c, .int .i64 n] 50)
        clear hZ
        unfold set6 at hH hB
        simp only [Nat.zero_add] at hH hB
        refine bodyPost_ret (v := .tuple #[.agg #[.string i, .string ty, .string u, .string d, .string c, .int .i64 n], .bool true]) ?_ rfl ⟨rfl, hB⟩
        exact res11 (r := ⟨i, ty, u, d, c, n⟩) (N := w.heap.size) rfl rfl hH
    · have HE : Hid ((r, ok) = (zeroOt, false)) := by rw [Hid, ← HR.out, HF.out, List.drop_eq_nil_of_le (by omega)]; rfl
      obtain ⟨rfl, rfl⟩ : r = zeroOt ∧ ok = false := by simpa using HE.out
      go_wp2
      have hH := set6_has (o := 0) (r := zeroOt) hblk (Nat.le_refl _)
      have hB := set6_below (r := zeroOt) (o := 0) hbx (Nat.le_refl _)
      unfold set6 at hH hB
      simp only [Nat.zero_add] at hH hB
      refine bodyPost_ret (v := .tuple #[.agg #[.string zeroOt.id, .string zeroOt.ty, .string zeroOt.ti, .string zeroOt.de, .string zeroOt.ca, .int .i64 zeroOt.am], .bool false]) ?_ rfl ⟨rfl, hB⟩
      exact res11 (r := zeroOt) (N := w.heap.size) rfl rfl hH
end Go.Proofs.Qxb6628330a
