import Derived.Test.Qxb6628303aLaw1
namespace Go.Proofs.Qxb6628303a
open Go.RowKit

/-- What the joined list is, told by its parts. -/
structure Joined (za zb zj : List Int) : Prop where
  len : zj.length = za.length + zb.length
  left : ∀ k, k < za.length → zj.getD k 0 = za.getD k 0
  right : ∀ j, j < zb.length → zj.getD (za.length + j) 0 = zb.getD j 0
theorem joined_append (za zb : List Int) : Joined za zb (za ++ zb) :=
  ⟨by simp, fun k hk => by simp [List.getD, List.getElem?_append_left hk], fun j _ => by simp [List.getD, List.getElem?_append_right (Nat.le_add_right za.length j)]⟩

theorem getD_drop (l : List Int) (n m : Nat) : (l.drop n).getD m 0 = l.getD (n + m) 0 := by simp [List.getD, List.getElem?_drop]

theorem Joined.draw_left {za zb zj : List Int} (h : Joined za zb zj) {k : Nat} (hk : k < za.length) (x : Int) : drawV (za.drop k) x = drawV (zj.drop k) x := by
  rw [drawV_lt hk, drawV_lt (by rw [h.len]; omega), h.left k hk]
theorem Joined.draw_right {za zb zj : List Int} (h : Joined za zb zj) {k : Nat} (hk : za.length ≤ k) (x : Int) : drawV (zb.drop (k - za.length)) x = drawV (zj.drop k) x := by
  by_cases e : k - za.length < zb.length
  · have hr := h.right (k - za.length) e
    rw [show za.length + (k - za.length) = k by omega] at hr
    rw [drawV_lt e, drawV_lt (by rw [h.len]; omega), hr]
  · rw [drawV_ge (by omega), drawV_ge (by rw [h.len]; omega)]

theorem Joined.rest_left {za zb zj : List Int} (h : Joined za zb zj) (n : Nat) : ∀ m, m < (za.drop n).length → (za.drop n).getD m 0 = (zj.drop n).getD m 0 ∧ m < (zj.drop n).length := by
  intro m hm
  simp at hm
  rw [getD_drop, getD_drop, h.left (n + m) (by omega)]
  exact ⟨rfl, by simp [h.len]; omega⟩
theorem Joined.rest_right {za zb zj : List Int} (h : Joined za zb zj) (n : Nat) : ∀ m, m < (zb.drop (n - za.length)).length →
    (zb.drop (n - za.length)).getD m 0 = (zj.drop n).getD ((za.drop n).length + m) 0 ∧ (za.drop n).length + m < (zj.drop n).length := by
  intro m hm
  simp at hm
  have hr := h.right (n - za.length + m) (by omega)
  rw [getD_drop, getD_drop, ← hr]
  refine ⟨?_, by simp [h.len]; omega⟩
  congr 1
  simp
  omega
theorem Joined.rest_len {za zb zj : List Int} (h : Joined za zb zj) (n : Nat) : (zj.drop n).length = (za.drop n).length + (zb.drop (n - za.length)).length := by
  simp [h.len]
  omega

/-- The first answer of the joined one. -/
def FirstOk (zj ns : List Int) (k : Nat) (f : Int) : Prop := 0 < k → f = drawV zj (ns.getD 0 0)
theorem FirstOk.hit {zj ns : List Int} {k : Nat} {x g : Int} (hk : ((k : Int) == 0) = true) (hx : ns.getD k 0 = x) (hg : drawV (zj.drop k) x = g) : FirstOk zj ns (k + 1) g := by
  have hk0 : k = 0 := by simpa using hk
  subst hk0
  intro _
  rw [hx, ← hg]
  rfl
theorem FirstOk.stay {zj ns : List Int} {k : Nat} {f : Int} (h : FirstOk zj ns k f) (hk : ((k : Int) == 0) = false) : FirstOk zj ns (k + 1) f := by
  have hk0 : ¬ k = 0 := by simpa using hk
  intro _
  exact h (by omega)

theorem FirstOk.val {zj ns : List Int} {k : Nat} {f x y : Int} (h : FirstOk zj ns k f) (hk : 0 < k) (hx : ns.getD 0 0 = x) (hz : 0 < zj.length) (hy : zj.getD 0 0 = y) : f = y % x := by
  rw [h hk, hx]
  have := drawV_lt (n := x) hz
  rw [hy] at this
  exact this
theorem byte_joined {za zb zj : List Int} (h : Joined za zb zj) (ha : ∀ z ∈ za, IsByte z) (hb : ∀ z ∈ zb, IsByte z) : ∀ z ∈ zj, IsByte z := by
  intro z hz
  obtain ⟨i, hi, rfl⟩ := List.getElem_of_mem hz
  have e : zj[i] = zj.getD i 0 := by simp [List.getD, hi]
  rw [e]
  by_cases hia : i < za.length
  · rw [h.left i hia]; exact getD_byte ha hia
  · have hr := h.right (i - za.length) (by rw [h.len] at hi; omega)
    rw [show za.length + (i - za.length) = i by omega] at hr
    rw [hr]; exact getD_byte hb (by rw [h.len] at hi; omega)

theorem newBytes_hid (a : Option Addr) (l c : Nat) (w : World) :
    Calls Try.prog 7 #[.slice a l c] w fun e w' => e = .returned (.pointer (some ⟨w.heap.size, 0, none⟩)) ∧ Hid (w' = w.alloc (.cells #[.slice a l c] 33)) := newBytes_any a l c w
theorem newObjAt {B : Nat} {w : World} {a : Option Addr} {c n : Nat} {zs : List Int} (h : IntsIn B .u8 w a zs) (hB : B ≤ w.heap.size) (hn : zs.length = n) (hc : n ≤ c) : BytesObj B w.heap.size (w.alloc (.cells #[.slice a n c] 33)) zs := by
  subst hn
  exact ⟨⟨a, c, by simp, hc, h.keep ((Below.refl _ _).alloc hB _)⟩, by simp, hB⟩
theorem BytesObj.alloc {B P : Nat} {w : World} {zs : List Int} (h : BytesObj B P w zs) (o : Obj) : BytesObj B P (w.alloc o) zs :=
  h.keep (World.grownBy_alloc w o none) (by simp) (by simp) h.lt
theorem BytesObj.other {B P Q : Nat} {w w' : World} {zs : List Int} (h : BytesObj B P w zs) (hg : w.grownBy w' (some Q)) (hne : P ≠ Q) (hB : B ≤ Q) : BytesObj B P w' zs :=
  h.keep hg (by simpa using hne) (by intro k e; cases e; exact hB) h.lt

theorem grown_belowQ {B Q : Nat} {w w' : World} (hg : w.grownBy w' (some Q)) (hQ : B ≤ Q) (hP : B ≤ w.heap.size) : Below B w w' :=
  ⟨hg.os, hg.tape, hg.output, hg.size, fun k hk => hg.block k (by omega) (fun e => by cases e; omega)⟩
theorem mem_drop {zs : List Int} (h : ∀ z ∈ zs, IsByte z) (n : Nat) : ∀ z ∈ zs.drop n, IsByte z := fun z hz => h z (List.mem_of_mem_drop hz)
theorem drop_stay {zb : List Int} {m n : Nat} (h : m < n) : zb.drop (m - n) = zb.drop (m + 1 - n) := by
  rw [show m - n = 0 by omega, show m + 1 - n = 0 by omega]
theorem drop_past {za : List Int} {m : Nat} (h : za.length ≤ m) : za.drop m = za.drop (m + 1) := by
  rw [List.drop_eq_nil_of_le h, List.drop_eq_nil_of_le (by omega)]
theorem drop_next {zb : List Int} {m n : Nat} (h : n ≤ m) : (zb.drop (m - n)).tail = zb.drop (m + 1 - n) := by
  rw [tail_drop, show m - n + 1 = m + 1 - n by omega]

/-- A row that is written whole. -/
theorem intsIn_row {w : World} {b n : Nat} {zs : List Int} (hn : zs.length = n) (h : w.rowIs b 5 n (fun j => if j < n then .int .u8 (zs.getD j 0) else .int .u8 0)) : IntsIn w.heap.size .u8 w (some ⟨b, 0, none⟩) zs := by
  subst hn
  exact rowDone (Nat.le_refl _) h
end Go.Proofs.Qxb6628303a
