/-
  newCausalOrder (31): its second loop's state; what it leaves.
-/
import Derived.Test.Qxb6603687aNco1
namespace Go.Proofs.Qxb6603687a
open Go.RowKit Go.Maps
set_option linter.unusedVariables false

/-- The write that operation i reads, or -1. -/
def fromOf (H : Hist) (i : Nat) : Int :=
  if H.o i = 114 ∧ 0 ≤ lastW H.o (ys H) (ys H i) H.n ∧ H.v (lastW H.o (ys H) (ys H i) H.n).toNat = H.v i then lastW H.o (ys H) (ys H i) H.n else -1
/-- How many of the first k operations read w. -/
def reads (H : Hist) (w : Int) : Nat → Nat
  | 0 => 0
  | k + 1 => reads H w k + if fromOf H k = w then 1 else 0
theorem reads_le (H : Hist) (w : Int) : ∀ k, reads H w k ≤ k
  | 0 => Nat.le_refl _
  | k + 1 => by have := reads_le H w k; unfold reads; split <;> omega
theorem fromOf_lt (H : Hist) (i : Nat) : -1 ≤ fromOf H i ∧ fromOf H i < H.n := by
  have := lastW_lt H.o (ys H) (ys H i) H.n
  unfold fromOf
  split <;> omega

def fF (H : Hist) (k j : Nat) : Int := if j < k then fromOf H j else 0
def fR (H : Hist) (k j : Nat) : Int := (reads H (j : Int) k : Int)
theorem fF_next (H : Hist) (k i : Nat) (h : i < H.n) : fF H (k + 1) i = if i = k then fromOf H k else fF H k i := by
  unfold fF
  by_cases e : i = k
  · subst e; rw [if_pos (by omega), if_pos rfl]
  · rw [if_neg e]
    by_cases h1 : i < k
    · rw [if_pos (by omega), if_pos h1]
    · rw [if_neg (by omega), if_neg h1]
theorem fR_none (H : Hist) (k : Nat) (h : fromOf H k = -1) (i : Nat) : fR H (k + 1) i = fR H k i := by
  show ((reads H (i : Int) k + (if fromOf H k = (i : Int) then 1 else 0) : Nat) : Int) = _
  rw [if_neg (by omega)]
  rfl
theorem fR_some (H : Hist) (k m : Nat) (h : fromOf H k = (m : Int)) (i : Nat) : fR H (k + 1) i = if i = m then fR H k m + 1 else fR H k i := by
  show ((reads H (i : Int) k + (if fromOf H k = (i : Int) then 1 else 0) : Nat) : Int) = _
  by_cases e : i = m
  · subst e; rw [if_pos h, if_pos rfl]; rfl
  · rw [if_neg (by omega), if_neg e]; rfl

structure St2 (H : Hist) (w0 : World) (B : Bk) (w : World) (z : Int) (ff fr : Nat → Int) (cW : Nat) : Prop where
  below : Below w0.heap.size w0 w
  box : Blk w B.gO 66 (boxCells H.n B z)
  r0 : RowFn w B.g0 21 .i32 H.n (fS H H.n)
  r1 : RowFn w B.g1 21 .i32 H.n (fP H H.n)
  r2 : RowFn w B.g2 21 .i32 H.n (fV H H.n)
  r3 : RowFn w B.g3 21 .i32 H.n ff
  r4 : RowFn w B.g4 21 .i32 H.n (fun _ => 0)
  r5 : RowFn w B.g5 21 .i32 H.n fr
  mapW : MapFn w Try.prog 9 B.gW H.n cW (writeMap H.o (ys H) H.n)

section
variable {H : Hist} {w0 : World} {B : Bk} {w w' : World} {z : Int} {ff fr : Nat → Int} {cW : Nat}
theorem St2.grow (h : St2 H w0 B w z ff fr cW) (hg : w.grownBy w' none) : St2 H w0 B w' z ff fr cW :=
  ⟨below_grown h.below hg (Nat.le_refl _) (fun k e => by cases e), h.box.kept hg (by simp), h.r0.kept hg (by simp), h.r1.kept hg (by simp), h.r2.kept hg (by simp), h.r3.kept hg (by simp), h.r4.kept hg (by simp), h.r5.kept hg (by simp), h.mapW.kept hg (by simp)⟩
theorem St2.row3 (hB : BkOk w0.heap.size B) (h : St2 H w0 B w z ff fr cW) {j : Nat} (hj : j < H.n) (v : Int) {f' : Nat → Int} (hf : ∀ i, i < H.n → f' i = if i = j then v else ff i) : St2 H w0 B (w.setCell ⟨B.g3, j, none⟩ (.int .i32 v)) z f' fr cW := by
  have hg := grownBy_set w ⟨B.g3, j, none⟩ (.int .i32 v)
  obtain ⟨n0, n1, n2, n3, n4, n5, l0, l1, l2, l3, l4, l5, oS, sW, d01, d02, d03, d04, d05, d12, d13, d14, d15, d23, d24, d25, d34, d35, d45⟩ := hB
  exact ⟨below_grown h.below hg (Nat.le_refl _) (fun k e => by cases e; omega), h.box.kept hg (by simp; omega), h.r0.kept hg (by simp; omega), h.r1.kept hg (by simp; omega), h.r2.kept hg (by simp; omega), h.r3.set hj v hf, h.r4.kept hg (by simp; omega), h.r5.kept hg (by simp; omega), h.mapW.kept hg (by simp; omega)⟩
theorem St2.row5 (hB : BkOk w0.heap.size B) (h : St2 H w0 B w z ff fr cW) {j : Nat} (hj : j < H.n) (v : Int) {f' : Nat → Int} (hf : ∀ i, i < H.n → f' i = if i = j then v else fr i) : St2 H w0 B (w.setCell ⟨B.g5, j, none⟩ (.int .i32 v)) z ff f' cW := by
  have hg := grownBy_set w ⟨B.g5, j, none⟩ (.int .i32 v)
  obtain ⟨n0, n1, n2, n3, n4, n5, l0, l1, l2, l3, l4, l5, oS, sW, d01, d02, d03, d04, d05, d12, d13, d14, d15, d23, d24, d25, d34, d35, d45⟩ := hB
  exact ⟨below_grown h.below hg (Nat.le_refl _) (fun k e => by cases e; omega), h.box.kept hg (by simp; omega), h.r0.kept hg (by simp; omega), h.r1.kept hg (by simp; omega), h.r2.kept hg (by simp; omega), h.r3.kept hg (by simp; omega), h.r4.kept hg (by simp; omega), h.r5.set hj v hf, h.mapW.kept hg (by simp; omega)⟩
/-- From the first loop to the second: 'sites' is laid. -/
theorem Head1.second (hB : BkOk w0.heap.size B) {v6 v7 : Value} {x6 x7 : List Int} (h : Head1 H w0 B H.n v6 x6 v7 x7 w) : ∃ cW, St2 H w0 B (w.setCell ⟨B.gO, 0, none⟩ (.int .i64 (x6.length : Int))) (nb H.s H.n : Int) (fF H 0) (fR H 0) cW := by
  obtain ⟨cW, hs, ht⟩ := h
  have hg := grownBy_set w ⟨B.gO, 0, none⟩ (.int .i64 (x6.length : Int))
  obtain ⟨n0, n1, n2, n3, n4, n5, l0, l1, l2, l3, l4, l5, oS, sW, _⟩ := hB
  have hbl : Below w0.heap.size w0 (w.setCell ⟨B.gO, 0, none⟩ (.int .i64 (x6.length : Int))) := hs.below.setCell (by simp only; omega) _
  refine ⟨cW, hbl, ?_, hs.r0.kept hg (by simp; omega), hs.r1.kept hg (by simp; omega), hs.r2.kept hg (by simp; omega), (hs.r3.kept hg (by simp; omega)).congr (fun j _ => rfl), hs.r4.kept hg (by simp; omega), (hs.r5.kept hg (by simp; omega)).congr (fun j _ => rfl), hs.mapW.kept hg (by simp; omega)⟩
  have := hs.box.set 0 (.int .i64 (x6.length : Int))
  rw [ht.l6] at this
  rw [ht.l6]
  exact this
end

section
variable {H : Hist} {w0 : World} {B : Bk} {w : World} {z : Int} {cW k : Nat}
/-- A round of the second loop: nothing is read; write m is read. -/
theorem St2.miss (h : St2 H w0 B w z (fun i => if i = k then -1 else fF H k i) (fR H k) cW) (hf : fromOf H k = -1) : St2 H w0 B w z (fF H (k + 1)) (fR H (k + 1)) cW :=
  { h with r3 := h.r3.congr (fun i hi => by rw [fF_next H k i hi, hf]), r5 := h.r5.congr (fun i _ => fR_none H k hf i) }
theorem St2.hit (hB : BkOk w0.heap.size B) (h : St2 H w0 B w z (fun i => if i = k then -1 else fF H k i) (fR H k) cW) {m : Nat} (hk : k < H.n) (hm : m < H.n) (hf : fromOf H k = (m : Int)) :
    St2 H w0 B ((w.setCell ⟨B.g3, k, none⟩ (.int .i32 (m : Int))).setCell ⟨B.g5, m, none⟩ (.int .i32 (fR H k m + 1))) z (fF H (k + 1)) (fR H (k + 1)) cW :=
  (h.row3 hB hk (m : Int) (fun i hi => by
    rw [fF_next H k i hi, hf]
    by_cases e : i = k
    · rw [if_pos e, if_pos e]
    · rw [if_neg e, if_neg e, if_neg e])).row5 hB hm (fR H k m + 1) (fun i _ => fR_some H k m hf i)
theorem fromOf_neg (h : lastW H.o (ys H) (ys H k) H.n < 0) : fromOf H k = -1 := if_neg (fun e => by omega)
theorem fromOf_kind (h : H.o k ≠ 114) : fromOf H k = -1 := if_neg (fun e => h e.1)
theorem fromOf_var {m : Nat} (h : lastW H.o (ys H) (ys H k) H.n = (m : Int)) (hv : H.v m ≠ H.v k) : fromOf H k = -1 := if_neg (fun e => hv (by have := e.2.2; rw [h] at this; exact this))
theorem fromOf_yes {m : Nat} (h : lastW H.o (ys H) (ys H k) H.n = (m : Int)) (ho : H.o k = 114) (hv : H.v m = H.v k) : fromOf H k = (m : Int) := by
  unfold fromOf
  rw [h, if_pos ⟨ho, by omega, hv⟩]
end

/-- What newCausalOrder leaves: a struct and six rows in new blocks; all that was there stands. -/
structure Ordered (H : Hist) (w0 : World) (g0 g1 g2 g3 g4 g5 gO : Nat) (w : World) : Prop where
  below : Below w0.heap.size w0 w
  up : w0.heap.size ≤ g0 ∧ w0.heap.size ≤ g1 ∧ w0.heap.size ≤ g2 ∧ w0.heap.size ≤ g3 ∧ w0.heap.size ≤ g4 ∧ w0.heap.size ≤ g5 ∧ w0.heap.size ≤ gO
  box : Blk w gO 66 #[.int .i64 (nb H.s H.n : Int), .slice (some ⟨g0, 0, none⟩) H.n H.n, .slice (some ⟨g1, 0, none⟩) H.n H.n, .slice (some ⟨g2, 0, none⟩) H.n H.n, .slice (some ⟨g3, 0, none⟩) H.n H.n, .slice (some ⟨g4, 0, none⟩) H.n H.n, .slice (some ⟨g5, 0, none⟩) H.n H.n]
  r0 : RowFn w g0 21 .i32 H.n (fun j => (sn H.s j : Int))
  r1 : RowFn w g1 21 .i32 H.n (fun j => (cnt H.s (H.s j) (j + 1) : Int))
  r2 : RowFn w g2 21 .i32 H.n (fun j => lastB H.s (H.s j) j)
  r3 : RowFn w g3 21 .i32 H.n (fun j => fromOf H j)
  r4 : RowFn w g4 21 .i32 H.n (fun _ => 0)
  r5 : RowFn w g5 21 .i32 H.n (fun j => (reads H (j : Int) H.n : Int))
theorem St2.ordered {H : Hist} {w0 : World} {B : Bk} {w : World} {cW : Nat} (hB : BkOk w0.heap.size B) (h : St2 H w0 B w (nb H.s H.n : Int) (fF H H.n) (fR H H.n) cW) : Ordered H w0 B.g0 B.g1 B.g2 B.g3 B.g4 B.g5 B.gO w := by
  obtain ⟨n0, n1, n2, n3, n4, n5, l0, l1, l2, l3, l4, l5, oS, sW, _⟩ := hB
  exact ⟨h.below, ⟨n0, n1, n2, n3, n4, n5, by omega⟩, h.box, h.r0.congr (fun j hj => (if_pos hj).symm), h.r1.congr (fun j hj => (if_pos hj).symm), h.r2.congr (fun j hj => (if_pos hj).symm), h.r3.congr (fun j hj => (if_pos hj).symm), h.r4, h.r5.congr (fun j hj => rfl)⟩
/-- .. said of a call's end. -/
def NcoPost (H : Hist) (w : World) (e : Ending) (w' : World) : Prop := ∃ g0 g1 g2 g3 g4 g5 gO, e = .returned (.pointer (some ⟨gO, 0, none⟩)) ∧ Ordered H w g0 g1 g2 g3 g4 g5 gO w'
theorem ncoPost_mk {H : Hist} {w w' : World} {e : Ending} {g0 g1 g2 g3 g4 g5 gO : Nat} (he : e = .returned (.pointer (some ⟨gO, 0, none⟩))) (h : Ordered H w g0 g1 g2 g3 g4 g5 gO w') : NcoPost H w e w' := ⟨g0, g1, g2, g3, g4, g5, gO, he, h⟩
end Go.Proofs.Qxb6603687a
