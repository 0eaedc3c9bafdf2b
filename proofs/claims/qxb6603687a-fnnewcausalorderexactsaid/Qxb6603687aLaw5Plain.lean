/-
  FnNewCausalOrderExact: what the law's own scans find, as plain functions; its memory.
-/
import Derived.Test.Qxb6603687aZzn
namespace Go.Proofs.Qxb6603687a
open Go.RowKit Go.Maps
set_option linter.unusedVariables false

theorem fi_hit (s : Nat → Int) {x : Int} {k j : Nat} (hj : j < k) (h : s j = x) (hb : ∀ i, i < j → s i ≠ x) : fi s x k = j := by
  have h1 := fi_le_of s x h hj
  have h2 := fi_at s x k (by omega)
  apply Classical.byContradiction
  intro hne
  exact hb (fi s x k) (by omega) h2
theorem fi_miss (s : Nat → Int) {x : Int} {k : Nat} (hb : ∀ i, i < k → s i ≠ x) : fi s x k = k := by
  have h1 := fi_le s x k
  apply Classical.byContradiction
  intro hne
  have h3 : fi s x k < k := by omega
  exact hb (fi s x k) h3 (fi_at s x k h3)

/-- firstOf, newBefore, wantFrom after k rounds. -/
def gFst (H : Hist) (k j : Nat) : Int := if j < k then (fi H.s (H.s j) j : Int) else 0
def gNew (H : Hist) (k j : Nat) : Int := if j ≤ k then (nb H.s j : Int) else 0
def gWant (H : Hist) (k j : Nat) : Int := if j < k then fromOf H j else 0
theorem gFst_next (H : Hist) (k i : Nat) : gFst H (k + 1) i = if i = k then (fi H.s (H.s k) k : Int) else gFst H k i := by
  unfold gFst
  by_cases e : i = k
  · subst e; rw [if_pos (by omega), if_pos rfl]
  · rw [if_neg e]
    by_cases h1 : i < k
    · rw [if_pos (by omega), if_pos h1]
    · rw [if_neg (by omega), if_neg h1]
theorem gNew_next (H : Hist) (k i : Nat) : gNew H (k + 1) i = if i = k + 1 then (nb H.s (k + 1) : Int) else gNew H k i := by
  unfold gNew
  by_cases e : i = k + 1
  · subst e; rw [if_pos (by omega), if_pos rfl]
  · rw [if_neg e]
    by_cases h1 : i ≤ k
    · rw [if_pos (by omega), if_pos h1]
    · rw [if_neg (by omega), if_neg h1]
theorem gWant_next (H : Hist) (k i : Nat) : gWant H (k + 1) i = if i = k then fromOf H k else gWant H k i := by
  unfold gWant
  by_cases e : i = k
  · subst e; rw [if_pos (by omega), if_pos rfl]
  · rw [if_neg e]
    by_cases h1 : i < k
    · rw [if_pos (by omega), if_pos h1]
    · rw [if_neg (by omega), if_neg h1]
theorem gNew_zero (H : Hist) (j : Nat) : gNew H 0 j = 0 := by
  unfold gNew
  by_cases e : j ≤ 0
  · have : j = 0 := by omega
    subst this
    rfl
  · rw [if_neg e]
theorem gNew_old (H : Hist) (k : Nat) (h : fi H.s (H.s k) k ≠ k) : (nb H.s (k + 1) : Int) = (nb H.s k : Int) := by
  show ((nb H.s k + (if fi H.s (H.s k) k = k then 1 else 0) : Nat) : Int) = _
  rw [if_neg h, Nat.add_zero]
theorem gNew_up (H : Hist) (k : Nat) (h : fi H.s (H.s k) k = k) : (nb H.s (k + 1) : Int) = (nb H.s k : Int) + 1 := by
  rw [nb_new H.s h]; simp

/-- What the law holds in memory once the call of ZZNewCausalOrder is back: the copy of the history, the six rows. N: the heap's size then. -/
structure LSt (H : Hist) (w0 : World) (N gH g0 g1 g2 g3 g4 g5 : Nat) (w : World) : Prop where
  below : Below w0.heap.size w0 w
  ops : ∃ C, Blk w gH 37 C ∧ Holds4 C H H.n
  lt : gH < N ∧ g0 < N ∧ g1 < N ∧ g2 < N ∧ g3 < N ∧ g4 < N ∧ g5 < N ∧ w0.heap.size ≤ N ∧ N ≤ w.heap.size
  r0 : RowFn w g0 21 .i32 H.n (fun j => (sn H.s j : Int))
  r1 : RowFn w g1 21 .i32 H.n (fun j => (cnt H.s (H.s j) (j + 1) : Int))
  r2 : RowFn w g2 21 .i32 H.n (fun j => lastB H.s (H.s j) j)
  r3 : RowFn w g3 21 .i32 H.n (fun j => fromOf H j)
  r4 : RowFn w g4 21 .i32 H.n (fun _ => 0)
  r5 : RowFn w g5 21 .i32 H.n (fun j => (reads H (j : Int) H.n : Int))
section
variable {H : Hist} {w0 : World} {N gH g0 g1 g2 g3 g4 g5 : Nat} {w w' : World}
theorem LSt.kept (h : LSt H w0 N gH g0 g1 g2 g3 g4 g5 w) {row : Option Nat} (hg : w.grownBy w' row) (hr : ∀ b, row = some b → N ≤ b) : LSt H w0 N gH g0 g1 g2 g3 g4 g5 w' := by
  obtain ⟨C, hC, hh⟩ := h.ops
  obtain ⟨l, l0, l1, l2, l3, l4, l5, ln, lN⟩ := h.lt
  have ne : ∀ b, b < N → some b ≠ row := fun b hb e => by have := hr b e.symm; omega
  exact ⟨below_grown h.below hg (Nat.le_refl _) (fun k e => by have := hr k e; omega), ⟨C, hC.kept hg (ne _ l), hh⟩, ⟨l, l0, l1, l2, l3, l4, l5, ln, Nat.le_trans lN hg.size⟩,
    h.r0.kept hg (ne _ l0), h.r1.kept hg (ne _ l1), h.r2.kept hg (ne _ l2), h.r3.kept hg (ne _ l3), h.r4.kept hg (ne _ l4), h.r5.kept hg (ne _ l5)⟩
theorem LSt.cs (h : LSt H w0 N gH g0 g1 g2 g3 g4 g5 w) {j : Nat} (hj : j < H.n) : w.cell? ⟨gH, j * 4, none⟩ = some (.int .i64 (H.s j)) := let ⟨_, hC, hh⟩ := h.ops; hC.cellIs (hh.at_ j hj).1
theorem LSt.co (h : LSt H w0 N gH g0 g1 g2 g3 g4 g5 w) {j : Nat} (hj : j < H.n) : w.cell? ⟨gH, j * 4 + 1, none⟩ = some (.int .u8 (H.o j)) := let ⟨_, hC, hh⟩ := h.ops; hC.cellIs (hh.at_ j hj).2.1
theorem LSt.cv (h : LSt H w0 N gH g0 g1 g2 g3 g4 g5 w) {j : Nat} (hj : j < H.n) : w.cell? ⟨gH, j * 4 + 2, none⟩ = some (.int .i64 (H.v j)) := let ⟨_, hC, hh⟩ := h.ops; hC.cellIs (hh.at_ j hj).2.2.1
theorem LSt.cx (h : LSt H w0 N gH g0 g1 g2 g3 g4 g5 w) {j : Nat} (hj : j < H.n) : w.cell? ⟨gH, j * 4 + 3, none⟩ = some (.string (H.x j)) := let ⟨_, hC, hh⟩ := h.ops; hC.cellIs (hh.at_ j hj).2.2.2
theorem LSt.opsIn (h : LSt H w0 N gH g0 g1 g2 g3 g4 g5 w) : OpsIn w gH 0 H := let ⟨_, hC, hh⟩ := h.ops; hh.opsIn hC
theorem LSt.set (h : LSt H w0 N gH g0 g1 g2 g3 g4 g5 w) {a : Addr} (ha : N ≤ a.block) (v : Value) : LSt H w0 N gH g0 g1 g2 g3 g4 g5 (w.setCell a v) := h.kept (grownBy_set w a v) (fun b e => by cases e; exact ha)
theorem LSt.drewN (h : LSt H w0 N gH g0 g1 g2 g3 g4 g5 w) (m : Nat) : LSt H w0 N gH g0 g1 g2 g3 g4 g5 (w.drewN m) := h.kept (grownBy_drewN w m) (fun b e => by cases e)
theorem LSt.alloc (h : LSt H w0 N gH g0 g1 g2 g3 g4 g5 w) (o : Obj) : LSt H w0 N gH g0 g1 g2 g3 g4 g5 (w.alloc o) := h.kept (World.grownBy_alloc w o none) (fun b e => by cases e)
/-- From the two copies and the order to the law's memory. -/
theorem lst_start {wa wb wc : World} {C : Array Value} {gO : Nat} (hba : Below w0.heap.size w0 wa) (hgH : Blk wa gH 37 C) (hC : Holds4 C H H.n) (hbb : Below wa.heap.size wa wb) (ho : Ordered H wb g0 g1 g2 g3 g4 g5 gO wc) : LSt H w0 wc.heap.size gH g0 g1 g2 g3 g4 g5 wc := by
  have h1 := hgH.below hbb hgH.lt
  have h2 := h1.below ho.below h1.lt
  exact ⟨(hba.trans (hbb.mono hba.size)).trans (ho.below.mono (Nat.le_trans hba.size hbb.size)), ⟨C, h2, hC⟩,
    ⟨h2.lt, ho.r0.lt, ho.r1.lt, ho.r2.lt, ho.r3.lt, ho.r4.lt, ho.r5.lt, Nat.le_trans hba.size (Nat.le_trans hbb.size ho.below.size), Nat.le_refl _⟩, ho.r0, ho.r1, ho.r2, ho.r3, ho.r4, ho.r5⟩
end
theorem tl_eq (H : Hist) (a b : Nat) : ((H.x a).toList == (H.x b).toList) = decide (ys H a = ys H b) := by
  rw [ByteArray.toList_eq, ByteArray.toList_eq]
  show ((ys H a) == (ys H b)) = _
  by_cases h : ys H a = ys H b <;> simp [h]
theorem lastW_hit (H : Hist) (m : Nat) (b : List UInt8) (ho : H.o m = 119) (hy : ys H m = b) : lastW H.o (ys H) b (m + 1) = (m : Int) := if_pos ⟨ho, hy⟩
theorem lastW_skip (H : Hist) (m : Nat) (b : List UInt8) (h : ¬ (H.o m = 119 ∧ ys H m = b)) : lastW H.o (ys H) b (m + 1) = lastW H.o (ys H) b m := if_neg h
theorem reads_skip (H : Hist) (w : Int) (k : Nat) (h : fromOf H k ≠ w) : reads H w (k + 1) = reads H w k := by
  show reads H w k + _ = _
  rw [if_neg h, Nat.add_zero]
theorem reads_more (H : Hist) (w : Int) (k : Nat) (h : fromOf H k = w) : reads H w (k + 1) = reads H w k + 1 := by
  show reads H w k + _ = _
  rw [if_pos h]
/-- The law's four rows of its own, besides what it was handed. -/
structure Own3 (H : Hist) (N gN gT : Nat) (k : Nat) (w : World) : Prop where
  f : RowFn w N 3 .i64 H.n (gFst H H.n)
  b : RowFn w gN 3 .i64 (H.n + 1) (gNew H H.n)
  t : RowFn w gT 3 .i64 H.n (gWant H k)
  ne : N < gN ∧ gN < gT
theorem Own3.drewN {H : Hist} {N gN gT k : Nat} {w : World} (h : Own3 H N gN gT k w) (m : Nat) : Own3 H N gN gT k (w.drewN m) := ⟨h.f.kept (grownBy_drewN w m) (by simp), h.b.kept (grownBy_drewN w m) (by simp), h.t.kept (grownBy_drewN w m) (by simp), h.ne⟩
theorem RowFn.alloc {w : World} {g : Nat} {e : TypeId} {kd : IntKind} {n : Nat} {f : Nat → Int} (h : RowFn w g e kd n f) (o : Obj) : RowFn (w.alloc o) g e kd n f := h.kept (World.grownBy_alloc w o none) (by simp)
theorem RowFn.drewN {w : World} {g : Nat} {e : TypeId} {kd : IntKind} {n : Nat} {f : Nat → Int} (h : RowFn w g e kd n f) (m : Nat) : RowFn (w.drewN m) g e kd n f := h.kept (grownBy_drewN w m) (by simp)
theorem RowFn.other {w : World} {g : Nat} {e : TypeId} {kd : IntKind} {n : Nat} {f : Nat → Int} (h : RowFn w g e kd n f) {a : Addr} (hne : g ≠ a.block) (v : Value) : RowFn (w.setCell a v) g e kd n f := h.kept (grownBy_set w a v) (by simpa using hne)
theorem rowFn_new {w : World} {e : TypeId} {kd : IntKind} {n : Nat} {f : Nat → Int} (hf : ∀ j, j < n → f j = 0) : RowFn (w.alloc (.cells (zeros kd n) e)) w.heap.size e kd n f := (rowFn_zeros (Blk.new w e _)).congr hf
theorem info3 : (Try.prog.info? 3).map (fun i => (i.zero, i.size, i.bytes)) = some (some (.int .i64 0), 1, 8) := by kernel_rfl
theorem run_mk64 (n : Nat) (hn : n ≤ 65536) (w : World) : (Instr.makeSlice 35 (.int .i64 (n : Int)) (.int .i64 (n : Int))).run Try.prog w = .ok (.slice (some ⟨w.heap.size, 0, none⟩) n n) (w.alloc (.cells (zeros .i64 n) 3)) := by
  have := run_mk (P := Try.prog) 35 3 _ 1 8 Try.underlying35 info3 n (by omega) (by omega) w
  rw [Nat.mul_one] at this
  exact this
/-- wantFrom[k] holds x; all else as at round k. -/
structure Own3m (H : Hist) (N gN gT : Nat) (k : Nat) (x : Int) (w : World) : Prop where
  f : RowFn w N 3 .i64 H.n (gFst H H.n)
  b : RowFn w gN 3 .i64 (H.n + 1) (gNew H H.n)
  t : RowFn w gT 3 .i64 H.n (fun i => if i = k then x else gWant H k i)
  ne : N < gN ∧ gN < gT
theorem Own3m.drewN {H : Hist} {N gN gT k : Nat} {x : Int} {w : World} (h : Own3m H N gN gT k x w) (m : Nat) : Own3m H N gN gT k x (w.drewN m) := ⟨h.f.drewN m, h.b.drewN m, h.t.drewN m, h.ne⟩
theorem Own3.lay {H : Hist} {N gN gT k : Nat} {w : World} (h : Own3 H N gN gT k w) (hk : k < H.n) : Own3m H N gN gT k (-1) (w.setCell ⟨gT, k, none⟩ (.int .i64 (-1))) := by
  have := h.ne
  exact ⟨h.f.other (by simp only; omega) _, h.b.other (by simp only; omega) _, h.t.set hk (-1) (fun i _ => rfl), h.ne⟩
theorem Own3m.put {H : Hist} {N gN gT k : Nat} {x : Int} {w : World} (h : Own3m H N gN gT k x w) (hk : k < H.n) (y : Int) : Own3m H N gN gT k y (w.setCell ⟨gT, k, none⟩ (.int .i64 y)) := by
  have := h.ne
  exact ⟨h.f.other (by simp only; omega) _, h.b.other (by simp only; omega) _, h.t.set hk y (fun i _ => by by_cases e : i = k <;> simp [e]), h.ne⟩
theorem Own3m.done {H : Hist} {N gN gT k : Nat} {x : Int} {w : World} (h : Own3m H N gN gT k x w) (hf : fromOf H k = x) : Own3 H N gN gT (k + 1) w := ⟨h.f, h.b, h.t.congr (fun i _ => by rw [gWant_next, hf]), h.ne⟩
end Go.Proofs.Qxb6603687a
