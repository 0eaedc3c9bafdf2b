/-
  The state of newCausalOrder's first loop, and what each of its steps does to it.
-/
import Derived.Test.Qxb6603687aRowFn
namespace Go.Proofs.Qxb6603687a
open Go.RowKit Go.Maps
set_option linter.unusedVariables false

/-- The blocks that newCausalOrder makes ahead of its loops: six rows, the struct, two maps. -/
structure Bk where
  g0 : Nat
  g1 : Nat
  g2 : Nat
  g3 : Nat
  g4 : Nat
  g5 : Nat
  gO : Nat
  gS : Nat
  gW : Nat
structure BkOk (N : Nat) (B : Bk) : Prop where
  n0 : N ≤ B.g0
  n1 : N ≤ B.g1
  n2 : N ≤ B.g2
  n3 : N ≤ B.g3
  n4 : N ≤ B.g4
  n5 : N ≤ B.g5
  l0 : B.g0 < B.gO
  l1 : B.g1 < B.gO
  l2 : B.g2 < B.gO
  l3 : B.g3 < B.gO
  l4 : B.g4 < B.gO
  l5 : B.g5 < B.gO
  oS : B.gO < B.gS
  sW : B.gS < B.gW
  d01 : B.g0 ≠ B.g1
  d02 : B.g0 ≠ B.g2
  d03 : B.g0 ≠ B.g3
  d04 : B.g0 ≠ B.g4
  d05 : B.g0 ≠ B.g5
  d12 : B.g1 ≠ B.g2
  d13 : B.g1 ≠ B.g3
  d14 : B.g1 ≠ B.g4
  d15 : B.g1 ≠ B.g5
  d23 : B.g2 ≠ B.g3
  d24 : B.g2 ≠ B.g4
  d25 : B.g2 ≠ B.g5
  d34 : B.g3 ≠ B.g4
  d35 : B.g3 ≠ B.g5
  d45 : B.g4 ≠ B.g5

def boxCells (n : Nat) (B : Bk) (z : Int) : Array Value := #[.int .i64 z, .slice (some ⟨B.g0, 0, none⟩) n n, .slice (some ⟨B.g1, 0, none⟩) n n, .slice (some ⟨B.g2, 0, none⟩) n n, .slice (some ⟨B.g3, 0, none⟩) n n, .slice (some ⟨B.g4, 0, none⟩) n n, .slice (some ⟨B.g5, 0, none⟩) n n]

structure St (n : Nat) (w0 : World) (B : Bk) (w : World) (fs fp fv : Nat → Int) (kS cS : Nat) (mS : Lit → Option Value) (kW cW : Nat) (mW : Lit → Option Value) (v6 : Value) (x6 : List Int) (v7 : Value) (x7 : List Int) : Prop where
  below : Below w0.heap.size w0 w
  box : Blk w B.gO 66 (boxCells n B 0)
  r0 : RowFn w B.g0 21 .i32 n fs
  r1 : RowFn w B.g1 21 .i32 n fp
  r2 : RowFn w B.g2 21 .i32 n fv
  r3 : RowFn w B.g3 21 .i32 n (fun _ => 0)
  r4 : RowFn w B.g4 21 .i32 n (fun _ => 0)
  r5 : RowFn w B.g5 21 .i32 n (fun _ => 0)
  mapS : MapFn w Try.prog 3 B.gS kS cS mS
  mapW : MapFn w Try.prog 9 B.gW kW cW mW
  o6 : OwnI w (B.gW + 1) v6 x6
  o7 : OwnI w (B.gW + 1) v7 x7
  sep : ∀ g, v6.ownBlock = some g → v7.ownBlock ≠ some g

section
variable {n : Nat} {w0 : World} {B : Bk} {w w' : World} {fs fp fv : Nat → Int} {kS cS kW cW : Nat} {mS mW : Lit → Option Value} {v6 v7 : Value} {x6 x7 : List Int}

theorem St.free6 (hB : BkOk w0.heap.size B) (h : St n w0 B w fs fp fv kS cS mS kW cW mW v6 x6 v7 x7) {b : Nat} (hb : b ≤ B.gW) : some b ≠ v6.ownBlock := fun e => by
  have := (World.ownsRow.lt h.o6 b e.symm).1
  omega
theorem St.free7 (hB : BkOk w0.heap.size B) (h : St n w0 B w fs fp fv kS cS mS kW cW mW v6 x6 v7 x7) {b : Nat} (hb : b ≤ B.gW) : some b ≠ v7.ownBlock := fun e => by
  have := (World.ownsRow.lt h.o7 b e.symm).1
  omega
theorem St.apart6 (h : St n w0 B w fs fp fv kS cS mS kW cW mW v6 x6 v7 x7) : v7.ownBlock = none ∨ v7.ownBlock ≠ v6.ownBlock := by
  cases e : v7.ownBlock with
  | none => exact .inl rfl
  | some g => exact .inr fun e' => h.sep g e'.symm e
theorem St.apart7 (h : St n w0 B w fs fp fv kS cS mS kW cW mW v6 x6 v7 x7) : v6.ownBlock = none ∨ v6.ownBlock ≠ v7.ownBlock := by
  cases e : v6.ownBlock with
  | none => exact .inl rfl
  | some g => exact .inr fun e' => h.sep g e e'.symm
theorem St.away6 (h : St n w0 B w fs fp fv kS cS mS kW cW mW v6 x6 v7 x7) {b : Nat} (hb : b ≤ B.gW) : v6.ownBlock = none ∨ v6.ownBlock ≠ some b := by
  cases e : v6.ownBlock with
  | none => exact .inl rfl
  | some g =>
    refine .inr fun e' => ?_
    have := (World.ownsRow.lt h.o6 g e).1
    simp at e'
    omega
theorem St.away7 (h : St n w0 B w fs fp fv kS cS mS kW cW mW v6 x6 v7 x7) {b : Nat} (hb : b ≤ B.gW) : v7.ownBlock = none ∨ v7.ownBlock ≠ some b := by
  cases e : v7.ownBlock with
  | none => exact .inl rfl
  | some g =>
    refine .inr fun e' => ?_
    have := (World.ownsRow.lt h.o7 g e).1
    simp at e'
    omega

/-- New blocks; draws. -/
theorem St.grow (h : St n w0 B w fs fp fv kS cS mS kW cW mW v6 x6 v7 x7) (hg : w.grownBy w' none) : St n w0 B w' fs fp fv kS cS mS kW cW mW v6 x6 v7 x7 :=
  ⟨below_grown h.below hg (Nat.le_refl _) (fun k e => by cases e), h.box.kept hg (by simp), h.r0.kept hg (by simp), h.r1.kept hg (by simp), h.r2.kept hg (by simp), h.r3.kept hg (by simp), h.r4.kept hg (by simp), h.r5.kept hg (by simp),
    h.mapS.kept hg (by simp), h.mapW.kept hg (by simp), World.ownsRow.kept h.o6 hg (by cases v6.ownBlock <;> simp), World.ownsRow.kept h.o7 hg (by cases v7.ownBlock <;> simp), h.sep⟩
/-- A store into the sites' map. -/
theorem St.stepS (hB : BkOk w0.heap.size B) (h : St n w0 B w fs fp fv kS cS mS kW cW mW v6 x6 v7 x7) (hg : w.grownBy w' (some B.gS)) {kS' cS' : Nat} {mS' : Lit → Option Value} (hm : MapFn w' Try.prog 3 B.gS kS' cS' mS') :
    St n w0 B w' fs fp fv kS' cS' mS' kW cW mW v6 x6 v7 x7 := by
  obtain ⟨n0, n1, n2, n3, n4, n5, l0, l1, l2, l3, l4, l5, oS, sW, _⟩ := hB
  exact ⟨below_grown h.below hg (Nat.le_refl _) (fun k e => by cases e; omega), h.box.kept hg (by simp; omega), h.r0.kept hg (by simp; omega), h.r1.kept hg (by simp; omega), h.r2.kept hg (by simp; omega), h.r3.kept hg (by simp; omega), h.r4.kept hg (by simp; omega), h.r5.kept hg (by simp; omega),
    hm, h.mapW.kept hg (by simp; omega), World.ownsRow.kept h.o6 hg (h.away6 (by omega)), World.ownsRow.kept h.o7 hg (h.away7 (by omega)), h.sep⟩
/-- A store into the values' map. -/
theorem St.stepW (hB : BkOk w0.heap.size B) (h : St n w0 B w fs fp fv kS cS mS kW cW mW v6 x6 v7 x7) (hg : w.grownBy w' (some B.gW)) {kW' cW' : Nat} {mW' : Lit → Option Value} (hm : MapFn w' Try.prog 9 B.gW kW' cW' mW') :
    St n w0 B w' fs fp fv kS cS mS kW' cW' mW' v6 x6 v7 x7 := by
  obtain ⟨n0, n1, n2, n3, n4, n5, l0, l1, l2, l3, l4, l5, oS, sW, _⟩ := hB
  exact ⟨below_grown h.below hg (Nat.le_refl _) (fun k e => by cases e; omega), h.box.kept hg (by simp; omega), h.r0.kept hg (by simp; omega), h.r1.kept hg (by simp; omega), h.r2.kept hg (by simp; omega), h.r3.kept hg (by simp; omega), h.r4.kept hg (by simp; omega), h.r5.kept hg (by simp; omega),
    h.mapS.kept hg (by simp; omega), hm, World.ownsRow.kept h.o6 hg (h.away6 (by omega)), World.ownsRow.kept h.o7 hg (h.away7 (by omega)), h.sep⟩
/-- What becomes of 'last'. -/
theorem St.step6 (hB : BkOk w0.heap.size B) (h : St n w0 B w fs fp fv kS cS mS kW cW mW v6 x6 v7 x7) (hg : w.grownBy w' v6.ownBlock) {v6' : Value} {x6' : List Int} (ho : OwnI w' (B.gW + 1) v6' x6') (hat : v6'.ownBlock = v6.ownBlock ∨ ∃ g, v6'.ownBlock = some g ∧ w.heap.size ≤ g) :
    St n w0 B w' fs fp fv kS cS mS kW cW mW v6' x6' v7 x7 := by
  have hB' := hB
  obtain ⟨n0, n1, n2, n3, n4, n5, l0, l1, l2, l3, l4, l5, oS, sW, _⟩ := hB
  refine ⟨below_grown h.below hg (Nat.le_refl _) (fun k e => ?_), h.box.kept hg (h.free6 hB' (by omega)), h.r0.kept hg (h.free6 hB' (by omega)), h.r1.kept hg (h.free6 hB' (by omega)), h.r2.kept hg (h.free6 hB' (by omega)), h.r3.kept hg (h.free6 hB' (by omega)), h.r4.kept hg (h.free6 hB' (by omega)), h.r5.kept hg (h.free6 hB' (by omega)),
    h.mapS.kept hg (h.free6 hB' (by omega)), h.mapW.kept hg (h.free6 hB' (by omega)), ho, World.ownsRow.kept h.o7 hg h.apart6, ?_⟩
  · have := (World.ownsRow.lt h.o6 k e).1
    omega
  · intro g e e'
    rcases hat with hat | ⟨g', hg', hle⟩
    · exact h.sep g (by rw [← hat]; exact e) e'
    · rw [e] at hg'
      have := (World.ownsRow.lt h.o7 g e').2
      simp at hg'
      omega
/-- What becomes of 'count'. -/
theorem St.step7 (hB : BkOk w0.heap.size B) (h : St n w0 B w fs fp fv kS cS mS kW cW mW v6 x6 v7 x7) (hg : w.grownBy w' v7.ownBlock) {v7' : Value} {x7' : List Int} (ho : OwnI w' (B.gW + 1) v7' x7') (hat : v7'.ownBlock = v7.ownBlock ∨ ∃ g, v7'.ownBlock = some g ∧ w.heap.size ≤ g) :
    St n w0 B w' fs fp fv kS cS mS kW cW mW v6 x6 v7' x7' := by
  have hB' := hB
  obtain ⟨n0, n1, n2, n3, n4, n5, l0, l1, l2, l3, l4, l5, oS, sW, _⟩ := hB
  refine ⟨below_grown h.below hg (Nat.le_refl _) (fun k e => ?_), h.box.kept hg (h.free7 hB' (by omega)), h.r0.kept hg (h.free7 hB' (by omega)), h.r1.kept hg (h.free7 hB' (by omega)), h.r2.kept hg (h.free7 hB' (by omega)), h.r3.kept hg (h.free7 hB' (by omega)), h.r4.kept hg (h.free7 hB' (by omega)), h.r5.kept hg (h.free7 hB' (by omega)),
    h.mapS.kept hg (h.free7 hB' (by omega)), h.mapW.kept hg (h.free7 hB' (by omega)), World.ownsRow.kept h.o6 hg h.apart7, ho, ?_⟩
  · have := (World.ownsRow.lt h.o7 k e).1
    omega
  · intro g e e'
    rcases hat with hat | ⟨g', hg', hle⟩
    · exact h.sep g e (by rw [← hat]; exact e')
    · rw [e'] at hg'
      have := (World.ownsRow.lt h.o6 g e).2
      simp at hg'
      omega
/-- Stores into the three rows. -/
theorem St.row0 (hB : BkOk w0.heap.size B) (h : St n w0 B w fs fp fv kS cS mS kW cW mW v6 x6 v7 x7) {j : Nat} (hj : j < n) (v : Int) {f' : Nat → Int} (hf : ∀ i, i < n → f' i = if i = j then v else fs i) :
    St n w0 B (w.setCell ⟨B.g0, j, none⟩ (.int .i32 v)) f' fp fv kS cS mS kW cW mW v6 x6 v7 x7 := by
  have hg := grownBy_set w ⟨B.g0, j, none⟩ (.int .i32 v)
  obtain ⟨n0, n1, n2, n3, n4, n5, l0, l1, l2, l3, l4, l5, oS, sW, d01, d02, d03, d04, d05, _⟩ := hB
  exact ⟨below_grown h.below hg (Nat.le_refl _) (fun k e => by cases e; omega), h.box.kept hg (by simp; omega), h.r0.set hj v hf, h.r1.kept hg (by simp; omega), h.r2.kept hg (by simp; omega), h.r3.kept hg (by simp; omega), h.r4.kept hg (by simp; omega), h.r5.kept hg (by simp; omega),
    h.mapS.kept hg (by simp; omega), h.mapW.kept hg (by simp; omega), World.ownsRow.kept h.o6 hg (h.away6 (by simp only; omega)), World.ownsRow.kept h.o7 hg (h.away7 (by simp only; omega)), h.sep⟩
theorem St.row1 (hB : BkOk w0.heap.size B) (h : St n w0 B w fs fp fv kS cS mS kW cW mW v6 x6 v7 x7) {j : Nat} (hj : j < n) (v : Int) {f' : Nat → Int} (hf : ∀ i, i < n → f' i = if i = j then v else fp i) :
    St n w0 B (w.setCell ⟨B.g1, j, none⟩ (.int .i32 v)) fs f' fv kS cS mS kW cW mW v6 x6 v7 x7 := by
  have hg := grownBy_set w ⟨B.g1, j, none⟩ (.int .i32 v)
  obtain ⟨n0, n1, n2, n3, n4, n5, l0, l1, l2, l3, l4, l5, oS, sW, d01, d02, d03, d04, d05, d12, d13, d14, d15, _⟩ := hB
  exact ⟨below_grown h.below hg (Nat.le_refl _) (fun k e => by cases e; omega), h.box.kept hg (by simp; omega), h.r0.kept hg (by simp; omega), h.r1.set hj v hf, h.r2.kept hg (by simp; omega), h.r3.kept hg (by simp; omega), h.r4.kept hg (by simp; omega), h.r5.kept hg (by simp; omega),
    h.mapS.kept hg (by simp; omega), h.mapW.kept hg (by simp; omega), World.ownsRow.kept h.o6 hg (h.away6 (by simp only; omega)), World.ownsRow.kept h.o7 hg (h.away7 (by simp only; omega)), h.sep⟩
theorem St.row2 (hB : BkOk w0.heap.size B) (h : St n w0 B w fs fp fv kS cS mS kW cW mW v6 x6 v7 x7) {j : Nat} (hj : j < n) (v : Int) {f' : Nat → Int} (hf : ∀ i, i < n → f' i = if i = j then v else fv i) :
    St n w0 B (w.setCell ⟨B.g2, j, none⟩ (.int .i32 v)) fs fp f' kS cS mS kW cW mW v6 x6 v7 x7 := by
  have hg := grownBy_set w ⟨B.g2, j, none⟩ (.int .i32 v)
  obtain ⟨n0, n1, n2, n3, n4, n5, l0, l1, l2, l3, l4, l5, oS, sW, d01, d02, d03, d04, d05, d12, d13, d14, d15, d23, d24, d25, _⟩ := hB
  exact ⟨below_grown h.below hg (Nat.le_refl _) (fun k e => by cases e; omega), h.box.kept hg (by simp; omega), h.r0.kept hg (by simp; omega), h.r1.kept hg (by simp; omega), h.r2.set hj v hf, h.r3.kept hg (by simp; omega), h.r4.kept hg (by simp; omega), h.r5.kept hg (by simp; omega),
    h.mapS.kept hg (by simp; omega), h.mapW.kept hg (by simp; omega), World.ownsRow.kept h.o6 hg (h.away6 (by simp only; omega)), World.ownsRow.kept h.o7 hg (h.away7 (by simp only; omega)), h.sep⟩
/-- A store into 'last'; into 'count'. -/
theorem St.set6 (hB : BkOk w0.heap.size B) {g m cap : Nat} (h : St n w0 B w fs fp fv kS cS mS kW cW mW (.slice (some ⟨g, 0, none⟩) m cap) x6 v7 x7) (hm : m = x6.length) (j : Nat) (x : Int) :
    St n w0 B (w.setCell ⟨g, j, none⟩ (.int .i32 x)) fs fp fv kS cS mS kW cW mW (.slice (some ⟨g, 0, none⟩) m cap) (x6.set j x) v7 x7 :=
  h.step6 hB (OwnI.set h.o6 hm j x).2 (OwnI.set h.o6 hm j x).1 (.inl rfl)
theorem St.set7 (hB : BkOk w0.heap.size B) {g m cap : Nat} (h : St n w0 B w fs fp fv kS cS mS kW cW mW v6 x6 (.slice (some ⟨g, 0, none⟩) m cap) x7) (hm : m = x7.length) (j : Nat) (x : Int) :
    St n w0 B (w.setCell ⟨g, j, none⟩ (.int .i32 x)) fs fp fv kS cS mS kW cW mW v6 x6 (.slice (some ⟨g, 0, none⟩) m cap) (x7.set j x) :=
  h.step7 hB (OwnI.set h.o7 hm j x).2 (OwnI.set h.o7 hm j x).1 (.inl rfl)
/-- What an append to 'last', to 'count' leaves. -/
theorem St.app6 (hB : BkOk w0.heap.size B) (h : St n w0 B w fs fp fv kS cS mS kW cW mW v6 x6 v7 x7) {g cap H : Nat} {y : Int} (hg : w.grownBy w' v6.ownBlock) (ho : w'.ownsRow (B.gW + 1) 21 1 (.slice (some ⟨g, 0, none⟩) (x6.length + 1) cap) (x6.length + 1) (x6.map (Value.int .i32) ++ [.int .i32 y])) (hat : v6.ownBlock = some g ∨ g = H) (hH : w.heap.size = H) :
    St n w0 B w' fs fp fv kS cS mS kW cW mW (.slice (some ⟨g, 0, none⟩) (x6.length + 1) cap) (x6 ++ [y]) v7 x7 :=
  h.step6 hB hg (OwnI.snoc ho) (hat.elim (fun e => .inl e.symm) (fun e => .inr ⟨g, rfl, by omega⟩))
theorem St.app7 (hB : BkOk w0.heap.size B) (h : St n w0 B w fs fp fv kS cS mS kW cW mW v6 x6 v7 x7) {g cap H : Nat} {y : Int} (hg : w.grownBy w' v7.ownBlock) (ho : w'.ownsRow (B.gW + 1) 21 1 (.slice (some ⟨g, 0, none⟩) (x7.length + 1) cap) (x7.length + 1) (x7.map (Value.int .i32) ++ [.int .i32 y])) (hat : v7.ownBlock = some g ∨ g = H) (hH : w.heap.size = H) :
    St n w0 B w' fs fp fv kS cS mS kW cW mW v6 x6 (.slice (some ⟨g, 0, none⟩) (x7.length + 1) cap) (x7 ++ [y]) :=
  h.step7 hB hg (OwnI.snoc ho) (hat.elim (fun e => .inl e.symm) (fun e => .inr ⟨g, rfl, by omega⟩))
end
end Go.Proofs.Qxb6603687a
