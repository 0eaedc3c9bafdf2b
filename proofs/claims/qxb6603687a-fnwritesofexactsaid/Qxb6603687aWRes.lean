/-
  What writesOf leaves, read cell by cell.
-/
import Derived.Test.Qxb6603687aWWalk
namespace Go.Proofs.Qxb6603687a
open Go.RowKit Go.Maps
set_option linter.unusedVariables false

theorem IsOps.grow {w w' : World} {ad : Option Addr} {cap : Nat} {H : Hist} (h : IsOps w (.slice ad H.n cap) H) (hb : Below w.heap.size w w') : IsOps w' (.slice ad H.n cap) H := by
  rcases h with h | ⟨b, off, c, e, h⟩
  · exact .inl h
  · exact .inr ⟨b, off, c, e, h.below hb⟩

/-- The answer: map gM of rows of groups, row N of ranks; all its blocks from B on. -/
structure WRes (H : Hist) (st : Nat → Int) (B gM N : Nat) (GV : Int → Value) (RV : Nat → Value) (w : World) : Prop where
  lm : B ≤ gM
  ln : B ≤ N
  map : MapFn w Try.prog 3 gM H.n (nv H st H.n) (wMap (fun x => grpL H st x H.n) GV)
  rank : RowFn w N 21 .i32 H.n (fun j => (rk H st j : Int))
  row : ∀ x, grpL H st x H.n ≠ [] → ∃ gx cx, GV x = .slice (some ⟨gx, 0, none⟩) (grpL H st x H.n).length cx ∧ B ≤ gx ∧ gx < w.heap.size ∧ ∀ j g, (grpL H st x H.n)[j]? = some g → w.cell? ⟨gx, j * 4, none⟩ = some (.int .i32 (st g)) ∧ w.cell? ⟨gx, j * 4 + 1, none⟩ = some (RV g) ∧ w.cell? ⟨gx, j * 4 + 2, none⟩ = some (.slice none 0 0) ∧ w.cell? ⟨gx, j * 4 + 3, none⟩ = some (.int .i64 0)
  ops : ∀ g, opsL H st g H.n ≠ [] → ∃ go co, RV g = .slice (some ⟨go, 0, none⟩) (opsL H st g H.n).length co ∧ B ≤ go ∧ go < w.heap.size ∧ ∀ (c j : Nat), (opsL H st g H.n)[c]? = some j → w.cell? ⟨go, c, none⟩ = some (.int .i32 (j : Int))

section
variable {H : Hist} {st : Nat → Int} {B gM N : Nat} {GV : Int → Value} {RV : Nat → Value} {w w' : World}
theorem WRes.move (h : WRes H st B gM N GV RV w) (hs : w.heap.size ≤ w'.heap.size) (hb : ∀ b, B ≤ b → b < w.heap.size → w'.heap[b]? = w.heap[b]?) : WRes H st B gM N GV RV w' := by
  refine ⟨h.lm, h.ln, h.map.of_block (hb gM h.lm h.map.lt), ?_, fun x hx => ?_, fun g hg => ?_⟩
  · have hlt := h.rank.lt
    obtain ⟨C, hC, r⟩ := h.rank
    exact ⟨C, (hb N h.ln hlt).trans hC, r⟩
  · obtain ⟨gx, cx, e, h1, h2, h3⟩ := h.row x hx
    refine ⟨gx, cx, e, h1, by omega, fun j g hj => ?_⟩
    have hk : ∀ o, w'.cell? ⟨gx, o, none⟩ = w.cell? ⟨gx, o, none⟩ := fun o => World.cell?_of_block (hb gx h1 h2)
    rw [hk, hk, hk, hk]
    exact h3 j g hj
  · obtain ⟨go, co, e, h1, h2, h3⟩ := h.ops g hg
    refine ⟨go, co, e, h1, by omega, fun c j hj => ?_⟩
    have hk : ∀ o, w'.cell? ⟨go, o, none⟩ = w.cell? ⟨go, o, none⟩ := fun o => World.cell?_of_block (hb go h1 h2)
    rw [hk]
    exact h3 c j hj
theorem WRes.below (h : WRes H st B gM N GV RV w) (hb : Below w.heap.size w w') : WRes H st B gM N GV RV w' := h.move hb.size (fun b _ hl => hb.block b hl)
theorem WRes.grown (h : WRes H st B gM N GV RV w) {row : Option Nat} (hg : w.grownBy w' row) (hr : ∀ b, row = some b → b < B) : WRes H st B gM N GV RV w' := h.move hg.size (fun b h1 h2 => hg.block b h2 (fun e => by have := hr b e.symm; omega))
theorem WRes.lower (h : WRes H st B gM N GV RV w) {B' : Nat} (hB : B' ≤ B) : WRes H st B' gM N GV RV w := by
  have h1 := h.lm
  have h2 := h.ln
  refine ⟨by omega, by omega, h.map, h.rank, fun x hx => ?_, fun g hg => ?_⟩
  · obtain ⟨gx, cx, e, h1, r⟩ := h.row x hx
    exact ⟨gx, cx, e, by omega, r⟩
  · obtain ⟨go, co, e, h1, r⟩ := h.ops g hg
    exact ⟨go, co, e, by omega, r⟩
end
theorem wres_of {H : Hist} {st : Nat → Int} {w0 : World} {base N gM gS : Nat} {w : World} (hB : WBk w0 base N gM gS) (h : WHead H st w0 base N gM gS H.n w) : Below w0.heap.size w0 w ∧ ∃ GV RV, WRes H st w0.heap.size gM N GV RV w := by
  obtain ⟨GV, RV, T, h⟩ := h
  have hb := hB.mb
  have h0 := hB.m
  refine ⟨h.below, GV, RV, hB.m, hB.n, h.mapM, h.rank.congr (fun j hj => by unfold rkUp; rw [if_pos hj]), fun x hx => ?_, fun g hg => ?_⟩
  · have hrow := h.row x
    have hlen : 0 < (grpL H st x H.n).length := List.length_pos_iff.2 hx
    obtain ⟨gx, cx, e, h1, h2⟩ := World.ownsRow.form hrow hlen
    refine ⟨gx, cx, e, by omega, h2, fun j g hj => ?_⟩
    obtain ⟨a0, a1, a2, a3⟩ := rowC_at st RV _ hj
    have hjl := (List.getElem?_eq_some_iff.1 hj).1
    rw [e] at hrow
    exact ⟨(World.ownsRow.cellAt hrow (j * 4) (by omega)).trans a0, (World.ownsRow.cellAt hrow (j * 4 + 1) (by omega)).trans a1, (World.ownsRow.cellAt hrow (j * 4 + 2) (by omega)).trans a2, (World.ownsRow.cellAt hrow (j * 4 + 3) (by omega)).trans a3⟩
  · have hops := h.ops g
    have hlen : 0 < (opsL H st g H.n).length := List.length_pos_iff.2 hg
    obtain ⟨go, co, e, h1, h2⟩ := World.ownsRow.form hops hlen
    refine ⟨go, co, e, by omega, h2, fun c j hj => ?_⟩
    have hcl := (List.getElem?_eq_some_iff.1 hj).1
    rw [e] at hops
    rw [World.ownsRow.cellAt hops c (by omega), List.getElem?_map, hj]
    rfl

/-! ### rows of values -/
def RowV (w : World) (g : Nat) (e : TypeId) (n : Nat) (f : Nat → Value) : Prop := ∃ C, Blk w g e C ∧ C.size = n ∧ ∀ j, j < n → C[j]? = some (f j)
section
variable {w w' : World} {g : Nat} {e : TypeId} {n : Nat} {f : Nat → Value}
theorem RowV.lt (h : RowV w g e n f) : g < w.heap.size := let ⟨_, h, _⟩ := h; h.lt
theorem RowV.cell (h : RowV w g e n f) {j : Nat} (hj : j < n) : w.cell? ⟨g, j, none⟩ = some (f j) := by
  obtain ⟨C, hb, _, hf⟩ := h
  rw [hb.cell, hf j hj]
theorem RowV.frozen (h : RowV w g e n f) (j : Nat) : w.frozen? ⟨g, j, none⟩ = false := let ⟨_, h, _⟩ := h; h.frozen j
theorem RowV.below {B : Nat} (h : RowV w g e n f) (hb : Below B w w') (hlt : g < B) : RowV w' g e n f := let ⟨C, h, r⟩ := h; ⟨C, h.below hb hlt, r⟩
theorem RowV.alloc (h : RowV w g e n f) (o : Obj) : RowV (w.alloc o) g e n f := let ⟨C, h, r⟩ := h; ⟨C, h.alloc o, r⟩
theorem RowV.other (h : RowV w g e n f) {a : Addr} (hne : g ≠ a.block) (v : Value) : RowV (w.setCell a v) g e n f := let ⟨C, h, r⟩ := h; ⟨C, h.other hne v, r⟩
theorem RowV.congr {f' : Nat → Value} (h : RowV w g e n f) (hf : ∀ j, j < n → f' j = f j) : RowV w g e n f' := by
  obtain ⟨C, hb, hs, h⟩ := h
  exact ⟨C, hb, hs, fun j hj => by rw [hf j hj]; exact h j hj⟩
theorem RowV.set {f' : Nat → Value} (h : RowV w g e n f) {j : Nat} (hj : j < n) (v : Value) (hf : ∀ i, i < n → f' i = if i = j then v else f i) : RowV (w.setCell ⟨g, j, none⟩ v) g e n f' := by
  obtain ⟨C, hb, hs, h⟩ := h
  refine ⟨_, hb.set j _, by simp [hs], fun i hi => ?_⟩
  rw [hf i hi]
  by_cases e : i = j
  · subst e
    rw [Array.getElem?_setIfInBounds_self_of_lt (by omega), if_pos rfl]
  · rw [Array.getElem?_setIfInBounds_ne (fun x => e x.symm), if_neg e]
    exact h i hi
end
def nils (n : Nat) : Array Value := madeCells #[.slice none 0 0] n
def upV (f : Nat → Value) (k j : Nat) : Value := if j < k then f j else .slice none 0 0
theorem upV_next (f : Nat → Value) (k i : Nat) : upV f (k + 1) i = if i = k then f k else upV f k i := by
  unfold upV
  by_cases e : i = k
  · subst e; rw [if_pos (by omega), if_pos rfl]
  · rw [if_neg e]
    by_cases h1 : i < k
    · rw [if_pos (by omega), if_pos h1]
    · rw [if_neg (by omega), if_neg h1]
theorem upV_all (f : Nat → Value) {n k j : Nat} (hk : n ≤ k) (hj : j < n) : f j = upV f k j := by unfold upV; rw [if_pos (by omega)]
theorem rowV_new0 (w : World) (e : TypeId) (n : Nat) (f : Nat → Value) : RowV (w.alloc (.cells (nils n) e)) w.heap.size e n (upV f 0) := by
  refine ⟨nils n, Blk.new w e _, size_madeCells _ _, fun j hj => ?_⟩
  have e := toList_madeCells_one (.slice none 0 0) n
  rw [nils, ← Array.getElem?_toList, e, List.getElem?_replicate, if_pos hj]
  rfl
theorem info23w : (Try.prog.info? 23).map (fun i => (i.zero, i.size, i.bytes)) = some (some (.slice none 0 0), 1, 24) := by kernel_rfl
theorem run_mkV (n : Nat) (hn : n ≤ 1048576) (w : World) : (Instr.makeSlice 38 (.int .i64 (n : Int)) (.int .i64 (n : Int))).run Try.prog w = .ok (.slice (some ⟨w.heap.size, 0, none⟩) n n) (w.alloc (.cells (nils n) 23)) := by
  have := run_mk (P := Try.prog) 38 23 _ 1 24 Try.underlying38 info23w n (by omega) (by omega) w
  rw [Nat.mul_one] at this
  exact this
end Go.Proofs.Qxb6603687a
