/-
  Rows of numbers as functions: 'RowFn w g e kd n f': block g holds the n numbers f 0 .. f (n-1) of kind kd.
-/
import Derived.Test.Qxb6603687aMaps
import Derived.Deep.AppendLies
namespace Go.Proofs.Qxb6603687a
open Go.RowKit Go.Maps
set_option linter.unusedVariables false

def RowFn (w : World) (g : Nat) (e : TypeId) (kd : IntKind) (n : Nat) (f : Nat → Int) : Prop :=
  ∃ C, Blk w g e C ∧ C.size = n ∧ ∀ j, j < n → C[j]? = some (.int kd (f j))

theorem Blk.kept {w w' : World} {g : Nat} {e : TypeId} {C : Array Value} {row : Option Nat} (h : Blk w g e C) (hg : w.grownBy w' row) (hne : some g ≠ row) : Blk w' g e C := (hg.block g h.lt hne).trans h
theorem grownBy_drew (w : World) : w.grownBy w.drew none := ⟨rfl, rfl, rfl, Nat.le_refl _, fun _ _ _ => rfl⟩
theorem grownBy_drewN (w : World) (m : Nat) : w.grownBy (w.drewN m) none := ⟨rfl, rfl, rfl, Nat.le_refl _, fun _ _ _ => rfl⟩
theorem grownBy_set (w : World) (a : Addr) (v : Value) : w.grownBy (w.setCell a v) (some a.block) := ⟨rfl, rfl, rfl, by simp [World.setCell], fun k _ hk => heap_setCell_other w a k v (fun e => hk (by rw [e]))⟩
theorem below_grown {B : Nat} {a w w' : World} {row : Option Nat} (h : Below B a w) (hg : w.grownBy w' row) (hB : B ≤ a.heap.size) (hr : ∀ k, row = some k → B ≤ k) : Below B a w' := h.grown hg (Nat.le_trans hB h.size) hr

section
variable {w w' : World} {g : Nat} {e : TypeId} {kd : IntKind} {n : Nat} {f : Nat → Int}
theorem RowFn.lt (h : RowFn w g e kd n f) : g < w.heap.size := let ⟨_, h, _⟩ := h; h.lt
theorem RowFn.cell (h : RowFn w g e kd n f) {j : Nat} (hj : j < n) : w.cell? ⟨g, j, none⟩ = some (.int kd (f j)) := by
  obtain ⟨C, hb, _, hf⟩ := h
  rw [hb.cell, hf j hj]
theorem RowFn.frozen (h : RowFn w g e kd n f) (j : Nat) : w.frozen? ⟨g, j, none⟩ = false := let ⟨_, h, _⟩ := h; h.frozen j
theorem RowFn.kept {row : Option Nat} (h : RowFn w g e kd n f) (hg : w.grownBy w' row) (hne : some g ≠ row) : RowFn w' g e kd n f := let ⟨C, h, r⟩ := h; ⟨C, h.kept hg hne, r⟩
theorem RowFn.below {B : Nat} (h : RowFn w g e kd n f) (hb : Below B w w') (hlt : g < B) : RowFn w' g e kd n f := let ⟨C, h, r⟩ := h; ⟨C, h.below hb hlt, r⟩
theorem RowFn.congr {f' : Nat → Int} (h : RowFn w g e kd n f) (hf : ∀ j, j < n → f' j = f j) : RowFn w g e kd n f' := by
  obtain ⟨C, hb, hs, h⟩ := h
  exact ⟨C, hb, hs, fun j hj => by rw [hf j hj]; exact h j hj⟩
theorem RowFn.set {f' : Nat → Int} (h : RowFn w g e kd n f) {j : Nat} (hj : j < n) (v : Int) (hf : ∀ i, i < n → f' i = if i = j then v else f i) : RowFn (w.setCell ⟨g, j, none⟩ (.int kd v)) g e kd n f' := by
  obtain ⟨C, hb, hs, h⟩ := h
  refine ⟨_, hb.set j _, by simp [hs], fun i hi => ?_⟩
  rw [hf i hi]
  by_cases e : i = j
  · subst e
    rw [Array.getElem?_setIfInBounds_self_of_lt (by omega), if_pos rfl]
  · rw [Array.getElem?_setIfInBounds_ne (fun x => e x.symm), if_neg e]
    exact h i hi
theorem rowFn_zeros (h : Blk w g e (zeros kd n)) : RowFn w g e kd n (fun _ => 0) := ⟨_, h, zeros_size _ _, fun j hj => zeros_at _ _ _ hj⟩
end

/-! ### a slice of numbers that the call itself appends to -/
def OwnI (w : World) (base : Nat) (v : Value) (xs : List Int) : Prop := w.ownsRow base 21 1 v xs.length (xs.map (Value.int .i32))
theorem OwnI.form {w : World} {base : Nat} {v : Value} {xs : List Int} (h : OwnI w base v xs) (hn : 0 < xs.length) : ∃ g cap, v = .slice (some ⟨g, 0, none⟩) xs.length cap ∧ base ≤ g ∧ g < w.heap.size := World.ownsRow.form h hn
theorem OwnI.cell {w : World} {base g n cap : Nat} {xs : List Int} (h : OwnI w base (.slice (some ⟨g, 0, none⟩) n cap) xs) (hn : n = xs.length) {j : Nat} {x : Int} (hx : xs[j]? = some x) : w.cell? ⟨g, j, none⟩ = some (.int .i32 x) := by
  subst hn
  have hj : j < xs.length := (List.getElem?_eq_some_iff.1 hx).1
  rw [World.ownsRow.cellAt h j (by omega), List.getElem?_map, hx]
  rfl
theorem OwnI.frozen {w : World} {base g n cap : Nat} {xs : List Int} (h : OwnI w base (.slice (some ⟨g, 0, none⟩) n cap) xs) (hn : n = xs.length) (j : Nat) : w.frozen? ⟨g, j, none⟩ = false := by
  subst hn
  exact World.ownsRow.frozenAt h j
theorem OwnI.set {w : World} {base g n cap : Nat} {xs : List Int} (h : OwnI w base (.slice (some ⟨g, 0, none⟩) n cap) xs) (hn : n = xs.length) (j : Nat) (x : Int) :
    OwnI (w.setCell ⟨g, j, none⟩ (.int .i32 x)) base (.slice (some ⟨g, 0, none⟩) n cap) (xs.set j x) ∧ w.grownBy (w.setCell ⟨g, j, none⟩ (.int .i32 x)) (some g) := by
  subst hn
  have := World.ownsRow.stored h j (.int .i32 x)
  refine ⟨?_, this.2⟩
  unfold OwnI
  rw [List.length_set, List.map_set]
  exact this.1
theorem OwnI.snoc {w : World} {base : Nat} {v : Value} {xs : List Int} {x : Int} (h : w.ownsRow base 21 1 v (xs.length + 1) (xs.map (Value.int .i32) ++ [.int .i32 x])) : OwnI w base v (xs ++ [x]) := by
  unfold OwnI
  rw [List.length_append, List.map_append]
  exact h
end Go.Proofs.Qxb6603687a
