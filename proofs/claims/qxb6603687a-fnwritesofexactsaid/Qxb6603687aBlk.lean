/-
  Blocks of cells that a call itself has made: 'Blk w g e C': block g of the world w is a row of cells C (element type e), none of them frozen.
-/
import Derived.Test.Qxb6603687aOps
import Derived.WalkKit
import Derived.Deep.Draws
namespace Go.Proofs.Qxb6603687a
open Go.RowKit
set_option linter.unusedVariables false

def Blk (w : World) (g : Nat) (e : TypeId) (C : Array Value) : Prop := w.heap[g]? = some (.cells C e (0, 0))

section
variable {w w' : World} {g : Nat} {e : TypeId} {C : Array Value}
theorem Blk.lt (h : Blk w g e C) : g < w.heap.size := by
  apply Classical.byContradiction
  intro hge
  have : w.heap[g]? = none := by simp; omega
  rw [Blk, this] at h
  cases h
theorem Blk.cell (h : Blk w g e C) (j : Nat) : w.cell? ⟨g, j, none⟩ = C[j]? := cell_of_row w g j C e (0, 0) h
theorem Blk.cellIs (h : Blk w g e C) {j : Nat} {v : Value} (hv : C[j]? = some v) : w.cell? ⟨g, j, none⟩ = some v := (h.cell j).trans hv
theorem Blk.frozen (h : Blk w g e C) (j : Nat) : w.frozen? ⟨g, j, none⟩ = false := frozen_of_row w g j C e h
theorem Blk.set (h : Blk w g e C) (j : Nat) (v : Value) : Blk (w.setCell ⟨g, j, none⟩ v) g e (C.setIfInBounds j v) := heap_setCell_same w g j C e v h
theorem Blk.other (h : Blk w g e C) {a : Addr} (hne : g ≠ a.block) (v : Value) : Blk (w.setCell a v) g e C := (heap_setCell_other w a g v hne).trans h
theorem Blk.alloc (h : Blk w g e C) (o : Obj) : Blk (w.alloc o) g e C := (Below.heap_alloc w o g h.lt).trans h
theorem Blk.new (w : World) (e : TypeId) (C : Array Value) : Blk (w.alloc (.cells C e)) w.heap.size e C := by
  show (w.heap.push _)[w.heap.size]? = _
  simp
theorem Blk.drew (h : Blk w g e C) : Blk w.drew g e C := h
theorem Blk.drewN (h : Blk w g e C) (n : Nat) : Blk (w.drewN n) g e C := h
theorem Blk.below {B : Nat} (h : Blk w g e C) (hb : Below B w w') (hg : g < B) : Blk w' g e C := (hb.block g hg).trans h
theorem Blk.inj {e' : TypeId} {C' : Array Value} (h : Blk w g e C) (h' : Blk w g e' C') : e = e' ∧ C = C' := by
  have := h.symm.trans h'
  simp at this
  exact ⟨this.2, this.1⟩
theorem below_drewN {B : Nat} (h : Below B w w') (n : Nat) : Below B w (w'.drewN n) := ⟨h.os, h.tape, h.output, h.size, h.block⟩
end

theorem cell_alloc {w : World} {a : Addr} {v : Value} (h : w.cell? a = some v) (o : Obj) : (w.alloc o).cell? a = some v := by
  have hlt : a.block < w.heap.size := by
    apply Classical.byContradiction
    intro hge
    have : w.heap[a.block]? = none := by simp; omega
    simp [World.cell?, this] at h
  rw [← h]
  exact World.cell?_of_block (w := w) (Below.heap_alloc w o a.block hlt)
theorem OpsIn.lt {w : World} {b off : Nat} {H : Hist} (h : OpsIn w b off H) (hH : 0 < H.n) : b < w.heap.size := by
  have := h.c0 0 hH
  apply Classical.byContradiction
  intro hge
  have e : w.heap[b]? = none := by simp; omega
  simp [World.cell?, e] at this
theorem OpsIn.below {w w' : World} {b off : Nat} {H : Hist} (h : OpsIn w b off H) (hb : Below w.heap.size w w') : OpsIn w' b off H := by
  have hB : 0 < H.n → b < w.heap.size := h.lt
  exact ⟨fun k hk => (hb.cell (hB (by omega))).trans (h.c0 k hk), fun k hk => (hb.cell (hB (by omega))).trans (h.c1 k hk), fun k hk => (hb.cell (hB (by omega))).trans (h.c2 k hk), fun k hk => (hb.cell (hB (by omega))).trans (h.c3 k hk)⟩

/-- make([]T, n): the new block, cell by cell. -/
theorem run_mk {P : Program} (t e : TypeId) (z : Value) (size bytes : Nat) (ht : P.underlying t = some (.slice e)) (hinfo : (P.info? e).map (fun i => (i.zero, i.size, i.bytes)) = some (some z, size, bytes))
    (n : Nat) (hb : bytes * n ≤ 281474976710656) (h63 : n ≤ 9223372036854775807) (w : World) :
    (Instr.makeSlice t (.int .i64 (n : Int)) (.int .i64 (n : Int))).run P w = .ok (.slice (some ⟨w.heap.size, 0, none⟩) n n) (w.alloc (.cells (madeCells z.cells (n * size)) e)) := by
  obtain ⟨i, hi, hzz⟩ := Option.map_eq_some_iff.1 hinfo
  simp only [Prod.mk.injEq] at hzz
  obtain ⟨hz, hs, hb'⟩ := hzz
  have hbi : (i.bytes : Int) * (n : Int) ≤ 281474976710656 := by
    have : ((bytes * n : Nat) : Int) ≤ 281474976710656 := by omega
    rw [hb']
    rwa [Int.natCast_mul] at this
  have hr := run_make (P := P) w t e i z ht hi hz .i64 .i64 n n (by omega) (Int.le_refl _) hbi (by omega)
  simpa only [Int.toNat_natCast, hs] using hr

/-- n operations, all zero, cell by cell. -/
def zeros4 (n : Nat) : Array Value := madeCells #[.int .i64 0, .int .u8 0, .int .i64 0, .string ⟨#[]⟩] (n * 4)
theorem zeros4_size (n : Nat) : (zeros4 n).size = n * 4 := size_madeCells _ _
/-- n numbers, all zero. -/
def zeros (k : IntKind) (n : Nat) : Array Value := madeCells #[.int k 0] n
theorem zeros_size (k : IntKind) (n : Nat) : (zeros k n).size = n := size_madeCells _ _
theorem zeros_at (k : IntKind) (n j : Nat) (h : j < n) : (zeros k n)[j]? = some (.int k 0) := by
  have e := toList_madeCells_one (.int k 0) n
  rw [zeros, ← Array.getElem?_toList, e, List.getElem?_replicate, if_pos h]

/-- The first k operations of H lie in C, four cells each; C has room for all of H. -/
structure Holds4 (C : Array Value) (H : Hist) (k : Nat) : Prop where
  size : C.size = H.n * 4
  at_ : ∀ j, j < k → C[j * 4]? = some (.int .i64 (H.s j)) ∧ C[j * 4 + 1]? = some (.int .u8 (H.o j)) ∧ C[j * 4 + 2]? = some (.int .i64 (H.v j)) ∧ C[j * 4 + 3]? = some (.string (H.x j))
theorem Holds4.room {C : Array Value} {H : Hist} {k : Nat} (h : Holds4 C H k) (hk : k < H.n) : ∃ o0 o1 o2 o3, C[k * 4]? = some o0 ∧ C[k * 4 + 1]? = some o1 ∧ C[k * 4 + 2]? = some o2 ∧ C[k * 4 + 3]? = some o3 := by
  have := h.size
  exact ⟨C[k * 4], C[k * 4 + 1], C[k * 4 + 2], C[k * 4 + 3], by simp, by simp, by simp, by simp⟩
theorem Holds4.step {C : Array Value} {H : Hist} {k : Nat} (h : Holds4 C H k) (hk : k < H.n) :
    Holds4 ((((C.setIfInBounds (k * 4) (.int .i64 (H.s k))).setIfInBounds (k * 4 + 1) (.int .u8 (H.o k))).setIfInBounds (k * 4 + 2) (.int .i64 (H.v k))).setIfInBounds (k * 4 + 3) (.string (H.x k))) H (k + 1) := by
  have hs := h.size
  refine ⟨by simp [hs], fun j hlt => ?_⟩
  by_cases e : j = k
  · subst e
    refine ⟨?_, ?_, ?_, ?_⟩ <;> simp [Array.getElem?_setIfInBounds] <;> omega
  · obtain ⟨a, b, c, d⟩ := h.at_ j (by omega)
    simp only [Array.getElem?_setIfInBounds]
    refine ⟨?_, ?_, ?_, ?_⟩ <;> (repeat rw [if_neg (by omega)]) <;> assumption
theorem Holds4.full {C : Array Value} {H : Hist} {k : Nat} (h : Holds4 C H k) (hk : H.n ≤ k) : Holds4 C H H.n := ⟨h.size, fun j hj => h.at_ j (by omega)⟩
theorem Holds4.opsIn {C : Array Value} {H : Hist} {w : World} {g : Nat} {t : TypeId} (h : Holds4 C H H.n) (hg : Blk w g t C) : OpsIn w g 0 H := by
  refine ⟨fun k hk => ?_, fun k hk => ?_, fun k hk => ?_, fun k hk => ?_⟩ <;> rw [hg.cell] <;> simp only [Nat.zero_add]
  · exact (h.at_ k hk).1
  · exact (h.at_ k hk).2.1
  · exact (h.at_ k hk).2.2.1
  · exact (h.at_ k hk).2.2.2
theorem holds4_start (H : Hist) : Holds4 (zeros4 H.n) H 0 := ⟨zeros4_size _, fun j h => by omega⟩

/-- What a copy leaves: nil for nil; else a new block (of element type t) that holds the history; all that was there stands. -/
def Copied (t : TypeId) (w : World) (H : Hist) (e : Ending) (w' : World) : Prop :=
  Below w.heap.size w w' ∧ ((H.n = 0 ∧ e = .returned (.slice none 0 0)) ∨ (e = .returned (.slice (some ⟨w.heap.size, 0, none⟩) H.n H.n) ∧ ∃ C, Blk w' w.heap.size t C ∧ Holds4 C H H.n))
theorem copied_nil (t : TypeId) (w : World) {H : Hist} {e : Ending} (h0 : H.n = 0) (he : e = .returned (.slice none 0 0)) : Copied t w H e w := ⟨Below.refl _ _, .inl ⟨h0, he⟩⟩
theorem copied_none (t : TypeId) (w : World) {H : Hist} {e : Ending} (h0 : H.n = 0) (he : e = .returned (.slice (some ⟨w.heap.size, 0, none⟩) 0 0)) : Copied t w H e (w.alloc (.cells (zeros4 0) t)) :=
  ⟨(Below.refl _ _).alloc (Nat.le_refl _) _, .inr ⟨by rw [h0]; exact he, _, Blk.new w t _, ⟨by rw [h0]; exact zeros4_size _, fun j hj => by omega⟩⟩⟩
theorem copied_row {t : TypeId} {w w' : World} {H : Hist} {C : Array Value} {e : Ending} (he : e = .returned (.slice (some ⟨w.heap.size, 0, none⟩) H.n H.n)) (hb : Below w.heap.size w w') (hg : Blk w' w.heap.size t C) (hC : Holds4 C H H.n) : Copied t w H e w' :=
  ⟨hb, .inr ⟨he, C, hg, hC⟩⟩
end Go.Proofs.Qxb6603687a
