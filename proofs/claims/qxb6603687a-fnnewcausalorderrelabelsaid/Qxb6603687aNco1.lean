/-
  newCausalOrder (31): the state ahead of its first loop, at each round's head.
-/
import Derived.Test.Qxb6603687aSix
import Derived.Test.Qxb6603687aSt
import Derived.Test.Qxb6603687aNcoPlain
namespace Go.Proofs.Qxb6603687a
open Go.RowKit Go.Maps
set_option linter.unusedVariables false

/-- The values, as lists of bytes. -/
def ys (H : Hist) (j : Nat) : List UInt8 := (H.x j).data.toList
def fS (H : Hist) (k j : Nat) : Int := if j < k then (sn H.s j : Int) else 0
def fP (H : Hist) (k j : Nat) : Int := if j < k then (cnt H.s (H.s j) (j + 1) : Int) else 0
def fV (H : Hist) (k j : Nat) : Int := if j < k then lastB H.s (H.s j) j else 0
/-- At the head of round k. -/
def Head1 (H : Hist) (w0 : World) (B : Bk) (k : Nat) (v6 : Value) (x6 : List Int) (v7 : Value) (x7 : List Int) (w : World) : Prop :=
  ∃ cW, St H.n w0 B w (fS H k) (fP H k) (fV H k) k (nb H.s k) (siteMap H.s k) k cW (writeMap H.o (ys H) k) v6 x6 v7 x7 ∧ Tabs H.s k k x6 x7

theorem head1_start {H : Hist} {w w1 : World} {g0 g1 g2 g3 g4 g5 gO : Nat} (h : SixRows H.n w (fun m => match m with | 0 => g0 | 1 => g1 | 2 => g2 | 3 => g3 | 4 => g4 | _ => g5) gO w1) :
    BkOk w.heap.size ⟨g0, g1, g2, g3, g4, g5, gO, w1.heap.size, w1.heap.size + 1⟩ ∧ Head1 H w ⟨g0, g1, g2, g3, g4, g5, gO, w1.heap.size, w1.heap.size + 1⟩ 0 (.slice none 0 0) [] (.slice none 0 0) [] ((w1.alloc (.map #[] 0)).alloc (.map #[] 0)) := by
  have r0 := h.row 0 (by omega)
  have r1 := h.row 1 (by omega)
  have r2 := h.row 2 (by omega)
  have r3 := h.row 3 (by omega)
  have r4 := h.row 4 (by omega)
  have r5 := h.row 5 (by omega)
  have hb := h.box
  have hlt := hb.lt
  refine ⟨⟨r0.1, r1.1, r2.1, r3.1, r4.1, r5.1, h.lt 0 (by omega), h.lt 1 (by omega), h.lt 2 (by omega), h.lt 3 (by omega), h.lt 4 (by omega), h.lt 5 (by omega), hlt, Nat.lt_succ_self _,
    h.ne 0 1 (by omega) (by omega) (by omega), h.ne 0 2 (by omega) (by omega) (by omega), h.ne 0 3 (by omega) (by omega) (by omega), h.ne 0 4 (by omega) (by omega) (by omega), h.ne 0 5 (by omega) (by omega) (by omega),
    h.ne 1 2 (by omega) (by omega) (by omega), h.ne 1 3 (by omega) (by omega) (by omega), h.ne 1 4 (by omega) (by omega) (by omega), h.ne 1 5 (by omega) (by omega) (by omega),
    h.ne 2 3 (by omega) (by omega) (by omega), h.ne 2 4 (by omega) (by omega) (by omega), h.ne 2 5 (by omega) (by omega) (by omega),
    h.ne 3 4 (by omega) (by omega) (by omega), h.ne 3 5 (by omega) (by omega) (by omega), h.ne 4 5 (by omega) (by omega) (by omega)⟩, 0, ?_, tabs_start _⟩
  have z : ∀ {g : Nat} {f : Nat → Int}, Blk w1 g 21 (zeros .i32 H.n) → (∀ j, j < H.n → f j = 0) → RowFn ((w1.alloc (.map #[] 0)).alloc (.map #[] 0)) g 21 .i32 H.n f := fun h0 hf => (rowFn_zeros ((h0.alloc _).alloc _)).congr hf
  refine ⟨(h.below.alloc h.below.size _).alloc (by have := h.below.size; simp; omega) _, (hb.alloc _).alloc _, z r0.2 (fun j _ => rfl), z r1.2 (fun j _ => rfl), z r2.2 (fun j _ => rfl), z r3.2 (fun j _ => rfl), z r4.2 (fun j _ => rfl), z r5.2 (fun j _ => rfl), ?_, ?_, World.ownsRow_nil _ _ _ _, World.ownsRow_nil _ _ _ _, fun g e => by simp [Value.ownBlock] at e⟩
  · exact ((mapFn_made w1 Try.prog 3).alloc _).congr rfl (siteMap_start H.s)
  · have := (mapFn_made (w1.alloc (.map #[] 0)) Try.prog 9).congr rfl (writeMap_start H.o (ys H))
    have e : (w1.alloc (.map #[] 0)).heap.size = w1.heap.size + 1 := by simp
    rw [e] at this
    exact this
/-! ### the middle of a round: the site's number t is known, count[t] has been raised -/
def opCells (H : Hist) (k : Nat) : Array Value := #[.int .i64 (H.s k), .int .u8 (H.o k), .int .i64 (H.v k), .string (H.x k)]
structure Mid (H : Hist) (w0 : World) (B : Bk) (k t g6 m6 d6 g7 m7 d7 gp cW : Nat) (y6 y7 : List Int) (w : World) : Prop where
  st : St H.n w0 B w (fS H k) (fP H k) (fV H k) (k + 1) (nb H.s (k + 1)) (siteMap H.s (k + 1)) k cW (writeMap H.o (ys H) k) (.slice (some ⟨g6, 0, none⟩) m6 d6) y6 (.slice (some ⟨g7, 0, none⟩) m7 d7) (y7.set t ((cnt H.s (H.s k) k : Int) + 1))
  tab : Tabs H.s (k + 1) k y6 y7
  ht : t = sn H.s k
  l6 : m6 = y6.length
  l7 : m7 = y7.length
  op : Blk w gp 69 (opCells H k)
  n6 : g6 ≠ gp
  n7 : g7 ≠ gp
  np : B.gW < gp
section
variable {H : Hist} {w0 : World} {B : Bk} {k t g6 m6 d6 g7 m7 d7 gp cW : Nat} {y6 y7 : List Int} {w : World}
theorem Mid.lt6 (h : Mid H w0 B k t g6 m6 d6 g7 m7 d7 gp cW y6 y7 w) : t < m6 := by
  have := sn_lt H.s (j := k) (k := k + 1) (by omega)
  rw [h.l6, h.tab.l6, h.ht]; exact this
theorem Mid.lt7 (h : Mid H w0 B k t g6 m6 d6 g7 m7 d7 gp cW y6 y7 w) : t < m7 := by
  have := sn_lt H.s (j := k) (k := k + 1) (by omega)
  rw [h.l7, h.tab.l7, h.ht]; exact this
theorem Mid.p6 (h : Mid H w0 B k t g6 m6 d6 g7 m7 d7 gp cW y6 y7 w) : w.cell? ⟨g6, t, none⟩ = some (.int .i32 (lastB H.s (H.s k) k)) :=
  OwnI.cell h.st.o6 h.l6 (by rw [h.ht]; exact h.tab.a6 k (by omega))
theorem Mid.p7 (h : Mid H w0 B k t g6 m6 d6 g7 m7 d7 gp cW y6 y7 w) : w.cell? ⟨g7, t, none⟩ = some (.int .i32 ((cnt H.s (H.s k) k : Int) + 1)) := by
  have := h.lt7
  exact OwnI.cell h.st.o7 (by rw [List.length_set]; exact h.l7) (List.getElem?_set_self (by rw [← h.l7]; exact this))
theorem Mid.apart (h : Mid H w0 B k t g6 m6 d6 g7 m7 d7 gp cW y6 y7 w) : g6 ≠ g7 := fun e => h.st.sep g6 rfl (by rw [e]; rfl)
theorem Mid.up6 (h : Mid H w0 B k t g6 m6 d6 g7 m7 d7 gp cW y6 y7 w) : B.gW < g6 := (World.ownsRow.lt h.st.o6 g6 rfl).1
theorem Mid.up7 (h : Mid H w0 B k t g6 m6 d6 g7 m7 d7 gp cW y6 y7 w) : B.gW < g7 := (World.ownsRow.lt h.st.o7 g7 rfl).1

theorem fS_next (H : Hist) (k i : Nat) (h : i < H.n) : fS H (k + 1) i = if i = k then (sn H.s k : Int) else fS H k i := by
  unfold fS
  by_cases e : i = k
  · subst e; rw [if_pos (by omega), if_pos rfl]
  · rw [if_neg e]
    by_cases h1 : i < k
    · rw [if_pos (by omega), if_pos h1]
    · rw [if_neg (by omega), if_neg h1]
theorem fP_next (H : Hist) (k i : Nat) (h : i < H.n) : fP H (k + 1) i = if i = k then (cnt H.s (H.s k) k : Int) + 1 else fP H k i := by
  unfold fP
  by_cases e : i = k
  · subst e; rw [if_pos (by omega), if_pos rfl, cnt_succ_same]; simp
  · rw [if_neg e]
    by_cases h1 : i < k
    · rw [if_pos (by omega), if_pos h1]
    · rw [if_neg (by omega), if_neg h1]
theorem fV_next (H : Hist) (k i : Nat) (h : i < H.n) : fV H (k + 1) i = if i = k then lastB H.s (H.s k) k else fV H k i := by
  unfold fV
  by_cases e : i = k
  · subst e; rw [if_pos (by omega), if_pos rfl]
  · rw [if_neg e]
    by_cases h1 : i < k
    · rw [if_pos (by omega), if_pos h1]
    · rw [if_neg (by omega), if_neg h1]

/-- Behind the three stores into the rows, and the store into last. -/
structure Late (H : Hist) (w0 : World) (B : Bk) (k t g6 m6 d6 g7 m7 d7 gp cW : Nat) (y6 y7 : List Int) (w : World) : Prop where
  st : St H.n w0 B w (fS H (k + 1)) (fP H (k + 1)) (fV H (k + 1)) (k + 1) (nb H.s (k + 1)) (siteMap H.s (k + 1)) k cW (writeMap H.o (ys H) k) (.slice (some ⟨g6, 0, none⟩) m6 d6) y6 (.slice (some ⟨g7, 0, none⟩) m7 d7) y7
  tab : Tabs H.s (k + 1) (k + 1) y6 y7
  l6 : m6 = y6.length
  l7 : m7 = y7.length
  op : Blk w gp 69 (opCells H k)
theorem Mid.late (hB : BkOk w0.heap.size B) (hk : k < H.n) (h : Mid H w0 B k t g6 m6 d6 g7 m7 d7 gp cW y6 y7 w) :
    Late H w0 B k t g6 m6 d6 g7 m7 d7 gp cW (y6.set t (k : Int)) (y7.set t ((cnt H.s (H.s k) k : Int) + 1))
      (((((w.setCell ⟨B.g0, k, none⟩ (.int .i32 (t : Int))).setCell ⟨B.g1, k, none⟩ (.int .i32 ((cnt H.s (H.s k) k : Int) + 1))).setCell ⟨B.g2, k, none⟩ (.int .i32 (lastB H.s (H.s k) k))).drew).setCell ⟨g6, t, none⟩ (.int .i32 (k : Int))) := by
  have h1 := (((h.st.row0 hB hk (t : Int) (f' := fS H (k + 1)) (fun i hi => by rw [fS_next H k i hi, h.ht])).row1 hB hk ((cnt H.s (H.s k) k : Int) + 1) (f' := fP H (k + 1)) (fun i hi => fP_next H k i hi)).row2 hB hk (lastB H.s (H.s k) k) (f' := fV H (k + 1)) (fun i hi => fV_next H k i hi)).grow (grownBy_drew _)
  have h2 := h1.set6 hB h.l6 t (k : Int)
  have ht := h.tab.next
  rw [← h.ht] at ht
  have up6 := h.up6
  have np := h.np
  have n6 := h.n6
  obtain ⟨n0, n1, n2, n3, n4, n5, l0, l1, l2, l3, l4, l5, oS, sW, _⟩ := hB
  refine ⟨h2, ht, by rw [List.length_set]; exact h.l6, by rw [List.length_set]; exact h.l7, ?_⟩
  exact ((((h.op.other (by simp only; omega) _).other (by simp only; omega) _).other (by simp only; omega) _).drew).other (by simp only; omega) _
/-- The round's end, where the operation is no write; where it is one. -/
theorem Late.read (h : Late H w0 B k t g6 m6 d6 g7 m7 d7 gp cW y6 y7 w) (ho : H.o k ≠ 119) : Head1 H w0 B (k + 1) (.slice (some ⟨g6, 0, none⟩) y6.length d6) y6 (.slice (some ⟨g7, 0, none⟩) y7.length d7) y7 w := by
  have hs := h.st
  rw [h.l6, h.l7] at hs
  exact ⟨cW, { hs with mapW := (hs.mapW.mono (Nat.le_succ _)).congr rfl (writeMap_old H.o (ys H) k ho) }, h.tab⟩
theorem Late.write (hB : BkOk w0.heap.size B) {w' : World} (h : Late H w0 B k t g6 m6 d6 g7 m7 d7 gp cW y6 y7 w) (ho : H.o k = 119) {c : Nat} (hm : MapFn w' Try.prog 9 B.gW (k + 1) c (upd (writeMap H.o (ys H) k) (.string (ys H k)) (.int .i32 (k : Int)))) (hg : w.grownBy w' (some B.gW)) :
    Head1 H w0 B (k + 1) (.slice (some ⟨g6, 0, none⟩) y6.length d6) y6 (.slice (some ⟨g7, 0, none⟩) y7.length d7) y7 w' := by
  have hs := h.st.stepW hB hg (hm.congr rfl (writeMap_new H.o (ys H) k ho))
  rw [h.l6, h.l7] at hs
  exact ⟨c, hs, h.tab⟩
theorem mid_new (hB : BkOk w0.heap.size B) (hm : cnt H.s (H.s k) k = 0) {x6 x7 : List Int} (htab : Tabs H.s k k x6 x7)
    (hst : St H.n w0 B w (fS H k) (fP H k) (fV H k) (k + 1) (if (siteMap H.s k (.int .i64 (H.s k))).isSome then nb H.s k else nb H.s k + 1) (upd (siteMap H.s k) (.int .i64 (H.s k)) (.int .i32 (x6.length : Int))) k cW (writeMap H.o (ys H) k) (.slice (some ⟨g6, 0, none⟩) (x6.length + 1) d6) (x6 ++ [-1]) (.slice (some ⟨g7, 0, none⟩) (x7.length + 1) d7) (x7 ++ [0]))
    (hop : Blk w gp 69 (opCells H k)) (n6 : g6 ≠ gp) (n7 : g7 ≠ gp) (np : B.gW < gp) :
    Mid H w0 B k x6.length g6 (x6.length + 1) d6 g7 (x7.length + 1) d7 gp cW (x6 ++ [-1]) (x7 ++ [0]) (w.setCell ⟨g7, x6.length, none⟩ (.int .i32 1)) := by
  have h1 := hst.set7 hB (by simp) x6.length 1
  have e1 : ((cnt H.s (H.s k) k : Int) + 1) = 1 := by rw [hm]; rfl
  refine ⟨{ h1 with mapS := h1.mapS.congr ?_ ?_, o7 := ?_ }, htab.new hm, by rw [sn_next H.s k hm, htab.l6], by simp, by simp, hop.other (by simp only; omega) _, n6, n7, np⟩
  · rw [siteMap_miss H.s k hm, nb_next H.s k hm]
    rfl
  · intro l
    rw [htab.l6]
    exact siteMap_new H.s k hm l
  · rw [e1]
    exact h1.o7
theorem mid_old (hB : BkOk w0.heap.size B) (hm : cnt H.s (H.s k) k ≠ 0) {x6 x7 : List Int} (htab : Tabs H.s k k x6 x7)
    (hst : St H.n w0 B w (fS H k) (fP H k) (fV H k) k (nb H.s k) (siteMap H.s k) k cW (writeMap H.o (ys H) k) (.slice (some ⟨g6, 0, none⟩) x6.length d6) x6 (.slice (some ⟨g7, 0, none⟩) x7.length d7) x7)
    (ht : t = sn H.s k) (hop : Blk w gp 69 (opCells H k)) (n6 : g6 ≠ gp) (n7 : g7 ≠ gp) (np : B.gW < gp) :
    Mid H w0 B k t g6 x6.length d6 g7 x7.length d7 gp cW x6 x7 (w.setCell ⟨g7, t, none⟩ (.int .i32 ((cnt H.s (H.s k) k : Int) + 1))) := by
  have h1 := hst.set7 hB rfl t ((cnt H.s (H.s k) k : Int) + 1)
  exact ⟨{ h1 with mapS := (h1.mapS.mono (Nat.le_succ _)).congr (nb_old H.s k hm).symm (siteMap_old H.s k hm) }, htab.old hm, ht, rfl, rfl, hop.other (by simp only; omega) _, n6, n7, np⟩
end
end Go.Proofs.Qxb6603687a
