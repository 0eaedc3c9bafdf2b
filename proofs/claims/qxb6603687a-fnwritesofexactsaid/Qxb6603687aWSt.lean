/-
  writesOf's loop: its state. GV: the slice of each variable; RV: the ops slice of each group; T: each own block's ONE owner.
-/
import Derived.Test.Qxb6603687aWMap
import Derived.Deep.AppendLies
namespace Go.Proofs.Qxb6603687a
open Go.RowKit Go.Maps
set_option linter.unusedVariables false

/-- A block's owner: the row of variable x (left), or the ops of group g (right). -/
abbrev Tag := Sum Int Nat
/-- The map 'writes': the variables that have groups. -/
def wMap (GL : Int → List Nat) (GV : Int → Value) : Lit → Option Value
  | .int .i64 x => if GL x = [] then none else some (GV x)
  | _ => none
/-- The cells of a row of groups. -/
def rowC (st : Nat → Int) (RV : Nat → Value) (L : List Nat) : List Value := L.flatMap fun g => [.int .i32 (st g), RV g, .slice none 0 0, .int .i64 0]
theorem rowC_length (st : Nat → Int) (RV : Nat → Value) : ∀ L, (rowC st RV L).length = L.length * 4
  | [] => rfl
  | g :: L => by
    have := rowC_length st RV L
    unfold rowC at this ⊢
    rw [List.flatMap_cons, List.length_append, this]
    simp
    omega
theorem rowC_snoc (st : Nat → Int) (RV : Nat → Value) (L : List Nat) (g : Nat) : rowC st RV (L ++ [g]) = rowC st RV L ++ [.int .i32 (st g), RV g, .slice none 0 0, .int .i64 0] := by
  unfold rowC
  rw [List.flatMap_append]
  simp
theorem rowC_at (st : Nat → Int) (RV : Nat → Value) : ∀ (L : List Nat) {j g : Nat}, L[j]? = some g → (rowC st RV L)[j * 4]? = some (.int .i32 (st g)) ∧ (rowC st RV L)[j * 4 + 1]? = some (RV g) ∧ (rowC st RV L)[j * 4 + 2]? = some (.slice none 0 0) ∧ (rowC st RV L)[j * 4 + 3]? = some (.int .i64 0)
  | [], j, g, h => by simp at h
  | a :: L, 0, g, h => by
    simp at h
    subst h
    exact ⟨rfl, rfl, rfl, rfl⟩
  | a :: L, j + 1, g, h => by
    have ih := rowC_at st RV L (j := j) (g := g) (by simpa using h)
    have e : rowC st RV (a :: L) = [.int .i32 (st a), RV a, .slice none 0 0, .int .i64 0] ++ rowC st RV L := by unfold rowC; rw [List.flatMap_cons]
    rw [e]
    have sh : ∀ i, ([Value.int .i32 (st a), RV a, .slice none 0 0, .int .i64 0] ++ rowC st RV L)[i + 4]? = (rowC st RV L)[i]? := fun i => by rw [List.getElem?_append_right (by simp)]; simp
    rw [show (j + 1) * 4 = j * 4 + 4 by omega, show j * 4 + 4 + 1 = j * 4 + 1 + 4 by omega, show j * 4 + 4 + 2 = j * 4 + 2 + 4 by omega, show j * 4 + 4 + 3 = j * 4 + 3 + 4 by omega, sh, sh, sh, sh]
    exact ih

theorem rowC_congr (st : Nat → Int) {RV RV' : Nat → Value} : ∀ {L : List Nat}, (∀ g ∈ L, RV g = RV' g) → rowC st RV L = rowC st RV' L
  | [], _ => rfl
  | a :: L, h => by
    have ih := rowC_congr st (L := L) (fun g hg => h g (List.mem_cons_of_mem _ hg))
    unfold rowC at ih ⊢
    rw [List.flatMap_cons, List.flatMap_cons, ih, h a (List.mem_cons_self ..)]
theorem rowC_set (st : Nat → Int) (RV : Nat → Value) (V : Value) {L : List Nat} {j g0 : Nat} (hj : L[j]? = some g0) (hu : ∀ j', L[j']? = some g0 → j' = j) : rowC st (fun q => if q = g0 then V else RV q) L = (rowC st RV L).set (j * 4 + 1) V := by
  apply List.ext_getElem?
  intro t
  have hl := rowC_length st RV L
  have hl' := rowC_length st (fun q => if q = g0 then V else RV q) L
  have hjl : j < L.length := (List.getElem?_eq_some_iff.1 hj).1
  rw [List.getElem?_set]
  by_cases ht : t < L.length * 4
  · obtain ⟨j', hj'⟩ : ∃ j', t / 4 = j' := ⟨_, rfl⟩
    obtain ⟨q, hq⟩ : ∃ q, L[j']? = some q := ⟨L[j'], by simp⟩
    obtain ⟨a0, a1, a2, a3⟩ := rowC_at st RV L hq
    obtain ⟨b0, b1, b2, b3⟩ := rowC_at st (fun q => if q = g0 then V else RV q) L hq
    have hc : t = j' * 4 ∨ t = j' * 4 + 1 ∨ t = j' * 4 + 2 ∨ t = j' * 4 + 3 := by omega
    rcases hc with rfl | rfl | rfl | rfl
    · rw [b0, if_neg (by omega), a0]
    · rw [b1]
      by_cases e : q = g0
      · subst e
        have := hu j' hq
        subst this
        rw [if_pos rfl, if_pos rfl, if_pos (by omega)]
      · have hne : ¬ (j * 4 + 1 = j' * 4 + 1) := fun e2 => by
          have e3 : j = j' := by omega
          rw [e3, hq] at hj
          exact e (Option.some.inj hj)
        rw [if_neg e, if_neg hne, a1]
    · rw [b2, if_neg (by omega), a2]
    · rw [b3, if_neg (by omega), a3]
  · rw [if_neg (by omega), List.getElem?_eq_none (by omega), List.getElem?_eq_none (by omega)]

structure WSt (H : Hist) (st : Nat → Int) (w0 : World) (base N gM gS : Nat) (GL : Int → List Nat) (OL : Nat → List Nat) (cM kM kS : Nat) (fM fS : Lit → Option Value) (fR : Nat → Int) (GV : Int → Value) (RV : Nat → Value) (T : Nat → Option Tag) (w : World) : Prop where
  below : Below w0.heap.size w0 w
  mapM : MapFn w Try.prog 3 gM kM cM fM
  mapS : ∃ c, MapFn w Try.prog 85 gS kS c fS
  rank : RowFn w N 21 .i32 H.n fR
  row : ∀ x, w.ownsRow base 73 4 (GV x) (GL x).length (rowC st RV (GL x))
  ops : ∀ g, w.ownsRow base 21 1 (RV g) (OL g).length ((OL g).map fun i : Nat => Value.int .i32 (i : Int))
  tagR : ∀ x b, (GV x).ownBlock = some b → T b = some (.inl x)
  tagO : ∀ g b, (RV g).ownBlock = some b → T b = some (.inr g)
  tagLt : ∀ b t, T b = some t → base ≤ b ∧ b < w.heap.size
/-- How the named blocks lie. -/
structure WBk (w0 : World) (base N gM gS : Nat) : Prop where
  m : w0.heap.size ≤ gM
  n : w0.heap.size ≤ N
  s : w0.heap.size ≤ gS
  mn : gM ≠ N
  ms : gM ≠ gS
  ns : N ≠ gS
  mb : gM < base
  nb : N < base
  sb : gS < base

section
variable {H : Hist} {st : Nat → Int} {w0 : World} {base N gM gS : Nat} {GL : Int → List Nat} {OL : Nat → List Nat} {cM kM kS : Nat} {fM fS : Lit → Option Value} {fR : Nat → Int} {GV : Int → Value} {RV : Nat → Value} {T : Nat → Option Tag} {w w' : World}
/-- A change that touches none of the state's blocks. -/
theorem WSt.far (h : WSt H st w0 base N gM gS GL OL cM kM kS fM fS fR GV RV T w) {row : Option Nat} (hg : w.grownBy w' row) (hrow : ∀ b, row = some b → w0.heap.size ≤ b ∧ b ≠ gM ∧ b ≠ N ∧ b ≠ gS ∧ T b = none) : WSt H st w0 base N gM gS GL OL cM kM kS fM fS fR GV RV T w' := by
  have kept : ∀ {e size v n xs}, w.ownsRow base e size v n xs → (∀ b, v.ownBlock = some b → T b ≠ none) → w'.ownsRow base e size v n xs := fun ho ht => by
    refine ho.kept hg ?_
    cases he : Value.ownBlock _ with
    | none => exact .inl rfl
    | some b => exact .inr (fun e => ht b he (hrow b e.symm).2.2.2.2)
  obtain ⟨c, hS⟩ := h.mapS
  exact ⟨below_grown h.below hg (Nat.le_refl _) (fun b e => (hrow b e).1), h.mapM.kept hg (fun e => (hrow gM e.symm).2.1 rfl), ⟨c, hS.kept hg (fun e => (hrow gS e.symm).2.2.2.1 rfl)⟩, h.rank.kept hg (fun e => (hrow N e.symm).2.2.1 rfl),
    fun x => kept (h.row x) (fun b hb e => by rw [h.tagR x b hb] at e; cases e), fun g => kept (h.ops g) (fun b hb e => by rw [h.tagO g b hb] at e; cases e), h.tagR, h.tagO, fun b t ht => ⟨(h.tagLt b t ht).1, Nat.lt_of_lt_of_le (h.tagLt b t ht).2 hg.size⟩⟩
theorem WSt.same (h : WSt H st w0 base N gM gS GL OL cM kM kS fM fS fR GV RV T w) (hg : w.grownBy w' none) : WSt H st w0 base N gM gS GL OL cM kM kS fM fS fR GV RV T w' := h.far hg (fun b e => by cases e)

/-- A row gains a group: append(writes[x], siteWrites{site: s}). -/
theorem WSt.push (hB : WBk w0 base N gM gS) (h : WSt H st w0 base N gM gS GL OL cM kM kS fM fS fR GV RV T w) {x : Int} {i g cap : Nat} (hi : RV i = .slice none 0 0)
    (ho : w'.ownsRow base 73 4 (.slice (some ⟨g, 0, none⟩) ((GL x).length + 1) cap) ((GL x).length + 1) (rowC st RV (GL x) ++ [.int .i32 (st i), .slice none 0 0, .slice none 0 0, .int .i64 0]))
    (hg : w.grownBy w' (GV x).ownBlock) (hat : (GV x).ownBlock = some g ∨ w.heap.size ≤ g) (hlt : g < w'.heap.size) (hbase : base ≤ w.heap.size) :
    WSt H st w0 base N gM gS (fun y => if y = x then GL x ++ [i] else GL y) OL cM kM kS fM fS fR (fun y => if y = x then .slice (some ⟨g, 0, none⟩) ((GL x).length + 1) cap else GV y) RV (fun b => if b = g then some (.inl x) else T b) w' := by
  have hown : ∀ b, (GV x).ownBlock = some b → base ≤ b := fun b hb => (h.tagLt b _ (h.tagR x b hb)).1
  have kept : ∀ {e size v n xs}, w.ownsRow base e size v n xs → (∀ b, v.ownBlock = some b → (GV x).ownBlock ≠ some b) → w'.ownsRow base e size v n xs := fun {e size v n xs} ho ht => by
    refine ho.kept hg ?_
    cases he : v.ownBlock with
    | none => exact .inl rfl
    | some b => exact .inr (fun e => ht b he e.symm)
  have fresh : ∀ b t, T b = some t → t ≠ .inl x → b ≠ g := fun b t ht hne e => by
    subst e
    rcases hat with h1 | h1
    · have := h.tagR x b h1
      rw [ht] at this
      exact hne (Option.some.inj this)
    · have := (h.tagLt b t ht).2
      omega
  obtain ⟨c, hS⟩ := h.mapS
  have hmb := hB.mb
  have hnb := hB.nb
  have hsb := hB.sb
  have hm0 := hB.m
  refine ⟨below_grown h.below hg (Nat.le_refl _) (fun b e => by have := hown b e; omega), h.mapM.kept hg (fun e => by have := hown _ e.symm; omega), ⟨c, hS.kept hg (fun e => by have := hown _ e.symm; omega)⟩, h.rank.kept hg (fun e => by have := hown _ e.symm; omega), fun y => ?_, fun j => ?_, fun y b hb => ?_, fun j b hb => ?_, fun b t ht => ?_⟩
  · by_cases e : y = x
    · subst e
      simp only [if_pos]
      rw [List.length_append, rowC_snoc, hi]
      exact ho
    · simp only [if_neg e]
      exact kept (h.row y) (fun b hb e2 => by
        have h1 := h.tagR y b hb
        rw [h.tagR x b e2] at h1
        exact e (by injection h1 with h1; injection h1 with h1; exact h1.symm))
  · exact kept (h.ops j) (fun b hb e2 => by
      have h1 := h.tagO j b hb
      rw [h.tagR x b e2] at h1
      cases h1)
  · by_cases e : y = x
    · subst e
      simp only [if_pos] at hb
      simp [Value.ownBlock] at hb
      rw [if_pos hb.symm]
    · simp only [if_neg e] at hb
      have h1 := h.tagR y b hb
      rw [if_neg (fresh b _ h1 (fun e2 => e (by injection e2)))]
      exact h1
  · have h1 := h.tagO j b hb
    rw [if_neg (fresh b _ h1 (fun e2 => by cases e2))]
    exact h1
  · by_cases e : b = g
    · subst e
      refine ⟨?_, hlt⟩
      rcases hat with h1 | h1
      · exact hown b h1
      · omega
    · rw [if_neg e] at ht
      exact ⟨(h.tagLt b t ht).1, Nat.lt_of_lt_of_le (h.tagLt b t ht).2 hg.size⟩
/-- A group gains a write: writes[x][j].ops = append(writes[x][j].ops, i). -/
theorem WSt.gain (hB : WBk w0 base N gM gS) (h : WSt H st w0 base N gM gS GL OL cM kM kS fM fS fR GV RV T w) {x : Int} {g0 i j gx cx g cap : Nat} (hGV : GV x = .slice (some ⟨gx, 0, none⟩) (GL x).length cx) (hj : (GL x)[j]? = some g0) (hu : ∀ y j', (GL y)[j']? = some g0 → y = x ∧ j' = j)
    (ho : w'.ownsRow base 21 1 (.slice (some ⟨g, 0, none⟩) ((OL g0).length + 1) cap) ((OL g0).length + 1) (((OL g0).map fun i : Nat => Value.int .i32 (i : Int)) ++ [.int .i32 (i : Int)]))
    (hg : w.grownBy w' (RV g0).ownBlock) (hat : (RV g0).ownBlock = some g ∨ w.heap.size ≤ g) (hlt : g < w'.heap.size) (hbase : base ≤ w.heap.size) :
    WSt H st w0 base N gM gS GL (fun q => if q = g0 then OL g0 ++ [i] else OL q) cM kM kS fM fS fR GV (fun q => if q = g0 then .slice (some ⟨g, 0, none⟩) ((OL g0).length + 1) cap else RV q) (fun b => if b = g then some (.inr g0) else T b) (w'.setCell ⟨gx, j * 4 + 1, none⟩ (.slice (some ⟨g, 0, none⟩) ((OL g0).length + 1) cap)) := by
  have hown : ∀ b, (RV g0).ownBlock = some b → base ≤ b := fun b hb => (h.tagLt b _ (h.tagO g0 b hb)).1
  have hgx : T gx = some (.inl x) := h.tagR x gx (by rw [hGV]; rfl)
  have hgb := h.tagLt gx _ hgx
  have kept : ∀ {e size v n xs}, w.ownsRow base e size v n xs → (∀ b, v.ownBlock = some b → (RV g0).ownBlock ≠ some b) → w'.ownsRow base e size v n xs := fun {e size v n xs} ho ht => by
    refine ho.kept hg ?_
    cases he : v.ownBlock with
    | none => exact .inl rfl
    | some b => exact .inr (fun e => ht b he e.symm)
  have fresh : ∀ b t, T b = some t → t ≠ .inr g0 → b ≠ g := fun b t ht hne e => by
    subst e
    rcases hat with h1 | h1
    · have := h.tagO g0 b h1
      rw [ht] at this
      exact hne (Option.some.inj this)
    · have := (h.tagLt b t ht).2
      omega
  have hgxg : gx ≠ g := fresh gx _ hgx (fun e => by cases e)
  have g2 := grownBy_set w' ⟨gx, j * 4 + 1, none⟩ (.slice (some ⟨g, 0, none⟩) ((OL g0).length + 1) cap)
  have kept2 : ∀ {e size v n xs}, w'.ownsRow base e size v n xs → (∀ b, v.ownBlock = some b → b ≠ gx) → (w'.setCell ⟨gx, j * 4 + 1, none⟩ (.slice (some ⟨g, 0, none⟩) ((OL g0).length + 1) cap)).ownsRow base e size v n xs := fun {e size v n xs} ho ht => by
    refine ho.kept g2 ?_
    cases he : v.ownBlock with
    | none => exact .inl rfl
    | some b => exact .inr (fun e => ht b he (Option.some.inj e))
  obtain ⟨c, hS⟩ := h.mapS
  have hmb := hB.mb
  have hnb := hB.nb
  have hsb := hB.sb
  have hm0 := hB.m
  refine ⟨below_grown (below_grown h.below hg (Nat.le_refl _) (fun b e => by have := hown b e; omega)) g2 (Nat.le_refl _) (fun b e => by cases e; show _ ≤ gx; omega), (h.mapM.kept hg (fun e => by have := hown _ e.symm; omega)).kept g2 (fun e => by have : gM = gx := Option.some.inj e; omega), ⟨c, (hS.kept hg (fun e => by have := hown _ e.symm; omega)).kept g2 (fun e => by have : gS = gx := Option.some.inj e; omega)⟩, (h.rank.kept hg (fun e => by have := hown _ e.symm; omega)).kept g2 (fun e => by have : N = gx := Option.some.inj e; omega), fun y => ?_, fun q => ?_, fun y b hb => ?_, fun q b hb => ?_, fun b t ht => ?_⟩
  · have hk : w'.ownsRow base 73 4 (GV y) (GL y).length (rowC st RV (GL y)) := kept (h.row y) (fun b hb e2 => by
      have h1 := h.tagR y b hb
      rw [h.tagO g0 b e2] at h1
      cases h1)
    by_cases e : y = x
    · subst e
      rw [rowC_set st RV _ hj (fun j' hj' => (hu _ j' hj').2)]
      rw [hGV] at hk ⊢
      exact (World.ownsRow.stored hk (j * 4 + 1) _).1
    · rw [rowC_congr st (RV' := RV) (fun q hq => by
        obtain ⟨j', hj'⟩ := List.getElem?_of_mem hq
        by_cases e2 : q = g0
        · subst e2; exact absurd (hu y j' hj').1 e
        · rw [if_neg e2])]
      exact kept2 hk (fun b hb e2 => by
        have h1 := h.tagR y b hb
        rw [e2, hgx] at h1
        exact e (by injection h1 with h1; injection h1 with h1; exact h1.symm))
  · by_cases e : q = g0
    · subst e
      simp only [if_pos]
      rw [List.length_append, List.map_append]
      exact kept2 ho (fun b hb e2 => by simp [Value.ownBlock] at hb; omega)
    · simp only [if_neg e]
      exact kept2 (kept (h.ops q) (fun b hb e2 => by
        have h1 := h.tagO q b hb
        rw [h.tagO g0 b e2] at h1
        exact e (by injection h1 with h1; injection h1 with h1; exact h1.symm))) (fun b hb e2 => by
        have h1 := h.tagO q b hb
        rw [e2, hgx] at h1
        cases h1)
  · have h1 := h.tagR y b hb
    rw [if_neg (fresh b _ h1 (fun e2 => by cases e2))]
    exact h1
  · by_cases e : q = g0
    · subst e
      simp only [if_pos] at hb
      simp [Value.ownBlock] at hb
      rw [if_pos hb.symm]
    · simp only [if_neg e] at hb
      have h1 := h.tagO q b hb
      rw [if_neg (fresh b _ h1 (fun e2 => e (by injection e2)))]
      exact h1
  · by_cases e : b = g
    · subst e
      refine ⟨?_, Nat.lt_of_lt_of_le hlt g2.size⟩
      rcases hat with h1 | h1
      · exact hown b h1
      · omega
    · rw [if_neg e] at ht
      exact ⟨(h.tagLt b t ht).1, Nat.lt_of_lt_of_le (Nat.lt_of_lt_of_le (h.tagLt b t ht).2 hg.size) g2.size⟩
end
end Go.Proofs.Qxb6603687a
