/-
  writesOf's loop: a new group.
-/
import Derived.Test.Qxb6603687aWNext
import Derived.Test.Qxb6603687aWLawP
namespace Go.Proofs.Qxb6603687a
open Go.RowKit Go.Maps
set_option linter.unusedVariables false
section
variable {H : Hist} {st : Nat → Int} {w0 : World} {base N gM gS : Nat} {GL : Int → List Nat} {OL : Nat → List Nat} {cM kM kS : Nat} {fM fS : Lit → Option Value} {fR : Nat → Int} {GV : Int → Value} {RV : Nat → Value} {T : Nat → Option Tag} {w w' : World}
theorem WSt.putS (hB : WBk w0 base N gM gS) (h : WSt H st w0 base N gM gS GL OL cM kM kS fM fS fR GV RV T w) (hg : w.grownBy w' (some gS)) {kS' c' : Nat} {fS' : Lit → Option Value} (hS : MapFn w' Try.prog 85 gS kS' c' fS') : WSt H st w0 base N gM gS GL OL cM kM kS' fM fS' fR GV RV T w' := by
  have hsb := hB.sb
  have hs0 := hB.s
  have kept : ∀ {e size v' n xs}, w.ownsRow base e size v' n xs → (∀ b, v'.ownBlock = some b → base ≤ b) → w'.ownsRow base e size v' n xs := fun {e size v' n xs} ho ht => by
    refine ho.kept hg ?_
    cases he : v'.ownBlock with
    | none => exact .inl rfl
    | some b => exact .inr (fun e => by have h1 := ht b he; have h2 : b = gS := Option.some.inj e; omega)
  exact ⟨below_grown h.below hg (Nat.le_refl _) (fun b e => by cases e; exact hs0), h.mapM.kept hg (fun e => hB.ms (Option.some.inj e)), ⟨c', hS⟩, h.rank.kept hg (fun e => hB.ns (Option.some.inj e)),
    fun x => kept (h.row x) (fun b hb => (h.tagLt b _ (h.tagR x b hb)).1), fun g => kept (h.ops g) (fun b hb => (h.tagLt b _ (h.tagO g b hb)).1), h.tagR, h.tagO, fun b t ht => ⟨(h.tagLt b t ht).1, Nat.lt_of_lt_of_le (h.tagLt b t ht).2 hg.size⟩⟩
theorem WSt.putM (hB : WBk w0 base N gM gS) (h : WSt H st w0 base N gM gS GL OL cM kM kS fM fS fR GV RV T w) (hg : w.grownBy w' (some gM)) {kM' cM' : Nat} {fM' : Lit → Option Value} (hM : MapFn w' Try.prog 3 gM kM' cM' fM') : WSt H st w0 base N gM gS GL OL cM' kM' kS fM' fS fR GV RV T w' := by
  have hmb := hB.mb
  have hm0 := hB.m
  have kept : ∀ {e size v' n xs}, w.ownsRow base e size v' n xs → (∀ b, v'.ownBlock = some b → base ≤ b) → w'.ownsRow base e size v' n xs := fun {e size v' n xs} ho ht => by
    refine ho.kept hg ?_
    cases he : v'.ownBlock with
    | none => exact .inl rfl
    | some b => exact .inr (fun e => by have h1 := ht b he; have h2 : b = gM := Option.some.inj e; omega)
  obtain ⟨c, hS⟩ := h.mapS
  exact ⟨below_grown h.below hg (Nat.le_refl _) (fun b e => by cases e; exact hm0), hM, ⟨c, hS.kept hg (fun e => hB.ms (Option.some.inj e).symm)⟩, h.rank.kept hg (fun e => hB.mn (Option.some.inj e).symm),
    fun x => kept (h.row x) (fun b hb => (h.tagLt b _ (h.tagR x b hb)).1), fun g => kept (h.ops g) (fun b hb => (h.tagLt b _ (h.tagO g b hb)).1), h.tagR, h.tagO, fun b t ht => ⟨(h.tagLt b t ht).1, Nat.lt_of_lt_of_le (h.tagLt b t ht).2 hg.size⟩⟩
end
section
variable {H : Hist} {st : Nat → Int} {w0 : World} {base N gM gS k : Nat} {GV : Int → Value} {RV : Nat → Value} {T : Nat → Option Tag} {w w' : World}
/-- Where there is no row, the value is nil. -/
structure Tidy (H : Hist) (st : Nat → Int) (k : Nat) (GV : Int → Value) (RV : Nat → Value) : Prop where
  row : ∀ x, grpL H st x k = [] → GV x = .slice none 0 0
  ops : RV k = .slice none 0 0
theorem whead_tidy (h : WHead H st w0 base N gM gS k w) : ∃ GV RV T, Tidy H st k GV RV ∧ WSt H st w0 base N gM gS (fun x => grpL H st x k) (fun g => opsL H st g k) (nv H st k) k k (wMap (fun x => grpL H st x k) GV) (sMap H st k) (rkUp H st k) GV RV T w := by
  obtain ⟨GV, RV, T, h⟩ := h
  refine ⟨fun x => if grpL H st x k = [] then .slice none 0 0 else GV x, fun g => if g = k then .slice none 0 0 else RV g, T, ⟨fun x hx => if_pos hx, if_pos rfl⟩, ?_⟩
  have e1 : wMap (fun x => grpL H st x k) (fun x => if grpL H st x k = [] then .slice none 0 0 else GV x) = wMap (fun x => grpL H st x k) GV := by
    funext l
    unfold wMap
    split
    · rename_i x
      by_cases hx : grpL H st x k = [] <;> simp [hx]
    · rfl
  rw [e1]
  refine ⟨h.below, h.mapM, h.mapS, h.rank, fun x => ?_, fun g => ?_, fun x b hb => ?_, fun g b hb => ?_, h.tagLt⟩
  · by_cases hx : grpL H st x k = []
    · simp only [hx, if_pos]
      exact World.ownsRow_nil _ _ _ _
    · simp only [hx, if_neg, not_false_eq_true]
      have := h.row x
      rw [rowC_congr st (RV' := fun g => if g = k then .slice none 0 0 else RV g) (fun g hg => by
        have := ((mem_grpL H st x k).1 hg).1
        rw [if_neg (by omega)])] at this
      exact this
  · by_cases hg : g = k
    · subst hg
      simp only [if_pos]
      rw [opsL_nil H st g g (Nat.le_refl _)]
      exact World.ownsRow_nil _ _ _ _
    · simp only [hg, if_neg, not_false_eq_true]
      exact h.ops g
  · by_cases hx : grpL H st x k = []
    · rw [if_pos hx] at hb
      simp [Value.ownBlock] at hb
    · rw [if_neg hx] at hb
      exact h.tagR x b hb
  · by_cases hg : g = k
    · rw [if_pos hg] at hb
      simp [Value.ownBlock] at hb
    · rw [if_neg hg] at hb
      exact h.tagO g b hb
theorem sMap_next {H : Hist} {st : Nat → Int} {k : Nat} (ho : H.o k = 119) (hnew : gf H st k = k) : sMap H st (k + 1) = upd (sMap H st k) (kl (H.v k) (st k)) (.int .i64 ((grpL H st (H.v k) k).length : Int)) := by
  show (if H.o k = 119 ∧ gf H st k = k then _ else sMap H st k) = _
  rw [if_pos ⟨ho, hnew⟩]
theorem rk_new {H : Hist} {st : Nat → Int} {k : Nat} (ho : H.o k = 119) (hnew : gf H st k = k) : rk H st k = (grpL H st (H.v k) k).length := by
  unfold rk
  rw [if_pos ho, hnew]
theorem wmid_new (hB : WBk w0 base N gM gS) (ho : H.o k = 119) (hnew : gf H st k = k) (ht : Tidy H st k GV RV)
    (h : WSt H st w0 base N gM gS (fun x => grpL H st x k) (fun g => opsL H st g k) (nv H st k) k (k + 1) (wMap (fun x => grpL H st x k) GV) (sMap H st (k + 1)) (rkUp H st k) GV RV T w) {g cap : Nat}
    (hown : w'.ownsRow base 73 4 (.slice (some ⟨g, 0, none⟩) ((grpL H st (H.v k) k).length + 1) cap) ((grpL H st (H.v k) k).length + 1) (rowC st RV (grpL H st (H.v k) k) ++ [.int .i32 (st k), .slice none 0 0, .slice none 0 0, .int .i64 0]))
    (hg : w.grownBy w' (GV (H.v k)).ownBlock) (hat : (GV (H.v k)).ownBlock = some g ∨ w.heap.size ≤ g) (hlt : g < w'.heap.size) (hbase : base ≤ w.heap.size) {w2 : World}
    (hM : MapFn w2 Try.prog 3 gM (k + 1) (if (wMap (fun x => grpL H st x k) GV (.int .i64 (H.v k))).isSome then nv H st k else nv H st k + 1) (upd (wMap (fun x => grpL H st x k) GV) (.int .i64 (H.v k)) (.slice (some ⟨g, 0, none⟩) ((grpL H st (H.v k) k).length + 1) cap)))
    (hg2 : w'.grownBy w2 (some gM)) :
    WMid H st w0 base N gM gS k (fun y => if y = H.v k then .slice (some ⟨g, 0, none⟩) ((grpL H st (H.v k) k).length + 1) cap else GV y) RV (fun b => if b = g then some (.inl (H.v k)) else T b) w2 := by
  have h1 := (WSt.push hB h ht.ops hown hg hat hlt hbase).putM hB hg2 hM
  have eL : (fun y => if y = H.v k then grpL H st (H.v k) k ++ [k] else grpL H st y k) = fun x => grpL H st x (k + 1) := funext fun y => by
    by_cases e : y = H.v k
    · subst e
      rw [if_pos rfl, grpL_more H st ⟨ho, hnew⟩ rfl]
    · rw [if_neg e, grpL_same H st (fun x => e x.2.symm)]
  have ec : (if (wMap (fun x => grpL H st x k) GV (.int .i64 (H.v k))).isSome then nv H st k else nv H st k + 1) = nv H st (k + 1) := by
    show _ = nv H st k + (if H.o k = 119 ∧ grpL H st (H.v k) k = [] then 1 else 0)
    by_cases e : grpL H st (H.v k) k = []
    · simp [wMap, e, ho]
    · simp [wMap, e]
  have em : upd (wMap (fun x => grpL H st x k) GV) (.int .i64 (H.v k)) (.slice (some ⟨g, 0, none⟩) ((grpL H st (H.v k) k).length + 1) cap) = wMap (fun x => grpL H st x (k + 1)) (fun y => if y = H.v k then .slice (some ⟨g, 0, none⟩) ((grpL H st (H.v k) k).length + 1) cap else GV y) := by
    funext l
    by_cases e : l = .int .i64 (H.v k)
    · subst e
      have : (Lit.int .i64 (H.v k)).sameKey (.int .i64 (H.v k)) = true := by simp [Lit.sameKey]
      have hne : ¬ grpL H st (H.v k) (k + 1) = [] := by rw [grpL_more H st ⟨ho, hnew⟩ rfl]; simp
      unfold upd
      rw [if_pos this]
      show _ = if grpL H st (H.v k) (k + 1) = [] then none else some (if H.v k = H.v k then Value.slice (some ⟨g, 0, none⟩) ((grpL H st (H.v k) k).length + 1) cap else GV (H.v k))
      rw [if_neg hne, if_pos rfl]
    · rw [upd_other _ _ e]
      unfold wMap
      split
      · rename_i y
        have hy : ¬ y = H.v k := fun e2 => e (by rw [e2])
        simp only [if_neg hy]
        rw [grpL_same H st (fun x => hy x.2.symm)]
      · rfl
  unfold WMid
  rw [← em, ← eL, ← ec]
  exact h1
end
end Go.Proofs.Qxb6603687a
