/-
  writesOf's loop: the end of a round that writes.
-/
import Derived.Test.Qxb6603687aWHead
import Derived.Test.Qxb6603687aWPos
namespace Go.Proofs.Qxb6603687a
open Go.RowKit Go.Maps
set_option linter.unusedVariables false
section
variable {H : Hist} {st : Nat → Int} {w0 : World} {base N gM gS : Nat} {GL : Int → List Nat} {OL : Nat → List Nat} {cM kM kS : Nat} {fM fS : Lit → Option Value} {fR : Nat → Int} {GV : Int → Value} {RV : Nat → Value} {T : Nat → Option Tag} {w w' : World}
theorem WSt.rankSet (hB : WBk w0 base N gM gS) (h : WSt H st w0 base N gM gS GL OL cM kM kS fM fS fR GV RV T w) {j : Nat} (hj : j < H.n) (v : Int) {fR' : Nat → Int} (hf : ∀ i, i < H.n → fR' i = if i = j then v else fR i) : WSt H st w0 base N gM gS GL OL cM kM kS fM fS fR' GV RV T (w.setCell ⟨N, j, none⟩ (.int .i32 v)) := by
  have hg := grownBy_set w ⟨N, j, none⟩ (.int .i32 v)
  have hnb := hB.nb
  have hn0 := hB.n
  have kept : ∀ {e size v' n xs}, w.ownsRow base e size v' n xs → (∀ b, v'.ownBlock = some b → base ≤ b) → (w.setCell ⟨N, j, none⟩ (.int .i32 v)).ownsRow base e size v' n xs := fun {e size v' n xs} ho ht => by
    refine ho.kept hg ?_
    cases he : v'.ownBlock with
    | none => exact .inl rfl
    | some b => exact .inr (fun e => by have h1 := ht b he; have h2 : b = N := Option.some.inj e; omega)
  obtain ⟨c, hS⟩ := h.mapS
  exact ⟨below_grown h.below hg (Nat.le_refl _) (fun b e => by cases e; exact hn0), h.mapM.kept hg (fun e => hB.mn (Option.some.inj e)), ⟨c, hS.kept hg (fun e => hB.ns (Option.some.inj e).symm)⟩, h.rank.set hj v hf,
    fun x => kept (h.row x) (fun b hb => (h.tagLt b _ (h.tagR x b hb)).1), fun g => kept (h.ops g) (fun b hb => (h.tagLt b _ (h.tagO g b hb)).1), h.tagR, h.tagO, fun b t ht => ⟨(h.tagLt b t ht).1, Nat.lt_of_lt_of_le (h.tagLt b t ht).2 hg.size⟩⟩
end
section
variable {H : Hist} {st : Nat → Int} {w0 : World} {base N gM gS k : Nat} {GV : Int → Value} {RV : Nat → Value} {T : Nat → Option Tag} {w w' : World}
/-- The write is appended to its group. -/
theorem WMid.next (hB : WBk w0 base N gM gS) (h : WMid H st w0 base N gM gS k GV RV T w) (ho : H.o k = 119) (hk : k < H.n) {gx cx g cap : Nat} (hGV : GV (H.v k) = .slice (some ⟨gx, 0, none⟩) (grpL H st (H.v k) (k + 1)).length cx)
    (hown : w'.ownsRow base 21 1 (.slice (some ⟨g, 0, none⟩) ((opsL H st (gf H st k) k).length + 1) cap) ((opsL H st (gf H st k) k).length + 1) (((opsL H st (gf H st k) k).map fun i : Nat => Value.int .i32 (i : Int)) ++ [.int .i32 (k : Int)]))
    (hg : w.grownBy w' (RV (gf H st k)).ownBlock) (hat : (RV (gf H st k)).ownBlock = some g ∨ w.heap.size ≤ g) (hlt : g < w'.heap.size) (hbase : base ≤ w.heap.size) {w2 : World} (h2 : (w'.setCell ⟨gx, rk H st k * 4 + 1, none⟩ (.slice (some ⟨g, 0, none⟩) ((opsL H st (gf H st k) k).length + 1) cap)).grownBy w2 none) :
    WHead H st w0 base N gM gS (k + 1) (w2.setCell ⟨N, k, none⟩ (.int .i32 (rk H st k : Int))) := by
  have h1 := ((WSt.gain hB h hGV (grp_here H st ho) (fun y j hy => grp_only H st ho y j hy) hown hg hat hlt hbase).same h2).rankSet hB hk (rk H st k : Int) (fR' := rkUp H st (k + 1)) (fun i _ => rkUp_next H st k i)
  have e4 : (fun q => opsL H st q (k + 1)) = (fun q => if q = gf H st k then opsL H st (gf H st k) k ++ [k] else opsL H st q k) := funext fun q => by
    show opsL H st q k ++ (if H.o k = 119 ∧ gf H st k = q then [k] else []) = _
    by_cases e : q = gf H st k
    · subst e; rw [if_pos ⟨ho, rfl⟩, if_pos rfl]
    · rw [if_neg (fun x => e x.2.symm), if_neg e, List.append_nil]
  unfold WHead
  rw [e4]
  exact ⟨GV, _, _, h1⟩
end
end Go.Proofs.Qxb6603687a
