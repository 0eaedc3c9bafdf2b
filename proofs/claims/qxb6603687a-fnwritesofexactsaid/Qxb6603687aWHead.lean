/-
  writesOf's loop: the state at the head of round k, and its start.
-/
import Derived.Test.Qxb6603687aWSt
namespace Go.Proofs.Qxb6603687a
open Go.RowKit Go.Maps
set_option linter.unusedVariables false

def rkUp (H : Hist) (st : Nat → Int) (k j : Nat) : Int := if j < k then (rk H st j : Int) else 0
theorem rkUp_next (H : Hist) (st : Nat → Int) (k i : Nat) : rkUp H st (k + 1) i = if i = k then (rk H st k : Int) else rkUp H st k i := by
  unfold rkUp
  by_cases e : i = k
  · subst e; rw [if_pos (by omega), if_pos rfl]
  · rw [if_neg e]
    by_cases h1 : i < k
    · rw [if_pos (by omega), if_pos h1]
    · rw [if_neg (by omega), if_neg h1]
def WHead (H : Hist) (st : Nat → Int) (w0 : World) (base N gM gS k : Nat) (w : World) : Prop :=
  ∃ GV RV T, WSt H st w0 base N gM gS (fun x => grpL H st x k) (fun g => opsL H st g k) (nv H st k) k k (wMap (fun x => grpL H st x k) GV) (sMap H st k) (rkUp H st k) GV RV T w
theorem wbk_start (w : World) : WBk w (w.heap.size + 3) (w.heap.size + 1) w.heap.size (w.heap.size + 2) := ⟨by omega, by omega, by omega, by omega, by omega, by omega, by omega, by omega, by omega⟩
theorem whead_start (H : Hist) (st : Nat → Int) (w : World) : WHead H st w (w.heap.size + 3) (w.heap.size + 1) w.heap.size (w.heap.size + 2) 0 (((w.alloc (.map #[] 0)).alloc (.cells (zeros .i32 H.n) 21)).alloc (.map #[] 0)) := by
  have hm := mapFn_made w Try.prog 3
  have hs := mapFn_made ((w.alloc (.map #[] 0)).alloc (.cells (zeros .i32 H.n) 21)) Try.prog 85
  have hr := Blk.new (w.alloc (.map #[] 0)) 21 (zeros .i32 H.n)
  have e1 : (w.alloc (.map #[] 0)).heap.size = w.heap.size + 1 := by simp
  have e2 : ((w.alloc (.map #[] 0)).alloc (.cells (zeros .i32 H.n) 21)).heap.size = w.heap.size + 2 := by simp
  rw [e1] at hr
  rw [e2] at hs
  refine ⟨fun _ => .slice none 0 0, fun _ => .slice none 0 0, fun _ => none, ?_, ?_, ⟨0, ?_⟩, ?_, fun x => World.ownsRow_nil _ _ _ _, fun g => World.ownsRow_nil _ _ _ _, fun x b h => by simp [Value.ownBlock] at h, fun g b h => by simp [Value.ownBlock] at h, fun b t h => by cases h⟩
  · exact (((Below.refl w.heap.size w).alloc (Nat.le_refl _) _).alloc (by simp) _).alloc (by simp; omega) _
  · exact ((hm.alloc _).alloc _).congr rfl (fun l => by unfold wMap; split <;> simp [grpL])
  · exact hs
  · exact ((rowFn_zeros hr).congr (fun j _ => if_neg (by omega))).alloc' _

/-- Ahead of 'writes[x][k].ops = append(..)': the group is there. -/
def WMid (H : Hist) (st : Nat → Int) (w0 : World) (base N gM gS k : Nat) (GV : Int → Value) (RV : Nat → Value) (T : Nat → Option Tag) (w : World) : Prop :=
  WSt H st w0 base N gM gS (fun x => grpL H st x (k + 1)) (fun g => opsL H st g k) (nv H st (k + 1)) (k + 1) (k + 1) (wMap (fun x => grpL H st x (k + 1)) GV) (sMap H st (k + 1)) (rkUp H st k) GV RV T w
theorem grpL_old {H : Hist} {st : Nat → Int} {k : Nat} (h : ¬ (H.o k = 119 ∧ gf H st k = k)) (x : Int) : grpL H st x (k + 1) = grpL H st x k := by
  show grpL H st x k ++ (if H.o k = 119 ∧ gf H st k = k ∧ H.v k = x then [k] else []) = _
  rw [if_neg (fun e => h ⟨e.1, e.2.1⟩), List.append_nil]
theorem grpL_has {H : Hist} {st : Nat → Int} {k : Nat} (ho : H.o k = 119) (h : gf H st k < k) : gf H st k ∈ grpL H st (H.v k) k := (mem_grpL H st (H.v k) k).2 ⟨h, gf_isG H st ho, (gf_key H st ho).1⟩
theorem wmid_old {H : Hist} {st : Nat → Int} {w0 : World} {base N gM gS k : Nat} {GV : Int → Value} {RV : Nat → Value} {T : Nat → Option Tag} {w : World} (ho : H.o k = 119) (hg : gf H st k < k)
    (h : WSt H st w0 base N gM gS (fun x => grpL H st x k) (fun g => opsL H st g k) (nv H st k) k k (wMap (fun x => grpL H st x k) GV) (sMap H st k) (rkUp H st k) GV RV T w) : WMid H st w0 base N gM gS k GV RV T w := by
  have e1 : (fun x => grpL H st x (k + 1)) = (fun x => grpL H st x k) := funext (grpL_old (fun e => by omega))
  have e2 : sMap H st (k + 1) = sMap H st k := by
    show (if H.o k = 119 ∧ gf H st k = k then _ else sMap H st k) = _
    rw [if_neg (fun e => by omega)]
  have e3 : nv H st (k + 1) = nv H st k := by
    show nv H st k + (if H.o k = 119 ∧ grpL H st (H.v k) k = [] then 1 else 0) = _
    rw [if_neg (fun e => by have := grpL_has ho hg; rw [e.2] at this; simp at this)]
    rfl
  unfold WMid
  rw [e1, e2, e3]
  obtain ⟨c, hS⟩ := h.mapS
  exact { h with mapM := h.mapM.mono (by omega), mapS := ⟨c, hS.mono (by omega)⟩ }
/-- A round that writes nothing. -/
theorem whead_skip {H : Hist} {st : Nat → Int} {w0 : World} {base N gM gS k : Nat} {GV : Int → Value} {RV : Nat → Value} {T : Nat → Option Tag} {w : World} (ho : H.o k ≠ 119)
    (h : WSt H st w0 base N gM gS (fun x => grpL H st x k) (fun g => opsL H st g k) (nv H st k) k k (wMap (fun x => grpL H st x k) GV) (sMap H st k) (rkUp H st k) GV RV T w) : WHead H st w0 base N gM gS (k + 1) w := by
  have e1 : (fun x => grpL H st x (k + 1)) = (fun x => grpL H st x k) := funext (grpL_old (fun e => ho e.1))
  have e2 : sMap H st (k + 1) = sMap H st k := by
    show (if H.o k = 119 ∧ gf H st k = k then _ else sMap H st k) = _
    rw [if_neg (fun e => ho e.1)]
  have e3 : nv H st (k + 1) = nv H st k := by
    show nv H st k + (if H.o k = 119 ∧ grpL H st (H.v k) k = [] then 1 else 0) = _
    rw [if_neg (fun e => ho e.1)]
    rfl
  have e4 : (fun g => opsL H st g (k + 1)) = (fun g => opsL H st g k) := funext fun g => by
    show opsL H st g k ++ (if H.o k = 119 ∧ gf H st k = g then [k] else []) = _
    rw [if_neg (fun e => ho e.1), List.append_nil]
  refine ⟨GV, RV, T, ?_⟩
  rw [e1, e2, e3, e4]
  obtain ⟨c, hS⟩ := h.mapS
  exact { h with mapM := h.mapM.mono (by omega), mapS := ⟨c, hS.mono (by omega)⟩, rank := h.rank.congr (fun j _ => by
    rw [rkUp_next]
    by_cases e : j = k
    · subst e
      rw [if_pos rfl]
      unfold rk rkUp
      rw [if_neg ho, if_neg (by omega)]
      rfl
    · rw [if_neg e]) }
end Go.Proofs.Qxb6603687a
