/-
  The law's model by scans, against the plain functions: no Go in sight.
-/
import Derived.Test.Qxb6603687aWPos
namespace Go.Proofs.Qxb6603687a
set_option linter.unusedVariables false

/-- What the law's groupFirst holds. -/
def gfv (H : Hist) (st : Nat → Int) (i : Nat) : Int := if H.o i = 119 then (gf H st i : Int) else -1
section
variable (H : Hist) (st : Nat → Int)
theorem fw_hit {x s : Int} {m j : Nat} (hj : j < m) (h : H.o j = 119 ∧ H.v j = x ∧ st j = s) (hb : ∀ j', j' < j → ¬ (H.o j' = 119 ∧ H.v j' = x ∧ st j' = s)) : fw H st x s m = j := by
  have h1 := fw_le_of H st x s h hj
  apply Classical.byContradiction
  intro hn
  exact hb (fw H st x s m) (by omega) (fw_at H st x s m (by omega))
theorem fw_none {x s : Int} {m : Nat} (hb : ∀ j', j' < m → ¬ (H.o j' = 119 ∧ H.v j' = x ∧ st j' = s)) : fw H st x s m = m := by
  have h1 := fw_le H st x s m
  apply Classical.byContradiction
  intro hn
  exact hb (fw H st x s m) (by omega) (fw_at H st x s m (by omega))
theorem gfv_no {i : Nat} (h : H.o i ≠ 119) : gfv H st i = -1 := if_neg h
theorem gfv_is {i : Nat} (h : H.o i = 119) : gfv H st i = (gf H st i : Int) := if_pos h
theorem gfv_self {i : Nat} : gfv H st i = (i : Int) ↔ isG H st i := by
  unfold gfv isG
  by_cases h : H.o i = 119
  · rw [if_pos h]
    exact ⟨fun e => ⟨h, by omega⟩, fun e => by rw [e.2]⟩
  · rw [if_neg h]
    exact ⟨fun e => by omega, fun e => absurd e.1 h⟩
theorem gfv_neg {i : Nat} : gfv H st i < 0 ↔ H.o i ≠ 119 := by
  unfold gfv
  by_cases h : H.o i = 119
  · rw [if_pos h]; exact ⟨fun e => by omega, fun e => absurd h e⟩
  · rw [if_neg h]; exact ⟨fun _ => h, fun _ => by omega⟩
theorem gfv_of {g j : Nat} : gfv H st j = (g : Int) ↔ H.o j = 119 ∧ gf H st j = g := by
  unfold gfv
  by_cases h : H.o j = 119
  · rw [if_pos h]; exact ⟨fun e => ⟨h, by omega⟩, fun e => by rw [e.2]⟩
  · rw [if_neg h]; exact ⟨fun e => by omega, fun e => absurd e.1 h⟩
theorem grpL_more {x : Int} {g : Nat} (h : isG H st g) (hx : H.v g = x) : grpL H st x (g + 1) = grpL H st x g ++ [g] := by
  show grpL H st x g ++ (if H.o g = 119 ∧ gf H st g = g ∧ H.v g = x then [g] else []) = _
  rw [if_pos ⟨h.1, h.2, hx⟩]
theorem grpL_same {x : Int} {g : Nat} (h : ¬ (isG H st g ∧ H.v g = x)) : grpL H st x (g + 1) = grpL H st x g := by
  show grpL H st x g ++ (if H.o g = 119 ∧ gf H st g = g ∧ H.v g = x then [g] else []) = _
  rw [if_neg (fun e => h ⟨⟨e.1, e.2.1⟩, e.2.2⟩), List.append_nil]
theorem opsL_more {g j : Nat} (h : gfv H st j = (g : Int)) : opsL H st g (j + 1) = opsL H st g j ++ [j] := by
  show opsL H st g j ++ (if H.o j = 119 ∧ gf H st j = g then [j] else []) = _
  rw [if_pos ((gfv_of H st).1 h)]
theorem opsL_same {g j : Nat} (h : ¬ gfv H st j = (g : Int)) : opsL H st g (j + 1) = opsL H st g j := by
  show opsL H st g j ++ (if H.o j = 119 ∧ gf H st j = g then [j] else []) = _
  rw [if_neg (fun e => h ((gfv_of H st).2 e)), List.append_nil]
theorem opsL_nil (g : Nat) : ∀ m, m ≤ g → opsL H st g m = []
  | 0, _ => rfl
  | m + 1, h => by
    have := gf_le H st m
    rw [opsL_same H st (fun e => by have := ((gfv_of H st).1 e).2; omega)]
    exact opsL_nil g m (by omega)
theorem opsL_at {g j : Nat} (h : gfv H st j = (g : Int)) : ∀ m, j < m → (opsL H st g m)[(opsL H st g j).length]? = some j
  | 0, hm => by omega
  | m + 1, hm => by
    by_cases e : j = m
    · subst e
      rw [opsL_more H st h]
      simp
    · have ih := opsL_at h m (by omega)
      have hl := (List.getElem?_eq_some_iff.1 ih).1
      show (opsL H st g m ++ _)[_]? = _
      rw [List.getElem?_append_left hl]
      exact ih
theorem grpL_nil {x : Int} {m : Nat} : grpL H st x m = [] ↔ ∀ j, j < m → H.o j = 119 → H.v j ≠ x := by
  constructor
  · intro h j hj ho hx
    have h1 := gf_key H st ho
    have : gf H st j ∈ grpL H st x m := (mem_grpL H st x m).2 ⟨by have := gf_le H st j; omega, gf_isG H st ho, by rw [h1.1, hx]⟩
    rw [h] at this
    simp at this
  · intro h
    apply List.eq_nil_iff_forall_not_mem.2
    intro g hg
    obtain ⟨h1, h2, h3⟩ := (mem_grpL H st x m).1 hg
    exact h g h1 h2.1 h3
theorem nv_new {i : Nat} (hG : isG H st i) (h : ∀ j, j < i → H.o j = 119 → H.v j ≠ H.v i) : nv H st (i + 1) = nv H st i + 1 := by
  show nv H st i + (if H.o i = 119 ∧ grpL H st (H.v i) i = [] then 1 else 0) = _
  rw [if_pos ⟨hG.1, (grpL_nil H st).2 h⟩]
theorem nv_notG {i : Nat} (hG : ¬ isG H st i) : nv H st (i + 1) = nv H st i := by
  show nv H st i + (if H.o i = 119 ∧ grpL H st (H.v i) i = [] then 1 else 0) = _
  rw [if_neg (fun e => ?_)]
  · rfl
  · have hne : gf H st i ≠ i := fun e2 => hG ⟨e.1, e2⟩
    have hlt : gf H st i < i := by have := gf_le H st i; omega
    have := (mem_grpL H st (H.v i) i).2 ⟨hlt, gf_isG H st e.1, (gf_key H st e.1).1⟩
    rw [e.2] at this
    simp at this
theorem nv_seen {i j : Nat} (hj : j < i) (ho : H.o j = 119) (hv : H.v j = H.v i) : nv H st (i + 1) = nv H st i := by
  show nv H st i + (if H.o i = 119 ∧ grpL H st (H.v i) i = [] then 1 else 0) = _
  rw [if_neg (fun e => (grpL_nil H st).1 e.2 j hj ho hv)]
  rfl
theorem grpL_mono (x : Int) {a b : Nat} (h : a ≤ b) : (grpL H st x a).length ≤ (grpL H st x b).length := by
  induction b with
  | zero => have : a = 0 := by omega
            subst this; exact Nat.le_refl _
  | succ b ih =>
    by_cases e : a = b + 1
    · subst e; exact Nat.le_refl _
    · have := ih (by omega)
      show _ ≤ (grpL H st x b ++ _).length
      rw [List.length_append]
      omega
end
end Go.Proofs.Qxb6603687a
