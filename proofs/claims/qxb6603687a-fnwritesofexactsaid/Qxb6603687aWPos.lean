/-
  Where a group stands in its variable's row.
-/
import Derived.Test.Qxb6603687aWPlain
namespace Go.Proofs.Qxb6603687a
set_option linter.unusedVariables false
section
variable (H : Hist) (st : Nat → Int)
theorem grpL_at {g : Nat} (hg : isG H st g) : ∀ m, g < m → (grpL H st (H.v g) m)[(grpL H st (H.v g) g).length]? = some g
  | 0, h => by omega
  | m + 1, h => by
    show (grpL H st (H.v g) m ++ (if H.o m = 119 ∧ gf H st m = m ∧ H.v m = H.v g then [m] else []))[(grpL H st (H.v g) g).length]? = some g
    by_cases e : g = m
    · subst e
      rw [if_pos ⟨hg.1, hg.2, rfl⟩, List.getElem?_append_right (Nat.le_refl _)]
      simp
    · have ih := grpL_at hg m (by omega)
      have hl := (List.getElem?_eq_some_iff.1 ih).1
      rw [List.getElem?_append_left hl]
      exact ih
theorem grpL_pos {y : Int} {g j : Nat} : ∀ m, (grpL H st y m)[j]? = some g → H.v g = y ∧ j = (grpL H st y g).length
  | 0, h => by simp [grpL] at h
  | m + 1, h => by
    have h' : (grpL H st y m ++ (if H.o m = 119 ∧ gf H st m = m ∧ H.v m = y then [m] else []))[j]? = some g := h
    by_cases hj : j < (grpL H st y m).length
    · rw [List.getElem?_append_left hj] at h'
      exact grpL_pos m h'
    · rw [List.getElem?_append_right (by omega)] at h'
      by_cases hc : H.o m = 119 ∧ gf H st m = m ∧ H.v m = y
      · rw [if_pos hc] at h'
        have hl := (List.getElem?_eq_some_iff.1 h').1
        simp at hl
        have he : j = (grpL H st y m).length := by omega
        rw [he] at h'
        simp at h'
        subst h'
        exact ⟨hc.2.2, he⟩
      · rw [if_neg hc] at h'
        simp at h'
/-- The group of write k stands at place rk k. -/
theorem grp_here {k : Nat} (ho : H.o k = 119) : (grpL H st (H.v k) (k + 1))[rk H st k]? = some (gf H st k) := by
  have h1 := gf_isG H st ho
  have h2 := (gf_key H st ho).1
  have h3 := grpL_at H st h1 (k + 1) (by have := gf_le H st k; omega)
  rw [h2] at h3
  unfold rk
  rw [if_pos ho]
  exact h3
theorem grp_only {k : Nat} (ho : H.o k = 119) (y : Int) (j : Nat) (h : (grpL H st y (k + 1))[j]? = some (gf H st k)) : y = H.v k ∧ j = rk H st k := by
  obtain ⟨h1, h2⟩ := grpL_pos H st (k + 1) h
  have h3 := (gf_key H st ho).1
  have e : y = H.v k := by rw [← h1, h3]
  refine ⟨e, ?_⟩
  unfold rk
  rw [if_pos ho, h2, e]
end
end Go.Proofs.Qxb6603687a
