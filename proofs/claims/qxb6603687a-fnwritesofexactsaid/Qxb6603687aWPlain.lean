/-
  The plain functions behind writesOf and its model: no Go in sight. H: the history; st: the site table.
-/
import Derived.Test.Qxb6603687aSi
namespace Go.Proofs.Qxb6603687a
set_option linter.unusedVariables false

/-- The first of the first m operations that is a write with variable x and site s, or m. -/
def fw (H : Hist) (st : Nat → Int) (x s : Int) : Nat → Nat
  | 0 => 0
  | m + 1 => if fw H st x s m < m then fw H st x s m else if H.o m = 119 ∧ H.v m = x ∧ st m = s then m else m + 1
/-- The first write of i's group. -/
def gf (H : Hist) (st : Nat → Int) (i : Nat) : Nat := fw H st (H.v i) (st i) i
/-- g is the first of its group. -/
def isG (H : Hist) (st : Nat → Int) (g : Nat) : Prop := H.o g = 119 ∧ gf H st g = g
/-- The groups of variable x among the first k operations. -/
def grpL (H : Hist) (st : Nat → Int) (x : Int) : Nat → List Nat
  | 0 => []
  | k + 1 => grpL H st x k ++ (if H.o k = 119 ∧ gf H st k = k ∧ H.v k = x then [k] else [])
/-- The writes of group g among the first k operations. -/
def opsL (H : Hist) (st : Nat → Int) (g : Nat) : Nat → List Nat
  | 0 => []
  | k + 1 => opsL H st g k ++ (if H.o k = 119 ∧ gf H st k = g then [k] else [])
/-- The place of i's group among those of its variable. -/
def rk (H : Hist) (st : Nat → Int) (i : Nat) : Nat := if H.o i = 119 then (grpL H st (H.v i) (gf H st i)).length else 0
/-- How many variables the first k operations write. -/
def nv (H : Hist) (st : Nat → Int) : Nat → Nat
  | 0 => 0
  | k + 1 => nv H st k + if H.o k = 119 ∧ grpL H st (H.v k) k = [] then 1 else 0

section
variable (H : Hist) (st : Nat → Int) (x s : Int)
theorem fw_le : ∀ m, fw H st x s m ≤ m
  | 0 => Nat.le_refl _
  | m + 1 => by have := fw_le m; unfold fw; split <;> (try split) <;> omega
theorem fw_at : ∀ m, fw H st x s m < m → H.o (fw H st x s m) = 119 ∧ H.v (fw H st x s m) = x ∧ st (fw H st x s m) = s
  | 0 => fun h => by omega
  | m + 1 => fun h => by
    unfold fw at h ⊢
    by_cases h1 : fw H st x s m < m
    · rw [if_pos h1] at h ⊢; exact fw_at m h1
    · rw [if_neg h1] at h ⊢
      by_cases h2 : H.o m = 119 ∧ H.v m = x ∧ st m = s
      · rw [if_pos h2]; exact h2
      · rw [if_neg h2] at h; omega
theorem fw_before : ∀ m j, j < fw H st x s m → ¬ (H.o j = 119 ∧ H.v j = x ∧ st j = s)
  | 0, j => fun h => by simp [fw] at h
  | m + 1, j => fun h => by
    unfold fw at h
    by_cases h1 : fw H st x s m < m
    · rw [if_pos h1] at h; exact fw_before m j h
    · rw [if_neg h1] at h
      have hk : fw H st x s m = m := by have := fw_le H st x s m; omega
      by_cases h2 : H.o m = 119 ∧ H.v m = x ∧ st m = s
      · rw [if_pos h2] at h; exact fw_before m j (by omega)
      · rw [if_neg h2] at h
        by_cases e : j = m
        · subst e; exact h2
        · exact fw_before m j (by omega)
theorem fw_le_of {m j : Nat} (h : H.o j = 119 ∧ H.v j = x ∧ st j = s) (hj : j < m) : fw H st x s m ≤ j := by
  apply Classical.byContradiction
  intro hn
  exact fw_before H st x s m j (by omega) h
theorem fw_stable {m j : Nat} (hj : fw H st x s m < m) (h : m ≤ j) : fw H st x s j = fw H st x s m := by
  induction j with
  | zero => have : m = 0 := by omega
            subst this; rfl
  | succ j ih =>
    by_cases e : m = j + 1
    · subst e; rfl
    · have := ih (by omega)
      show (if fw H st x s j < j then fw H st x s j else if _ then j else j + 1) = _
      rw [if_pos (by omega), this]
theorem gf_le (i : Nat) : gf H st i ≤ i := fw_le _ _ _ _ _
/-- The first of a group that has begun is a group's first. -/
theorem fw_isG {m : Nat} (h : fw H st x s m < m) : isG H st (fw H st x s m) := by
  obtain ⟨h1, h2, h3⟩ := fw_at H st x s m h
  refine ⟨h1, ?_⟩
  have hle := gf_le H st (fw H st x s m)
  apply Classical.byContradiction
  intro hn
  have hlt : gf H st (fw H st x s m) < fw H st x s m := by omega
  unfold gf at hlt
  rw [h2, h3] at hlt
  have h4 := fw_at H st x s _ hlt
  exact fw_before H st x s m _ hlt h4
theorem gf_isG {i : Nat} (h : H.o i = 119) : isG H st (gf H st i) := by
  by_cases hlt : gf H st i < i
  · exact fw_isG H st _ _ hlt
  · have : gf H st i = i := by have := gf_le H st i; omega
    rw [this]
    exact ⟨h, this⟩
theorem gf_key {i : Nat} (h : H.o i = 119) : H.v (gf H st i) = H.v i ∧ st (gf H st i) = st i := by
  by_cases hlt : gf H st i < i
  · exact (fw_at H st _ _ _ hlt).2
  · have : gf H st i = i := by have := gf_le H st i; omega
    rw [this]
    exact ⟨rfl, rfl⟩
theorem grpL_le : ∀ k, (grpL H st x k).length ≤ k
  | 0 => Nat.le_refl _
  | k + 1 => by have := grpL_le k; unfold grpL; rw [List.length_append]; split <;> simp <;> omega
theorem opsL_le (g : Nat) : ∀ k, (opsL H st g k).length ≤ k
  | 0 => Nat.le_refl _
  | k + 1 => by have := opsL_le g k; unfold opsL; rw [List.length_append]; split <;> simp <;> omega
theorem nv_le : ∀ k, nv H st k ≤ k
  | 0 => Nat.le_refl _
  | k + 1 => by have := nv_le k; unfold nv; split <;> omega
theorem mem_grpL {g : Nat} : ∀ k, g ∈ grpL H st x k ↔ g < k ∧ isG H st g ∧ H.v g = x
  | 0 => by simp [grpL]
  | k + 1 => by
    unfold grpL
    rw [List.mem_append, mem_grpL k]
    by_cases h : H.o k = 119 ∧ gf H st k = k ∧ H.v k = x
    · rw [if_pos h]
      simp only [List.mem_singleton]
      constructor
      · rintro (⟨h1, h2⟩ | h1)
        · exact ⟨by omega, h2⟩
        · subst h1; exact ⟨by omega, ⟨h.1, h.2.1⟩, h.2.2⟩
      · rintro ⟨h1, h2⟩
        by_cases e : g = k
        · exact .inr e
        · exact .inl ⟨by omega, h2⟩
    · rw [if_neg h]
      simp only [List.not_mem_nil, or_false]
      constructor
      · rintro ⟨h1, h2⟩; exact ⟨by omega, h2⟩
      · rintro ⟨h1, h2, h3⟩
        by_cases e : g = k
        · subst e; exact absurd ⟨h2.1, h2.2, h3⟩ h
        · exact ⟨by omega, h2, h3⟩
end
end Go.Proofs.Qxb6603687a
