/-
  The plain functions behind newCausalOrder and its model: no Go in sight. s: the sites; o: the kinds; y: the values as lists of bytes.
-/
import Derived.KernelRfl
namespace Go.Proofs.Qxb6603687a
set_option linter.unusedVariables false

/-- How many of the first k are x. -/
def cnt (s : Nat → Int) (x : Int) : Nat → Nat
  | 0 => 0
  | k + 1 => cnt s x k + if s k = x then 1 else 0
/-- The last of the first k that is x, or -1. -/
def lastB (s : Nat → Int) (x : Int) : Nat → Int
  | 0 => -1
  | k + 1 => if s k = x then (k : Int) else lastB s x k
/-- The first of the first k that is x, or k. -/
def fi (s : Nat → Int) (x : Int) : Nat → Nat
  | 0 => 0
  | k + 1 => if fi s x k < k then fi s x k else if s k = x then k else k + 1
/-- How many of the first k are the first of their kind. -/
def nb (s : Nat → Int) : Nat → Nat
  | 0 => 0
  | k + 1 => nb s k + if fi s (s k) k = k then 1 else 0
/-- The number of i's site. -/
def sn (s : Nat → Int) (i : Nat) : Nat := nb s (fi s (s i) i)
/-- The last of the first k operations that writes b, or -1. -/
def lastW (o : Nat → Int) (y : Nat → List UInt8) (b : List UInt8) : Nat → Int
  | 0 => -1
  | k + 1 => if o k = 119 ∧ y k = b then (k : Int) else lastW o y b k

section
variable (s : Nat → Int) (x : Int)
theorem cnt_le : ∀ k, cnt s x k ≤ k
  | 0 => Nat.le_refl _
  | k + 1 => by have := cnt_le k; unfold cnt; split <;> omega
theorem lastB_lt : ∀ k, -1 ≤ lastB s x k ∧ lastB s x k < k
  | 0 => by simp [lastB]
  | k + 1 => by have := lastB_lt k; unfold lastB; split <;> omega
theorem fi_le : ∀ k, fi s x k ≤ k
  | 0 => Nat.le_refl _
  | k + 1 => by have := fi_le k; unfold fi; split <;> (try split) <;> omega
theorem nb_le : ∀ k, nb s k ≤ k
  | 0 => Nat.le_refl _
  | k + 1 => by have := nb_le k; unfold nb; split <;> omega
theorem fi_at : ∀ k, fi s x k < k → s (fi s x k) = x
  | 0 => fun h => by omega
  | k + 1 => fun h => by
    unfold fi at h ⊢
    by_cases h1 : fi s x k < k
    · rw [if_pos h1] at h ⊢; exact fi_at k h1
    · rw [if_neg h1] at h ⊢
      by_cases h2 : s k = x
      · rw [if_pos h2]; exact h2
      · rw [if_neg h2] at h; omega
theorem fi_before : ∀ k j, j < fi s x k → s j ≠ x
  | 0, j => fun h => by simp [fi] at h
  | k + 1, j => fun h => by
    unfold fi at h
    by_cases h1 : fi s x k < k
    · rw [if_pos h1] at h; exact fi_before k j h
    · rw [if_neg h1] at h
      have hk : fi s x k = k := by have := fi_le s x k; omega
      by_cases h2 : s k = x
      · rw [if_pos h2] at h; exact fi_before k j (by omega)
      · rw [if_neg h2] at h
        by_cases e : j = k
        · subst e; exact h2
        · exact fi_before k j (by omega)
theorem fi_le_of {k j : Nat} (h : s j = x) (hj : j < k) : fi s x k ≤ j := by
  apply Classical.byContradiction
  intro hn
  exact fi_before s x k j (by omega) h
theorem fi_stable {k j : Nat} (hj : fi s x k < k) (h : k ≤ j) : fi s x j = fi s x k := by
  induction j with
  | zero => have : k = 0 := by omega
            subst this; rfl
  | succ j ih =>
    by_cases e : k = j + 1
    · subst e; rfl
    · have := ih (by omega)
      show (if fi s x j < j then fi s x j else if s j = x then j else j + 1) = _
      rw [if_pos (by omega), this]
theorem cnt_zero_iff : ∀ k, cnt s x k = 0 ↔ fi s x k = k
  | 0 => by simp [cnt, fi]
  | k + 1 => by
    have ih := cnt_zero_iff k
    have hl := fi_le s x k
    unfold cnt fi
    by_cases h1 : fi s x k < k
    · rw [if_pos h1]
      have : cnt s x k ≠ 0 := fun e => by have := ih.1 e; omega
      constructor
      · intro h; omega
      · intro h; omega
    · rw [if_neg h1]
      have : cnt s x k = 0 := ih.2 (by omega)
      by_cases h2 : s k = x
      · rw [if_pos h2, if_pos h2]; omega
      · rw [if_neg h2, if_neg h2]; omega
theorem nb_mono : ∀ {a b : Nat}, a ≤ b → nb s a ≤ nb s b := by
  intro a b h
  induction b with
  | zero => have : a = 0 := by omega
            subst this; exact Nat.le_refl _
  | succ b ih =>
    by_cases e : a = b + 1
    · subst e; exact Nat.le_refl _
    · have := ih (by omega)
      show nb s a ≤ nb s b + _
      omega
theorem fi_new {k : Nat} (h : fi s x k < k) : fi s (s (fi s x k)) (fi s x k) = fi s x k := by
  have hat := fi_at s x k h
  have hle := fi_le s (s (fi s x k)) (fi s x k)
  apply Classical.byContradiction
  intro hn
  have hlt : fi s (s (fi s x k)) (fi s x k) < fi s x k := by omega
  have := fi_at s (s (fi s x k)) (fi s x k) hlt
  exact fi_before s x k _ hlt (this.trans hat)
theorem nb_new {a : Nat} (h : fi s (s a) a = a) : nb s (a + 1) = nb s a + 1 := by
  show nb s a + (if fi s (s a) a = a then 1 else 0) = _
  rw [if_pos h]
/-- The first of i's site, seen from any place behind i. -/
theorem fi_self (i k : Nat) (h : i < k) : fi s (s i) k = fi s (s i) i := by
  have h1 : fi s (s i) (i + 1) = fi s (s i) i := by
    have hl := fi_le s (s i) i
    by_cases h1 : fi s (s i) i < i
    · show (if fi s (s i) i < i then _ else _) = _
      rw [if_pos h1]
    · show (if fi s (s i) i < i then _ else if s i = s i then i else i + 1) = _
      rw [if_neg h1, if_pos rfl]; omega
  have h2 : fi s (s i) (i + 1) < i + 1 := by rw [h1]; have := fi_le s (s i) i; omega
  rw [fi_stable s (s i) h2 h, h1]
theorem sn_eq {i k : Nat} (h : i < k) : sn s i = nb s (fi s (s i) k) := by rw [sn, fi_self s i k h]
theorem sn_same {i j : Nat} (h : s i = s j) : sn s i = sn s j := by
  rw [sn_eq s (k := i + j + 1) (by omega), sn_eq s (i := j) (k := i + j + 1) (by omega), h]
theorem sn_lt {j k : Nat} (h : j < k) : sn s j < nb s k := by
  have hf : fi s (s j) k < k := by have := fi_le_of s (s j) rfl h; omega
  rw [sn_eq s h]
  have h1 := nb_new s (fi_new s (s j) hf)
  have h2 := nb_mono s (a := fi s (s j) k + 1) (b := k) (by omega)
  omega
theorem sn_inj {i j : Nat} (h : sn s i = sn s j) : s i = s j := by
  have hi : i < i + j + 1 := by omega
  have hj : j < i + j + 1 := by omega
  rw [sn_eq s hi, sn_eq s hj] at h
  have fi1 : fi s (s i) (i + j + 1) < i + j + 1 := by have := fi_le_of s (s i) rfl hi; omega
  have fj1 : fi s (s j) (i + j + 1) < i + j + 1 := by have := fi_le_of s (s j) rfl hj; omega
  have ai := fi_at s (s i) _ fi1
  have aj := fi_at s (s j) _ fj1
  have ni := nb_new s (fi_new s (s i) fi1)
  have nj := nb_new s (fi_new s (s j) fj1)
  have e : fi s (s i) (i + j + 1) = fi s (s j) (i + j + 1) := by
    apply Classical.byContradiction
    intro hne
    rcases Nat.lt_or_gt_of_ne hne with hlt | hgt
    · have := nb_mono s (a := fi s (s i) (i + j + 1) + 1) (b := fi s (s j) (i + j + 1)) (by omega)
      omega
    · have := nb_mono s (a := fi s (s j) (i + j + 1) + 1) (b := fi s (s i) (i + j + 1)) (by omega)
      omega
  rw [← ai, ← aj, e]
/-- A site that is new at k takes the next number. -/
theorem sn_new {k : Nat} (h : fi s (s k) k = k) : sn s k = nb s k := by rw [sn, h]
theorem new_iff (k : Nat) : cnt s (s k) k = 0 ↔ fi s (s k) k = k := cnt_zero_iff s (s k) k
end

section
variable (o : Nat → Int) (y : Nat → List UInt8) (b : List UInt8)
theorem lastW_lt : ∀ k, -1 ≤ lastW o y b k ∧ lastW o y b k < k
  | 0 => by simp [lastW]
  | k + 1 => by have := lastW_lt k; unfold lastW; split <;> omega
end
end Go.Proofs.Qxb6603687a
