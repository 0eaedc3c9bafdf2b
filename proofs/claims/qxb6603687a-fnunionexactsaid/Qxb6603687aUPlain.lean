/-
  The union's plain law: no Go in sight.
-/
import Derived.Test.Qxb6603687aWdRead
namespace Go.Proofs.Qxb6603687a
open Go.RowKit Go.Maps
set_option linter.unusedVariables false

def orB (x y : Int) : Int := bits .or .u64 x y
def andB (x y : Int) : Int := bits .and .u64 x y
theorem ofInt_u64 {x : Int} (h : (Lit.int .u64 x).wf = true) : IntKind.u64.wrap ((BitVec.ofInt 64 x).toNat : Int) = x := by
  have b := bounds_u64 h
  rw [BitVec.toNat_ofInt, IntKind.wrap_u64]
  omega
theorem orB_zero {x : Int} (h : (Lit.int .u64 x).wf = true) : orB x 0 = x := by
  have e : (BitVec.ofInt 64 x ||| BitVec.ofInt 64 0) = BitVec.ofInt 64 x := by simp
  show IntKind.u64.wrap ((BitVec.ofInt 64 x ||| BitVec.ofInt 64 0).toNat : Int) = x
  rw [e]
  exact ofInt_u64 h
theorem zero_orB {x : Int} (h : (Lit.int .u64 x).wf = true) : orB 0 x = x := by
  have e : (BitVec.ofInt 64 0 ||| BitVec.ofInt 64 x) = BitVec.ofInt 64 x := by simp
  show IntKind.u64.wrap ((BitVec.ofInt 64 0 ||| BitVec.ofInt 64 x).toNat : Int) = x
  rw [e]
  exact ofInt_u64 h

/-! ### sets as lists of cells -/
def flatW (S : Wd) : Nat → List Value
  | 0 => []
  | k + 1 => flatW S k ++ [.int .i64 (S.ix k), .int .u64 (S.bt k)]
theorem flatW_length (S : Wd) : ∀ k, (flatW S k).length = k * 2
  | 0 => rfl
  | k + 1 => by unfold flatW; rw [List.length_append, flatW_length S k]; simp; omega
theorem flatW_congr {S T : Wd} : ∀ {k : Nat}, (∀ i, i < k → S.ix i = T.ix i ∧ S.bt i = T.bt i) → flatW S k = flatW T k
  | 0, _ => rfl
  | k + 1, h => by
    unfold flatW
    rw [flatW_congr (fun i hi => h i (by omega)), (h k (by omega)).1, (h k (by omega)).2]
theorem flatW_at (S : Wd) : ∀ {n k : Nat}, k < n → (flatW S n)[k * 2]? = some (.int .i64 (S.ix k)) ∧ (flatW S n)[k * 2 + 1]? = some (.int .u64 (S.bt k))
  | 0, k, h => by omega
  | n + 1, k, h => by
    unfold flatW
    have hl := flatW_length S n
    by_cases e : k = n
    · subst e
      rw [List.getElem?_append_right (by omega), List.getElem?_append_right (by omega), hl]
      simp
    · have ih := flatW_at S (n := n) (k := k) (by omega)
      rw [List.getElem?_append_left (by omega), List.getElem?_append_left (by omega)]
      exact ih
theorem HoldsW.flat {C : Array Value} {S : Wd} (h : HoldsW C S S.n) : C.toList = flatW S S.n := by
  apply List.ext_getElem?
  intro i
  have hs := h.size
  have hl := flatW_length S S.n
  by_cases hi : i < S.n * 2
  · obtain ⟨k, hk⟩ : ∃ k, i = k * 2 ∨ i = k * 2 + 1 := ⟨i / 2, by omega⟩
    have hkn : k < S.n := by omega
    have h1 := h.at_ k hkn
    have h2 := flatW_at S (n := S.n) hkn
    rcases hk with rfl | rfl
    · rw [h2.1, Array.getElem?_toList, h1.1]
    · rw [h2.2, Array.getElem?_toList, h1.2]
  · rw [List.getElem?_eq_none (by simp; omega), List.getElem?_eq_none (by omega)]
def snoc (S : Wd) (x v : Int) : Wd := ⟨S.n + 1, fun k => if k = S.n then x else S.ix k, fun k => if k = S.n then v else S.bt k⟩
theorem snoc_flat (S : Wd) (x v : Int) : flatW (snoc S x v) (snoc S x v).n = flatW S S.n ++ [.int .i64 x, .int .u64 v] := by
  show flatW (snoc S x v) S.n ++ [.int .i64 (if S.n = S.n then x else S.ix S.n), .int .u64 (if S.n = S.n then v else S.bt S.n)] = _
  rw [if_pos rfl, if_pos rfl, flatW_congr (S := snoc S x v) (T := S) (fun i hi => ⟨if_neg (by omega), if_neg (by omega)⟩)]

/-! ### the counts -/
def ca (A B : Wd) (L : Int → Int) : Nat → Nat
  | 0 => 0
  | i + 1 => ca A B L i + if andB (orB (A.bt i) (bitsOf B (A.ix i))) (L (A.ix i)) = 0 then 0 else 1
def cb (A B : Wd) (L : Int → Int) : Nat → Nat
  | 0 => 0
  | j + 1 => cb A B L j + if inOf A (B.ix j) = false ∧ andB (B.bt j) (L (B.ix j)) ≠ 0 then 1 else 0
theorem ca_le (A B : Wd) (L : Int → Int) : ∀ i, ca A B L i ≤ i
  | 0 => Nat.le_refl _
  | i + 1 => by have := ca_le A B L i; unfold ca; split <;> omega
theorem cb_le (A B : Wd) (L : Int → Int) : ∀ i, cb A B L i ≤ i
  | 0 => Nat.le_refl _
  | i + 1 => by have := cb_le A B L i; unfold cb; split <;> omega
/-- What index x has in the union. -/
def want (A B : Wd) (L : Int → Int) (x : Int) : Int := andB (orB (bitsOf A x) (bitsOf B x)) (L x)

structure UInv (A B D : Wd) (L : Int → Int) (i j : Nat) (O : Wd) : Prop where
  n : O.n = D.n + ca A B L i + cb A B L j
  pre : ∀ k, k < D.n → O.ix k = D.ix k ∧ O.bt k = D.bt k
  inc : ∀ k, D.n ≤ k → k + 1 < O.n → O.ix k < O.ix (k + 1)
  val : ∀ k, D.n ≤ k → k < O.n → O.bt k = want A B L (O.ix k) ∧ O.bt k ≠ 0
  lowA : ∀ k, D.n ≤ k → k < O.n → ∀ i', i ≤ i' → i' < A.n → O.ix k < A.ix i'
  lowB : ∀ k, D.n ≤ k → k < O.n → ∀ j', j ≤ j' → j' < B.n → O.ix k < B.ix j'
  sepA : ∀ i', i' < i → ∀ j', j ≤ j' → j' < B.n → A.ix i' < B.ix j'
  sepB : ∀ j', j' < j → ∀ i', i ≤ i' → i' < A.n → B.ix j' < A.ix i'
theorem uinv_start (A B D : Wd) (L : Int → Int) : UInv A B D L 0 0 D :=
  ⟨rfl, fun k _ => ⟨rfl, rfl⟩, fun k h1 h2 => by omega, fun k h1 h2 => by omega, fun k h1 h2 => by omega, fun k h1 h2 => by omega, fun i' h => by omega, fun j' h => by omega⟩

section
variable {A B D : Wd} {L : Int → Int} {i j : Nat} {O : Wd}
theorem UInv.skip (h : UInv A B D L i j O) {x : Int} {i2 j2 : Nat}
    (hi : i2 = i ∨ (i2 = i + 1 ∧ A.ix i = x)) (hj : j2 = j ∨ (j2 = j + 1 ∧ B.ix j = x))
    (gA : ∀ i', i2 ≤ i' → i' < A.n → x < A.ix i') (gB : ∀ j', j2 ≤ j' → j' < B.n → x < B.ix j')
    (hc : ca A B L i2 + cb A B L j2 = ca A B L i + cb A B L j) : UInv A B D L i2 j2 O := by
  refine ⟨by rw [h.n]; omega, h.pre, h.inc, h.val, fun k h1 h2 i' h3 h4 => h.lowA k h1 h2 i' (by omega) h4, fun k h1 h2 j' h3 h4 => h.lowB k h1 h2 j' (by omega) h4, ?_, ?_⟩
  · intro i' h1 j' h2 h3
    by_cases e : i' < i
    · exact h.sepA i' e j' (by omega) h3
    · have : i' = i := by omega
      subst this
      rcases hi with hi | ⟨_, hi⟩
      · omega
      · rw [hi]; exact gB j' h2 h3
  · intro j' h1 i' h2 h3
    by_cases e : j' < j
    · exact h.sepB j' e i' (by omega) h3
    · have : j' = j := by omega
      subst this
      rcases hj with hj | ⟨_, hj⟩
      · omega
      · rw [hj]; exact gA i' h2 h3
theorem UInv.put (h : UInv A B D L i j O) {x v : Int} {i2 j2 : Nat}
    (hi : i2 = i ∨ (i2 = i + 1 ∧ A.ix i = x)) (hj : j2 = j ∨ (j2 = j + 1 ∧ B.ix j = x))
    (hx : (i < A.n ∧ A.ix i = x) ∨ (j < B.n ∧ B.ix j = x))
    (gA : ∀ i', i2 ≤ i' → i' < A.n → x < A.ix i') (gB : ∀ j', j2 ≤ j' → j' < B.n → x < B.ix j')
    (hv : v = want A B L x) (hv0 : v ≠ 0)
    (hc : ca A B L i2 + cb A B L j2 = ca A B L i + cb A B L j + 1) : UInv A B D L i2 j2 (snoc O x v) := by
  have hDO : D.n ≤ O.n := by rw [h.n]; omega
  have lt : ∀ k, D.n ≤ k → k < O.n → O.ix k < x := fun k h1 h2 => by
    rcases hx with ⟨a, b⟩ | ⟨a, b⟩
    · rw [← b]; exact h.lowA k h1 h2 i (Nat.le_refl _) a
    · rw [← b]; exact h.lowB k h1 h2 j (Nat.le_refl _) a
  have old : ∀ k, k < O.n → (snoc O x v).ix k = O.ix k ∧ (snoc O x v).bt k = O.bt k := fun k hk => ⟨if_neg (by omega), if_neg (by omega)⟩
  have new : (snoc O x v).ix O.n = x ∧ (snoc O x v).bt O.n = v := ⟨if_pos rfl, if_pos rfl⟩
  have hn : (snoc O x v).n = O.n + 1 := rfl
  refine ⟨by rw [hn, h.n]; omega, fun k hk => ?_, fun k h1 h2 => ?_, fun k h1 h2 => ?_, fun k h1 h2 i' h3 h4 => ?_, fun k h1 h2 j' h3 h4 => ?_, ?_, ?_⟩
  · rw [(old k (by omega)).1, (old k (by omega)).2]; exact h.pre k hk
  · rw [hn] at h2
    rw [(old k (by omega)).1]
    by_cases e : k + 1 = O.n
    · rw [e, new.1]; exact lt k h1 (by omega)
    · rw [(old (k + 1) (by omega)).1]; exact h.inc k h1 (by omega)
  · rw [hn] at h2
    by_cases e : k = O.n
    · subst e; rw [new.1, new.2]; exact ⟨hv, hv0⟩
    · rw [(old k (by omega)).1, (old k (by omega)).2]; exact h.val k h1 (by omega)
  · rw [hn] at h2
    by_cases e : k = O.n
    · subst e; rw [new.1]; exact gA i' h3 h4
    · rw [(old k (by omega)).1]; exact h.lowA k h1 (by omega) i' (by omega) h4
  · rw [hn] at h2
    by_cases e : k = O.n
    · subst e; rw [new.1]; exact gB j' h3 h4
    · rw [(old k (by omega)).1]; exact h.lowB k h1 (by omega) j' (by omega) h4
  · intro i' h1 j' h2 h3
    by_cases e : i' < i
    · exact h.sepA i' e j' (by omega) h3
    · have : i' = i := by omega
      subst this
      rcases hi with hi | ⟨_, hi⟩
      · omega
      · rw [hi]; exact gB j' h2 h3
  · intro j' h1 i' h2 h3
    by_cases e : j' < j
    · exact h.sepB j' e i' (by omega) h3
    · have : j' = j := by omega
      subst this
      rcases hj with hj | ⟨_, hj⟩
      · omega
      · rw [hj]; exact gA i' h2 h3

/-- The word of a comes next: it is in no word of b. -/
theorem UInv.nextA (hA : Sorted A) (hB : Sorted B) (h : UInv A B D L i j O) (wA : ∀ k, k < A.n → (Lit.int .u64 (A.bt k)).wf = true) (hi : i < A.n) (hlt : B.n ≤ j ∨ A.ix i < B.ix j) :
    (andB (A.bt i) (L (A.ix i)) = 0 → UInv A B D L (i + 1) j O) ∧ (andB (A.bt i) (L (A.ix i)) ≠ 0 → UInv A B D L (i + 1) j (snoc O (A.ix i) (andB (A.bt i) (L (A.ix i))))) := by
  have gB : ∀ j', j ≤ j' → j' < B.n → A.ix i < B.ix j' := fun j' h1 h2 => by
    rcases hlt with hl | hl
    · omega
    · by_cases e : j' = j
      · subst e; exact hl
      · have := hB.lt (i := j) (j := j') (by omega) h2; omega
  have gA : ∀ i', i + 1 ≤ i' → i' < A.n → A.ix i < A.ix i' := fun i' h1 h2 => hA.lt (by omega) h2
  have hno : ∀ j', j' < B.n → B.ix j' ≠ A.ix i := fun j' h1 e => by
    by_cases h2 : j' < j
    · have := h.sepB j' h2 i (Nat.le_refl _) hi; omega
    · have := gB j' (by omega) h1; omega
  have hb := bitsOf_no hno
  have ha := bitsOf_yes hA hi rfl
  have hor : orB (A.bt i) (bitsOf B (A.ix i)) = A.bt i := by rw [hb, orB_zero (wA i hi)]
  have hca : ca A B L (i + 1) = ca A B L i + if andB (A.bt i) (L (A.ix i)) = 0 then 0 else 1 := by
    show ca A B L i + _ = _
    rw [hor]
  refine ⟨fun e => h.skip (.inr ⟨rfl, rfl⟩) (.inl rfl) gA gB (by rw [hca, if_pos e]; omega), fun e => h.put (.inr ⟨rfl, rfl⟩) (.inl rfl) (.inl ⟨hi, rfl⟩) gA gB ?_ e (by rw [hca, if_neg e]; omega)⟩
  unfold want
  rw [ha, hor]
theorem UInv.nextB (hA : Sorted A) (hB : Sorted B) (h : UInv A B D L i j O) (wB : ∀ k, k < B.n → (Lit.int .u64 (B.bt k)).wf = true) (hj : j < B.n) (hlt : A.n ≤ i ∨ B.ix j < A.ix i) :
    (andB (B.bt j) (L (B.ix j)) = 0 → UInv A B D L i (j + 1) O) ∧ (andB (B.bt j) (L (B.ix j)) ≠ 0 → UInv A B D L i (j + 1) (snoc O (B.ix j) (andB (B.bt j) (L (B.ix j))))) := by
  have gA : ∀ i', i ≤ i' → i' < A.n → B.ix j < A.ix i' := fun i' h1 h2 => by
    rcases hlt with hl | hl
    · omega
    · by_cases e : i' = i
      · subst e; exact hl
      · have := hA.lt (i := i) (j := i') (by omega) h2; omega
  have gB : ∀ j', j + 1 ≤ j' → j' < B.n → B.ix j < B.ix j' := fun j' h1 h2 => hB.lt (by omega) h2
  have hno : ∀ i', i' < A.n → A.ix i' ≠ B.ix j := fun i' h1 e => by
    by_cases h2 : i' < i
    · have := h.sepA i' h2 j (Nat.le_refl _) hj; omega
    · have := gA i' (by omega) h1; omega
  have ha := bitsOf_no hno
  have hin := inOf_no hno
  have hb := bitsOf_yes hB hj rfl
  have hcb : cb A B L (j + 1) = cb A B L j + if andB (B.bt j) (L (B.ix j)) = 0 then 0 else 1 := by
    show cb A B L j + (if inOf A (B.ix j) = false ∧ andB (B.bt j) (L (B.ix j)) ≠ 0 then 1 else 0) = _
    by_cases e : andB (B.bt j) (L (B.ix j)) = 0
    · rw [if_pos e, if_neg (fun x => x.2 e)]
    · rw [if_neg e, if_pos ⟨hin, e⟩]
  refine ⟨fun e => h.skip (.inl rfl) (.inr ⟨rfl, rfl⟩) gA gB (by rw [hcb, if_pos e]; rfl), fun e => h.put (.inl rfl) (.inr ⟨rfl, rfl⟩) (.inr ⟨hj, rfl⟩) gA gB ?_ e (by rw [hcb, if_neg e]; omega)⟩
  unfold want
  rw [ha, hb, zero_orB (wB j hj)]
theorem UInv.nextC (hA : Sorted A) (hB : Sorted B) (h : UInv A B D L i j O) (hi : i < A.n) (hj : j < B.n) (he : A.ix i = B.ix j) :
    (andB (orB (A.bt i) (B.bt j)) (L (A.ix i)) = 0 → UInv A B D L (i + 1) (j + 1) O) ∧ (andB (orB (A.bt i) (B.bt j)) (L (A.ix i)) ≠ 0 → UInv A B D L (i + 1) (j + 1) (snoc O (A.ix i) (andB (orB (A.bt i) (B.bt j)) (L (A.ix i))))) := by
  have gA : ∀ i', i + 1 ≤ i' → i' < A.n → A.ix i < A.ix i' := fun i' h1 h2 => hA.lt (by omega) h2
  have gB : ∀ j', j + 1 ≤ j' → j' < B.n → A.ix i < B.ix j' := fun j' h1 h2 => by rw [he]; exact hB.lt (by omega) h2
  have ha := bitsOf_yes hA hi rfl
  have hb := bitsOf_yes hB hj he.symm
  have hin := inOf_yes hA hi he
  have hcb : cb A B L (j + 1) = cb A B L j := by
    show cb A B L j + (if inOf A (B.ix j) = false ∧ andB (B.bt j) (L (B.ix j)) ≠ 0 then 1 else 0) = _
    rw [if_neg (fun x => by rw [hin] at x; cases x.1)]
    rfl
  have hca : ca A B L (i + 1) = ca A B L i + if andB (orB (A.bt i) (B.bt j)) (L (A.ix i)) = 0 then 0 else 1 := by
    show ca A B L i + _ = _
    rw [hb]
  refine ⟨fun e => h.skip (.inr ⟨rfl, rfl⟩) (.inr ⟨rfl, he.symm⟩) gA gB (by rw [hcb, hca, if_pos e]; omega), fun e => h.put (.inr ⟨rfl, rfl⟩) (.inr ⟨rfl, he.symm⟩) (.inl ⟨hi, rfl⟩) gA gB ?_ e (by rw [hcb, hca, if_neg e]; omega)⟩
  unfold want
  rw [ha, hb]
end
end Go.Proofs.Qxb6603687a
