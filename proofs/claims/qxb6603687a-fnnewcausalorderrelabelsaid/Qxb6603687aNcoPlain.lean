/-
  newCausalOrder's first loop: what it has gathered after k rounds, as plain functions, and how a round turns them.
-/
import Derived.Test.Qxb6603687aPlain
import Derived.Test.Qxb6603687aMaps
namespace Go.Proofs.Qxb6603687a
open Go.Maps
set_option linter.unusedVariables false

/-- siteOf after k rounds. -/
def siteMap (s : Nat → Int) (k : Nat) : Lit → Option Value
  | .int .i64 x => if cnt s x k = 0 then none else some (.int .i32 (nb s (fi s x k) : Nat))
  | _ => none
/-- writeOf after k rounds. -/
def writeMap (o : Nat → Int) (y : Nat → List UInt8) (k : Nat) : Lit → Option Value
  | .string b => if lastW o y b k < 0 then none else some (.int .i32 (lastW o y b k))
  | _ => none

theorem cnt_pos (s : Nat → Int) (x : Int) (k : Nat) (h : cnt s x k ≠ 0) : fi s x k < k := by
  have h1 := fi_le s x k
  have h2 : fi s x k ≠ k := fun e => h ((cnt_zero_iff s x k).2 e)
  omega
theorem lastB_none (s : Nat → Int) (x : Int) : ∀ k, cnt s x k = 0 → lastB s x k = -1
  | 0, _ => rfl
  | k + 1, h => by
    unfold cnt at h
    unfold lastB
    by_cases e : s k = x
    · rw [if_pos e] at h; omega
    · rw [if_neg e] at h ⊢; exact lastB_none s x k (by omega)

theorem siteMap_hit (s : Nat → Int) (k : Nat) (h : cnt s (s k) k ≠ 0) : siteMap s k (.int .i64 (s k)) = some (.int .i32 (sn s k : Nat)) := by
  show (if cnt s (s k) k = 0 then _ else _) = _
  rw [if_neg h]
  rfl
theorem siteMap_miss (s : Nat → Int) (k : Nat) (h : cnt s (s k) k = 0) : siteMap s k (.int .i64 (s k)) = none := by
  show (if cnt s (s k) k = 0 then _ else _) = _
  rw [if_pos h]
theorem siteMap_start (s : Nat → Int) (l : Lit) : (none : Option Value) = siteMap s 0 l := by
  unfold siteMap
  split
  · rw [if_pos (show cnt s _ 0 = 0 from rfl)]
  · rfl
theorem writeMap_start (o : Nat → Int) (y : Nat → List UInt8) (l : Lit) : (none : Option Value) = writeMap o y 0 l := by
  unfold writeMap
  split
  · rw [if_pos (by simp [lastW])]
  · rfl
theorem cnt_succ_other (s : Nat → Int) {x : Int} {k : Nat} (h : s k ≠ x) : cnt s x (k + 1) = cnt s x k := by
  show cnt s x k + _ = _
  rw [if_neg h, Nat.add_zero]
theorem cnt_succ_same (s : Nat → Int) (k : Nat) : cnt s (s k) (k + 1) = cnt s (s k) k + 1 := by
  show cnt s (s k) k + _ = _
  rw [if_pos rfl]
theorem lastB_succ_other (s : Nat → Int) {x : Int} {k : Nat} (h : s k ≠ x) : lastB s x (k + 1) = lastB s x k := by
  show (if s k = x then _ else _) = _
  rw [if_neg h]
theorem lastB_succ_same (s : Nat → Int) (k : Nat) : lastB s (s k) (k + 1) = k := by
  show (if s k = s k then _ else _) = _
  rw [if_pos rfl]
/-- A site met before: nothing turns in siteOf. -/
theorem siteMap_old (s : Nat → Int) (k : Nat) (h : cnt s (s k) k ≠ 0) (l : Lit) : siteMap s k l = siteMap s (k + 1) l := by
  unfold siteMap
  split
  · rename_i x
    by_cases e : s k = x
    · subst e
      rw [if_neg h, if_neg (by rw [cnt_succ_same]; omega)]
      have hf : fi s (s k) k < k := by
        exact cnt_pos s (s k) k h
      rw [fi_stable s (s k) (j := k + 1) hf (by omega)]
    · rw [cnt_succ_other s e]
      by_cases h0 : cnt s x k = 0
      · rw [if_pos h0, if_pos h0]
      · rw [if_neg h0, if_neg h0]
        have hf : fi s x k < k := by
          exact cnt_pos s x k h0
        rw [fi_stable s x (j := k + 1) hf (by omega)]
  · rfl
/-- A new site takes the next number. -/
theorem siteMap_new (s : Nat → Int) (k : Nat) (h : cnt s (s k) k = 0) (l : Lit) : upd (siteMap s k) (.int .i64 (s k)) (.int .i32 (nb s k : Nat)) l = siteMap s (k + 1) l := by
  by_cases hl : l = .int .i64 (s k)
  · subst hl
    rw [upd_same _ _ (by trivial)]
    show _ = (if cnt s (s k) (k + 1) = 0 then _ else _)
    rw [if_neg (by rw [cnt_succ_same]; omega)]
    have hf : fi s (s k) k = k := (cnt_zero_iff s (s k) k).1 h
    have : fi s (s k) (k + 1) = k := by
      show (if fi s (s k) k < k then _ else if s k = s k then k else k + 1) = k
      rw [if_neg (by omega), if_pos rfl]
    rw [this]
  · rw [upd_other _ _ hl]
    unfold siteMap
    split
    · rename_i x
      have e : s k ≠ x := fun e => hl (by rw [e])
      rw [cnt_succ_other s e]
      by_cases h0 : cnt s x k = 0
      · rw [if_pos h0, if_pos h0]
      · rw [if_neg h0, if_neg h0]
        have hf : fi s x k < k := by
          exact cnt_pos s x k h0
        rw [fi_stable s x (j := k + 1) hf (by omega)]
    · rfl
theorem nb_old (s : Nat → Int) (k : Nat) (h : cnt s (s k) k ≠ 0) : nb s (k + 1) = nb s k := by
  show nb s k + _ = _
  rw [if_neg (fun e => h ((cnt_zero_iff s (s k) k).2 e)), Nat.add_zero]
theorem nb_next (s : Nat → Int) (k : Nat) (h : cnt s (s k) k = 0) : nb s (k + 1) = nb s k + 1 := by
  show nb s k + _ = _
  rw [if_pos ((cnt_zero_iff s (s k) k).1 h)]
theorem sn_next (s : Nat → Int) (k : Nat) (h : cnt s (s k) k = 0) : sn s k = nb s k := sn_new s ((cnt_zero_iff s (s k) k).1 h)
/-- Where k's site was met before: some earlier operation bears it. -/
theorem met (s : Nat → Int) (k : Nat) (h : cnt s (s k) k ≠ 0) : ∃ j, j < k ∧ s j = s k := by
  have hf : fi s (s k) k < k := cnt_pos s (s k) k h
  exact ⟨_, hf, fi_at s (s k) k hf⟩
theorem unmet (s : Nat → Int) (k : Nat) (h : cnt s (s k) k = 0) (j : Nat) (hj : j < k) : s j ≠ s k := fun e => by
  have hf : fi s (s k) k = k := (cnt_zero_iff s (s k) k).1 h
  exact fi_before s (s k) k j (by omega) e

/-! ### writeOf -/
theorem writeMap_old (o : Nat → Int) (y : Nat → List UInt8) (k : Nat) (h : o k ≠ 119) (l : Lit) : writeMap o y k l = writeMap o y (k + 1) l := by
  unfold writeMap
  split
  · rename_i b
    have : lastW o y b (k + 1) = lastW o y b k := by
      show (if o k = 119 ∧ y k = b then _ else _) = _
      rw [if_neg (fun e => h e.1)]
    rw [this]
  · rfl
theorem writeMap_new (o : Nat → Int) (y : Nat → List UInt8) (k : Nat) (h : o k = 119) (l : Lit) : upd (writeMap o y k) (.string (y k)) (.int .i32 (k : Int)) l = writeMap o y (k + 1) l := by
  by_cases hl : l = .string (y k)
  · subst hl
    rw [upd_same _ _ (by trivial)]
    have : lastW o y (y k) (k + 1) = k := by
      show (if o k = 119 ∧ y k = y k then _ else _) = _
      rw [if_pos ⟨h, rfl⟩]
    show _ = (if lastW o y (y k) (k + 1) < 0 then _ else _)
    rw [this, if_neg (by omega)]
  · rw [upd_other _ _ hl]
    unfold writeMap
    split
    · rename_i b
      have : lastW o y b (k + 1) = lastW o y b k := by
        show (if o k = 119 ∧ y k = b then _ else _) = _
        rw [if_neg (fun e => hl (by rw [e.2]))]
      rw [this]
    · rfl

/-! ### last and count -/
/-- The rows 'last' and 'count', seen from place k, hold m sites' numbers. -/
structure Tabs (s : Nat → Int) (m k : Nat) (x6 x7 : List Int) : Prop where
  l6 : x6.length = nb s m
  l7 : x7.length = nb s m
  a6 : ∀ j, j < m → x6[sn s j]? = some (lastB s (s j) k)
  a7 : ∀ j, j < m → x7[sn s j]? = some (cnt s (s j) k : Int)
theorem tabs_start (s : Nat → Int) : Tabs s 0 0 [] [] := ⟨rfl, rfl, fun j h => by omega, fun j h => by omega⟩
/-- A site met before: the rows already hold it. -/
theorem Tabs.old {s : Nat → Int} {k : Nat} {x6 x7 : List Int} (h : Tabs s k k x6 x7) (hm : cnt s (s k) k ≠ 0) : Tabs s (k + 1) k x6 x7 := by
  obtain ⟨i, hi, e⟩ := met s k hm
  refine ⟨by rw [h.l6, nb_old s k hm], by rw [h.l7, nb_old s k hm], fun j hj => ?_, fun j hj => ?_⟩
  · by_cases ej : j = k
    · subst ej; rw [← sn_same s e, h.a6 i hi, e]
    · exact h.a6 j (by omega)
  · by_cases ej : j = k
    · subst ej; rw [← sn_same s e, h.a7 i hi, e]
    · exact h.a7 j (by omega)
/-- A new site: one more place in each. -/
theorem Tabs.new {s : Nat → Int} {k : Nat} {x6 x7 : List Int} (h : Tabs s k k x6 x7) (hm : cnt s (s k) k = 0) : Tabs s (k + 1) k (x6 ++ [-1]) (x7 ++ [0]) := by
  refine ⟨by simp [h.l6, nb_next s k hm], by simp [h.l7, nb_next s k hm], fun j hj => ?_, fun j hj => ?_⟩
  · by_cases ej : j = k
    · subst ej
      rw [sn_next s j hm, ← h.l6, lastB_none s (s j) j hm]
      simp
    · have := sn_lt s (j := j) (k := k) (by omega)
      rw [List.getElem?_append_left (by rw [h.l6]; exact this)]
      exact h.a6 j (by omega)
  · by_cases ej : j = k
    · subst ej
      rw [sn_next s j hm, ← h.l7, hm]
      simp
    · have := sn_lt s (j := j) (k := k) (by omega)
      rw [List.getElem?_append_left (by rw [h.l7]; exact this)]
      exact h.a7 j (by omega)
/-- The two stores of a round. -/
theorem Tabs.next {s : Nat → Int} {k : Nat} {x6 x7 : List Int} (h : Tabs s (k + 1) k x6 x7) : Tabs s (k + 1) (k + 1) (x6.set (sn s k) (k : Int)) (x7.set (sn s k) ((cnt s (s k) k : Int) + 1)) := by
  have hk := sn_lt s (j := k) (k := k + 1) (by omega)
  refine ⟨by rw [List.length_set, h.l6], by rw [List.length_set, h.l7], fun j hj => ?_, fun j hj => ?_⟩
  · by_cases e : sn s j = sn s k
    · have es := sn_inj s e
      rw [e, List.getElem?_set_self (by rw [h.l6]; exact hk), es, lastB_succ_same]
    · have es : s k ≠ s j := fun x => e (sn_same s x.symm)
      rw [List.getElem?_set_ne (fun x => e x.symm), h.a6 j hj, lastB_succ_other s es]
  · by_cases e : sn s j = sn s k
    · have es := sn_inj s e
      rw [e, List.getElem?_set_self (by rw [h.l7]; exact hk), es, cnt_succ_same]
      simp
    · have es : s k ≠ s j := fun x => e (sn_same s x.symm)
      rw [List.getElem?_set_ne (fun x => e x.symm), h.a7 j hj, cnt_succ_other s es]
end Go.Proofs.Qxb6603687a
