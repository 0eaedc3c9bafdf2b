/-
  FnEqualFoldASCIIIsEquivalence: the walk of the law.
-/
import Derived.Test.Qxb6603016aFold
import Derived.WalkKit
namespace Go.Proofs.Qxb6603016a.fnEqualFoldASCIIIsEquivalence
open Go.RowKit
set_option linter.unusedVariables false      -- a walk need not use every 'w<i>' (that an integer argument fits its kind)

theorem grown_drewN (w : World) (n : Nat) : Grown w (w.drewN n) := by
  induction n with
  | zero => exact Grown.refl _
  | succ n ih => exact ih.drew
theorem bytes3_any (a b c : ByteArray) (w : World) :
    Calls Try.prog 25 #[.string a, .string b, .string c] w fun e w' => ∃ q, e = .returned (.bool q) ∧ w' = w := by
  go_enter Try.func25, Try.ntmps25
  go_wp2
  all_goals go_ret
  all_goals exact ⟨_, rfl, rfl⟩

/-! ### The walk: the law returns true; the world has at most drawn. -/
theorem walk (a0 : ByteArray) (a1 : ByteArray) (a2 : ByteArray) (w0 : a0.size ≤ maxLen) (w1 : a1.size ≤ maxLen) (w2 : a2.size ≤ maxLen) (w : World) :
    Calls Try.prog 10 #[.string a0, .string a1, .string a2] w fun e w' => e = .returned (.bool true) ∧ Grown w w' := by
  have hr : efold a0 a0 = true := by simp [efold]
  have hs : efold a1 a0 = efold a0 a1 := by unfold efold; exact decide_eq_decide.2 ⟨Eq.symm, Eq.symm⟩
  have ht : efold a0 a1 = true → efold a1 a2 = true → efold a0 a2 = true := by
    unfold efold
    intro h1 h2
    exact decide_eq_true ((of_decide_eq_true h1).trans (of_decide_eq_true h2))
  by_cases h0 : a0.size ≤ 65536
  · by_cases h1 : a1.size ≤ 65536
    · by_cases h2 : a2.size ≤ 65536
      · rcases hab : efold a0 a1 <;> rcases hbc : efold a1 a2
        all_goals (try have hac := ht hab hbc)
        all_goals clear ht
        all_goals rw [hab] at hs
        all_goals
          go_enter Try.func10, Try.ntmps10
          go_wp2_with (first | (go_at_call 25; refine (bytes3_any _ _ _ _).mono ?_; rintro e w' ⟨q, rfl, rfl⟩; cases q) | (go_at_call 22; refine (zzefold_any _ _ _ (by assumption) (by assumption)).mono ?_; rintro e w' ⟨rfl, n, rfl⟩))
        all_goals go_ret
        all_goals first | exact ⟨rfl, Grown.refl _⟩ | exact ⟨rfl, grown_drewN _ _⟩
      · go_enter Try.func10, Try.ntmps10
        go_wp2_with (go_at_call 25; refine (bytes3_any _ _ _ _).mono ?_; rintro e w' ⟨q, rfl, rfl⟩; cases q)
        all_goals go_ret
        all_goals exact ⟨rfl, Grown.refl _⟩
    · go_enter Try.func10, Try.ntmps10
      go_wp2_with (go_at_call 25; refine (bytes3_any _ _ _ _).mono ?_; rintro e w' ⟨q, rfl, rfl⟩; cases q)
      all_goals go_ret
      all_goals exact ⟨rfl, Grown.refl _⟩
  · go_enter Try.func10, Try.ntmps10
    go_wp2_with (go_at_call 25; refine (bytes3_any _ _ _ _).mono ?_; rintro e w' ⟨q, rfl, rfl⟩; cases q)
    all_goals go_ret
    all_goals exact ⟨rfl, Grown.refl _⟩


end Go.Proofs.Qxb6603016a.fnEqualFoldASCIIIsEquivalence
