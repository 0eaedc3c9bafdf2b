/-
  eqI32 (27), at two rows of the same numbers.
-/
import Derived.Test.Qxb6603687aRowFn
import Derived.WalkKit
import Derived.Deep.QuietTactic
import Derived.BigQuiet
namespace Go.Proofs.Qxb6603687a
open Go.RowKit Go.Maps
set_option linter.unusedVariables false

set_option maxHeartbeats 1000000 in
theorem eqI32_same (w : World) (g g' n : Nat) (f : Nat → Int) (hn : n ≤ 4096) (h1 : RowFn w g 21 .i32 n f) (h2 : RowFn w g' 21 .i32 n f) :
    Calls Try.prog 27 #[.slice (some ⟨g, 0, none⟩) n n, .slice (some ⟨g', 0, none⟩) n n] w fun e w' => e = .returned (.bool true) ∧ w.grownBy w' none := by
  go_enter Try.func27, Try.ntmps27
  go_wp2
  go_loopw [5] (fun i wr => ∃ k : Nat, k ≤ n ∧ i = .int .i64 k ∧ w.grownBy wr none) (fun i _ => n - (intOf i).toNat)
  case atStart => exact ⟨0, Nat.zero_le _, rfl, grownBy_drewN w 0⟩
  case round =>
    obtain ⟨k, hk, rfl, hg⟩ := hrel
    by_cases hlt : k < n
    · have c1 := (h1.kept hg (by simp)).cell hlt
      have c2 := (h2.kept hg (by simp)).cell hlt
      go_wp2
      go_quiet (fail)
      go_wp2
      go_roundw
      case rel => exact ⟨k + 1, by omega, by go_num, hg.trans (grownBy_drewN _ _)⟩
      case measure => simp [intOf]; omega
    · go_wp2
      go_ret
      exact ⟨rfl, hg⟩
end Go.Proofs.Qxb6603687a
