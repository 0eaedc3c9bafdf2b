/-
  FnWritesOfExact (3): the law's blocks, by their numbers.
-/
import Derived.Test.Qxb6603687aLaw3Plain
namespace Go.Proofs.Qxb6603687a
set_option linter.unusedVariables false

/-- The block of number n, in a piece of code. -/
def blkIn (n : Nat) : Code → Option Code
  | .seq a b => (blkIn n a).or (blkIn n b)
  | .cond _ a b => (blkIn n a).or (blkIn n b)
  | .block m c => if m = n then some (.block m c) else blkIn n c
  | .loop c => blkIn n c
  | _ => none
/-- The region of number n, in a piece of code. -/
def regIn (n : Nat) : Code → Option Code
  | .seq a b => (regIn n a).or (regIn n b)
  | .cond _ a b => (regIn n a).or (regIn n b)
  | .block _ c => regIn n c
  | .loop c => regIn n c
  | .region m ops b => if m = n then some (.region m ops b) else none
  | _ => none
end Go.Proofs.Qxb6603687a
