/-
  No cell of these rows narrows 'for every input' (looked for: loops, veiled, ifaces, maps, wideKeys, modest, calm, conditions, laid).
  DERIVED. THE GIVEN ROWS OF THIS SEAT. 4 by the template 'for every input the law returns true; each argument reads behind the call as it read before'; 0 by the template 'total and deterministic' (their statements: Qxb6603687aTotals.lean).
  GIVEN WITH THE SEED: the statements are not yours to turn. If you find one false, say at which input.
  Laid BY PROGRAM, IN A SANDBOX (cutbox-rows.mjs): the forced cells as the released guide's own fill.sh prints them over the translation 2543902d468e4fb4… (all of the seat's roots in one cut). By AI agents, Wed Nov 11 2026. No macro, syntax, notation, axiom, sorry.
-/
import Derived.Test.Qxb6603687aChecked
import GoSem.Claim
import GoSem.ClaimJoined
import GoSem.ClaimMapViews
import Derived.JoinedTies
import Derived.KernelRfl
namespace Go.Proofs.Qxb6603687a
/- THE CELL 'sum', in the pinned program and in every row, IS THE sha256 OF THE DUMP (.gsa) THAT Qxb6603687aProg.lean LOADS. Nothing in Lean hashes anything: it is a label: what it is worth is what the hold of that sum in a sandbox is worth. -/
noncomputable def Try.pinned : Pinned := { name := "qxb6603687a", sum := "2543902d468e4fb413d2084754b5b634b786eb258bbd7538b027161156772037", checked := Try.checked }
namespace Rows
def none {H : Type} : Left H := { results := [], args := [] }

/-- 'zzlaws_checker_b1.FnWritesOfExact': WHATEVER THE INPUT: true; the input reads as it did. -/
def fnWritesOfExactSpec : ChangeSpec := { name := "fnWritesOfExact", fn := fun _ => fun
  | [d1, d2] => { results := [.lit (.bool true)], args := [d1, d2] }
  | _ => none }
def fnWritesOfExactRow : OpenClaim := { program := "qxb6603687a", sum := "2543902d468e4fb413d2084754b5b634b786eb258bbd7538b027161156772037", func := "example.com/antecedent/antecedent/zzlaws_checker_b1.FnWritesOfExact", spec := "fnWritesOfExact", plainKeys := false, apart := false }
def FnWritesOfExactSaid : Prop := fnWritesOfExactRow.holds Try.pinned (OpenSpec.ofChange fnWritesOfExactSpec)

/-- ITS FALSE NEIGHBOUR: 'it returns false'. Refute it at one input. -/
def fnWritesOfExactWrong : ChangeSpec := { name := "fnWritesOfExact", fn := fun _ => fun
  | [d1, d2] => { results := [.lit (.bool false)], args := [d1, d2] }
  | _ => none }
def FnWritesOfExactWrongFalsely : Prop := fnWritesOfExactRow.holds Try.pinned (OpenSpec.ofChange fnWritesOfExactWrong)

/-- 'zzlaws_checker_b1.FnUnionExact': WHATEVER THE INPUT: true; the input reads as it did. -/
def fnUnionExactSpec : ChangeSpec := { name := "fnUnionExact", fn := fun _ => fun
  | [d1, d2, d3, d4, d5, d6] => { results := [.lit (.bool true)], args := [d1, d2, d3, d4, d5, d6] }
  | _ => none }
def fnUnionExactRow : OpenClaim := { program := "qxb6603687a", sum := "2543902d468e4fb413d2084754b5b634b786eb258bbd7538b027161156772037", func := "example.com/antecedent/antecedent/zzlaws_checker_b1.FnUnionExact", spec := "fnUnionExact", plainKeys := false, apart := false }
def FnUnionExactSaid : Prop := fnUnionExactRow.holds Try.pinned (OpenSpec.ofChange fnUnionExactSpec)

/-- ITS FALSE NEIGHBOUR: 'it returns false'. Refute it at one input. -/
def fnUnionExactWrong : ChangeSpec := { name := "fnUnionExact", fn := fun _ => fun
  | [d1, d2, d3, d4, d5, d6] => { results := [.lit (.bool false)], args := [d1, d2, d3, d4, d5, d6] }
  | _ => none }
def FnUnionExactWrongFalsely : Prop := fnUnionExactRow.holds Try.pinned (OpenSpec.ofChange fnUnionExactWrong)

/-- 'zzlaws_checker_b1.FnNewCausalOrderExact': WHATEVER THE INPUT: true; the input reads as it did. -/
def fnNewCausalOrderExactSpec : ChangeSpec := { name := "fnNewCausalOrderExact", fn := fun _ => fun
  | [d] => { results := [.lit (.bool true)], args := [d] }
  | _ => none }
def fnNewCausalOrderExactRow : OpenClaim := { program := "qxb6603687a", sum := "2543902d468e4fb413d2084754b5b634b786eb258bbd7538b027161156772037", func := "example.com/antecedent/antecedent/zzlaws_checker_b1.FnNewCausalOrderExact", spec := "fnNewCausalOrderExact", plainKeys := false, apart := false }
def FnNewCausalOrderExactSaid : Prop := fnNewCausalOrderExactRow.holds Try.pinned (OpenSpec.ofChange fnNewCausalOrderExactSpec)

/-- ITS FALSE NEIGHBOUR: 'it returns false'. Refute it at one input. -/
def fnNewCausalOrderExactWrong : ChangeSpec := { name := "fnNewCausalOrderExact", fn := fun _ => fun
  | [d] => { results := [.lit (.bool false)], args := [d] }
  | _ => none }
def FnNewCausalOrderExactWrongFalsely : Prop := fnNewCausalOrderExactRow.holds Try.pinned (OpenSpec.ofChange fnNewCausalOrderExactWrong)

/-- 'zzlaws_checker_b1.FnNewCausalOrderRelabel': WHATEVER THE INPUT: true; the input reads as it did. -/
def fnNewCausalOrderRelabelSpec : ChangeSpec := { name := "fnNewCausalOrderRelabel", fn := fun _ => fun
  | [d1, d2, d3] => { results := [.lit (.bool true)], args := [d1, d2, d3] }
  | _ => none }
def fnNewCausalOrderRelabelRow : OpenClaim := { program := "qxb6603687a", sum := "2543902d468e4fb413d2084754b5b634b786eb258bbd7538b027161156772037", func := "example.com/antecedent/antecedent/zzlaws_checker_b1.FnNewCausalOrderRelabel", spec := "fnNewCausalOrderRelabel", plainKeys := false, apart := false }
def FnNewCausalOrderRelabelSaid : Prop := fnNewCausalOrderRelabelRow.holds Try.pinned (OpenSpec.ofChange fnNewCausalOrderRelabelSpec)

/-- ITS FALSE NEIGHBOUR: 'it returns false'. Refute it at one input. -/
def fnNewCausalOrderRelabelWrong : ChangeSpec := { name := "fnNewCausalOrderRelabel", fn := fun _ => fun
  | [d1, d2, d3] => { results := [.lit (.bool false)], args := [d1, d2, d3] }
  | _ => none }
def FnNewCausalOrderRelabelWrongFalsely : Prop := fnNewCausalOrderRelabelRow.holds Try.pinned (OpenSpec.ofChange fnNewCausalOrderRelabelWrong)

end Rows
end Go.Proofs.Qxb6603687a
