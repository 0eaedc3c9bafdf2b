/-
  The key [2]int (type 85) of writesOf's map 'slot'.
-/
import Derived.Test.Qxb6603687aMaps
import Derived.Maps.Keyed
import Derived.DeepKeys4
import Derived.KernelRfl
namespace Go.Proofs.Qxb6603687a
open Go.RowKit Go.Maps
set_option linter.unusedVariables false

theorem laid85 : laidOutB Try.prog = true := by kernel_rfl
theorem row85 : (85 : TypeId) < Try.prog.types.size := of_decide_eq_true (by kernel_rfl)
theorem deep85 : Try.prog.keyTypeAt 2 85 = true := by kernel_rfl
theorem cells85 : Try.prog.cellsOf 85 = 2 := by kernel_rfl
theorem wide85 : (match Try.prog.underlying 85 with | some (.array _ _) | some (.struct _) => true | _ => false) = true := by kernel_rfl
theorem law85 : Keyed Try.prog 85 := Keyed.of_law (deep_law_laid laid85 (m := 2) (by omega) row85 deep85 wide85)
/-- The key of (x, s). -/
def kv (x s : Int) : Value := .agg #[.int .i64 x, .int .i64 s]
def kl (x s : Int) : Lit := .string (keyBytes [.int .i64 x, .int .i64 s])
theorem size85 : Try.prog.types.size + 1 = 118 := by kernel_rfl
theorem key85 : Try.prog.keyType 85 = true := by kernel_rfl
theorem cells3k : Try.prog.cellsOf 3 = 1 := by kernel_rfl
theorem lits3 (z : Int) (hz : (Lit.int .i64 z).wf = true) : Try.prog.keyLits 117 3 [.int .i64 z] = some [.int .i64 z] := by
  show Try.prog.keyLits (116 + 1) 3 [.int .i64 z] = _
  unfold Program.keyLits
  rw [Try.underlying3]
  simp [hz]
theorem lits85 {x s : Int} (hx : (Lit.int .i64 x).wf = true) (hs : (Lit.int .i64 s).wf = true) : Try.prog.keyLits 118 85 [.int .i64 x, .int .i64 s] = some [.int .i64 x, .int .i64 s] := by
  show Try.prog.keyLits (117 + 1) 85 [.int .i64 x, .int .i64 s] = _
  unfold Program.keyLits
  rw [Try.underlying85]
  simp [cells85, cells3k, List.range, List.range.loop, lits3 x hx, lits3 s hs]
theorem key_of {x s : Int} (hx : (Lit.int .i64 x).wf = true) (hs : (Lit.int .i64 s).wf = true) : keyOf Try.prog 85 (kv x s) = some (kl x s) := by
  have hf : (kv x s).formed Try.prog 85 = true := by simp [kv, Value.formed, Try.underlying85, cells85]
  unfold keyOf
  rw [Try.underlying85, size85]
  show (if (Try.prog.keyType 85 && (kv x s).formed Try.prog 85) = true then (Try.prog.keyLits 118 85 [.int .i64 x, .int .i64 s]).map fun ls => Lit.string (keyBytes ls) else none) = _
  rw [key85, hf, lits85 hx hs]
  rfl
theorem kl_inj {x s x' s' : Int} (hx : (Lit.int .i64 x).wf = true) (hs : (Lit.int .i64 s).wf = true) (hx' : (Lit.int .i64 x').wf = true) (hs' : (Lit.int .i64 s').wf = true) (h : kl x s = kl x' s') : x = x' ∧ s = s' := by
  have h1 := key_of hx hs
  have h2 := key_of hx' hs'
  rw [← h] at h2
  have := law85.inj h1 h2
  simp [kv] at this
  exact this
end Go.Proofs.Qxb6603687a
