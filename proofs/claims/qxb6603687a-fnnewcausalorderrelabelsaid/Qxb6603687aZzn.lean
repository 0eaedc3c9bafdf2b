/-
  ZZNewCausalOrder (25).
-/
import Derived.Test.Qxb6603687aNco2
import Derived.WalkKit
import Derived.Deep.QuietTactic
import Derived.BigQuiet
namespace Go.Proofs.Qxb6603687a
open Go.RowKit Go.Maps
set_option linter.unusedVariables false

theorem Ordered.grow {H : Hist} {w0 : World} {g0 g1 g2 g3 g4 g5 gO : Nat} {w w' : World} (h : Ordered H w0 g0 g1 g2 g3 g4 g5 gO w) (hg : w.grownBy w' none) : Ordered H w0 g0 g1 g2 g3 g4 g5 gO w' :=
  ⟨below_grown h.below hg (Nat.le_refl _) (fun k e => by cases e), h.up, h.box.kept hg (by simp), h.r0.kept hg (by simp), h.r1.kept hg (by simp), h.r2.kept hg (by simp), h.r3.kept hg (by simp), h.r4.kept hg (by simp), h.r5.kept hg (by simp)⟩
/-- The seven fields handed back. -/
def ZznPost (H : Hist) (w : World) (e : Ending) (w' : World) : Prop := ∃ g0 g1 g2 g3 g4 g5 gO, e = .returned (.tuple #[.int .i64 (nb H.s H.n : Int), .slice (some ⟨g0, 0, none⟩) H.n H.n, .slice (some ⟨g1, 0, none⟩) H.n H.n, .slice (some ⟨g2, 0, none⟩) H.n H.n, .slice (some ⟨g3, 0, none⟩) H.n H.n, .slice (some ⟨g4, 0, none⟩) H.n H.n, .slice (some ⟨g5, 0, none⟩) H.n H.n]) ∧ Ordered H w g0 g1 g2 g3 g4 g5 gO w'

set_option maxRecDepth 100000 in
set_option maxHeartbeats 1000000 in
theorem zzn_of (v : Value) (H : Hist) (w : World) (hc : Calls Try.prog 31 #[v] w fun e w' => NcoPost H w e w') :
    Calls Try.prog 25 #[v] w fun e w' => ZznPost H w e w' := by
  have HC : Hid (Calls Try.prog 31 #[v] w fun e w' => NcoPost H w e w') := hc
  clear hc
  go_enter Try.func25, Try.ntmps25
  go_wp2_with (go_at_call 31; refine HC.out.mono ?_; rintro e w1 ⟨g0, g1, g2, g3, g4, g5, gO, rfl, hord⟩; have z0 := hord.box.cellIs (j := 0) rfl; have z1 := hord.box.cellIs (j := 1) rfl; have z2 := hord.box.cellIs (j := 2) rfl; have z3 := hord.box.cellIs (j := 3) rfl; have z4 := hord.box.cellIs (j := 4) rfl; have z5 := hord.box.cellIs (j := 5) rfl; have z6 := hord.box.cellIs (j := 6) rfl)
  go_quiet (fail)
  go_wp2
  exact bodyPost_ret (v := .tuple #[.int .i64 (nb H.s H.n : Int), .slice (some ⟨g0, 0, none⟩) H.n H.n, .slice (some ⟨g1, 0, none⟩) H.n H.n, .slice (some ⟨g2, 0, none⟩) H.n H.n, .slice (some ⟨g3, 0, none⟩) H.n H.n, .slice (some ⟨g4, 0, none⟩) H.n H.n, .slice (some ⟨g5, 0, none⟩) H.n H.n]) (by simp [results, Try.results25, go_sem]) rfl ⟨g0, g1, g2, g3, g4, g5, gO, rfl, hord.grow (grownBy_drewN _ _)⟩
end Go.Proofs.Qxb6603687a
