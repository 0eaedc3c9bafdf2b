/-
  FnNewCausalOrderExact: the row's step over the walk, and the statement.
-/
import Derived.Test.Qxb6603687aLaw5
import Derived.Test.Qxb6603687aLaw5Empty
import Derived.Test.Qxb6603687aNco
import Derived.Test.Qxb6603687aOpen
import Derived.WalkKit
import Derived.ProofKit
import Derived.OpenShut
import Derived.ShutString
import Derived.ChangeOld
import Derived.Below
namespace Go.Proofs.Qxb6603687a.fnNewCausalOrderExact
open Go.ChangeShapes Go.WideShapes Go.ChangeAt Go.RowKit
open Go.ChangeMaps (open_string shut_string)
set_option linter.unusedVariables false

theorem own : ownKnob Try.prog.godebug = none := by kernel_rfl
theorem laidOut : laidOutB Try.prog = true := by kernel_rfl

/-! ### The walk: the law returns true, and writes nothing that was there. -/
set_option maxRecDepth 100000 in
set_option maxHeartbeats 1000000 in
theorem walk (a0 : Option Addr) (len0 cap0 : Nat) (w : World) (H : Hist) (hn : H.n = len0) (hin : IsOps w (.slice a0 len0 cap0) H) (hl : len0 ≤ maxLen) (hok : HistOk H) :
    Calls Try.prog 5 #[.slice a0 len0 cap0] w fun e w' => e = .returned (.bool true) ∧ Below w.heap.size w w' := by
  subst hn
  have hx : ∀ k, k < H.n → (H.x k).size ≤ 9223372036854775807 := fun k hk => by have := hok.x k hk; simpa [maxLen] using this
  by_cases hs : H.n ≤ 4096
  · have hz : ∀ v w, IsOps w v H → Calls Try.prog 25 #[v] w fun e w' => ZznPost H w e w' := fun v w h => by
      obtain ⟨ad, cap, rfl⟩ := h.form
      exact zzn_of _ H w (nco_any ad cap H w hs hok h)
    by_cases h0 : 0 < H.n
    · exact law5_main _ H w h0 hs hx hin ⟨_, _, rfl⟩ hz
    · have h00 : H.n = 0 := by omega
      rw [h00]
      exact law5_empty a0 cap0 H w h00 hz
  · unfold maxLen at hl
    go_enter Try.func5, Try.ntmps5
    go_wp2_with (go_at_call 24; refine (bytes24_any _ H _ (by omega) hx hin).mono ?_; rintro e wx ⟨⟨q, rfl, hq⟩, rfl⟩; cases q)
    all_goals go_ret
    all_goals exact ⟨rfl, Below.refl _ _⟩

/-! ### The row's step -/
set_option maxRecDepth 100000 in
theorem lifted (os : Os) (started : os.Started) (H : Type) (enc : TypeId × Value → H) :
    ReturnsInHanded {} Try.checked os 5 .any (Rows.fnNewCausalOrderExactSpec.pre6 enc Try.prog Try.f5 Rows.fnNewCausalOrderExactRow.domain false) (Rows.fnNewCausalOrderExactSpec.post enc Try.prog Try.f5 false true false false) := by
  refine returnsInHanded_of_change (C := Try.checked) own started (by kernel_rfl) Try.func5
    (ChangeSpec.witness6 (enc := enc) (C := Try.checked) false ⟨#[], #[.slice none 0 0], []⟩ 8 (by kernel_rfl) (by kernel_rfl) (by kernel_rfl) (by kernel_rfl)) ?_
  intro W base args ds gs before hval0 hW hcnd _
  have hval : ∀ (j : Nat) t v, Try.f5.params[j]? = some t → args[j]? = some v → Value.okWide Try.prog W .any base t v := hval0
  have hW' := hW
  obtain ⟨p, q, hA0, hV, rfl, hfz, hnd⟩ := hW
  have hA : DataW.TrodAll enc Try.prog W 0 (fun _ => true) true Try.f5.params.toList args.toList ds p := hA0
  rw [Try.params5] at hA hval
  obtain ⟨v0, vs0, d0, ds0, p0, q0, hargs, rfl, rfl, h0, r0⟩ := trodAll_cons hA
  obtain ⟨rfl, rfl, rfl⟩ := trodAll_nil r0
  obtain rfl : args = #[v0] := by cases args; simp_all
  obtain ⟨rfl, rfl⟩ := trodVars_none hV
  obtain ⟨a0, len0, cap0, rfl⟩ := okWide_slice Try.underlying22 (hval 0 22 v0 rfl rfl)
  have k0 := h0
  have lt0 : ∀ x ∈ p0, x.block < W.heap.size := by obtain ⟨m, hm⟩ := k0; exact DataW.trod_lt m _ _ _ hm
  obtain ⟨h, hn, hin, hl, ws, wo, wv, wx⟩ : ∃ h : Hist, h.n = len0 ∧ IsOps W (.slice a0 len0 cap0) h ∧ len0 ≤ maxLen ∧ (∀ k, k < len0 → (Lit.int .i64 (h.s k)).wf = true) ∧ (∀ k, k < len0 → (Lit.int .u8 (h.o k)).wf = true) ∧ (∀ k, k < len0 → (Lit.int .i64 (h.v k)).wf = true) ∧ (∀ k, k < len0 → (h.x k).size ≤ maxLen) := by
    obtain ⟨fuel, hf⟩ := h0
    exact open_hist (by simpa [Value.cells] using hf)
  clear hA0 hval0
  refine (walk a0 len0 cap0 W h hn hin hl ⟨fun k hk => ws k (hn ▸ hk), fun k hk => wo k (hn ▸ hk), fun k hk => wv k (hn ▸ hk), fun k hk => wx k (hn ▸ hk)⟩).mono fun e W' ⟨he, bel⟩ => ?_
  subst he
  exact ⟨_, rfl, _, _, _, [], _, [], hW', trodAll_mk1 (shut_bool Try.underlying4 _), (trodAll_cons_mk (Below.trod laidOut (by kernel_rfl) (of_decide_eq_true (by kernel_rfl)) k0 bel lt0) trodAll_mk0), rfl, bel.frame _, fun h => by cases h⟩

theorem over : Rows.fnNewCausalOrderExactRow.holds Try.pinned (OpenSpec.ofChange Rows.fnNewCausalOrderExactSpec) :=
  OpenClaim.holds_of_wide 5 Try.f5 rfl rfl rfl rfl rfl rfl rfl ⟨rfl, rfl, rfl, rfl, rfl⟩ rfl rfl rfl rfl rfl (by kernel_rfl) Try.func5 (by kernel_rfl)
    (of_decide_eq_true (by kernel_rfl)) (by unfold Func.isWrapper; first | (rw [if_pos (by decide +kernel)]; kernel_rfl) | (rw [if_neg (by decide +kernel)]; exact ⟨rfl, rfl⟩))
    (fun os started H enc _ => lifted os started H enc)

/-- THE STATEMENT -/
theorem proved : Rows.FnNewCausalOrderExactSaid := over
#print axioms proved
end Go.Proofs.Qxb6603687a.fnNewCausalOrderExact
