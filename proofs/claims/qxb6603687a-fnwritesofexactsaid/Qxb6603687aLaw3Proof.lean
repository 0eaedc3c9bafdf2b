/-
  FnWritesOfExact: the row's step over the walk, and the statement.
-/
import Derived.Test.Qxb6603687aLaw3
import Derived.Test.Qxb6603687aOpen
import Derived.Test.Qxb6603687aOpen3
import Derived.WalkKit
import Derived.ProofKit
import Derived.OpenShut
import Derived.ShutString
import Derived.ChangeOld
import Derived.Below
namespace Go.Proofs.Qxb6603687a.fnWritesOfExact
open Go.ChangeShapes Go.WideShapes Go.ChangeAt Go.RowKit
open Go.ChangeMaps (open_string shut_string)
set_option linter.unusedVariables false

theorem own : ownKnob Try.prog.godebug = none := by kernel_rfl
theorem laidOut : laidOutB Try.prog = true := by kernel_rfl

/-! ### The walk: the law returns true, and writes nothing that was there. -/
set_option maxRecDepth 100000 in
set_option maxHeartbeats 1000000 in
theorem walk (a0 : Option Addr) (len0 cap0 : Nat) (a1 : Option Addr) (len1 cap1 : Nat) (f : Nat → Int) (w : World) (H : Hist) (hn : H.n = len0) (hin : IsOps w (.slice a0 len0 cap0) H) (hl : len0 ≤ maxLen) (hl1 : len1 ≤ maxLen) (hs : Ints w a1 .i32 len1 f)
    (hv : ∀ k, k < H.n → (Lit.int .i64 (H.v k)).wf = true) (hxs : ∀ k, k < H.n → (H.x k).size ≤ maxLen) (hf : ∀ k, k < len1 → (Lit.int .i32 (f k)).wf = true) :
    Calls Try.prog 3 #[.slice a0 len0 cap0, .slice a1 len1 cap1] w fun e w' => e = .returned (.bool true) ∧ Below w.heap.size w w' := by
  subst hn
  have hx : ∀ k, k < H.n → (H.x k).size ≤ 9223372036854775807 := fun k hk => by have := hxs k hk; simpa [maxLen] using this
  unfold maxLen at hl hl1
  by_cases h4 : H.n ≤ 4096
  · by_cases h6 : len1 ≤ 65536
    · exact law3_main a0 a1 cap0 len1 cap1 H f w h4 h6 hx hin hs (fun hc => ⟨hv, fun k hk ho => WalkArith.wf_i64 (by have := bounds_i32 (hf k (hc.lt hk ho)); omega)⟩)
    · go_enter Try.func3, Try.ntmps3
      go_wp2_with (go_at_call 7; refine (bytes7_any a0 a1 cap0 len1 cap1 H _ (by omega) (by omega) hx hin).mono ?_; rintro e wx ⟨⟨q, rfl⟩, rfl⟩; cases q)
      all_goals go_ret
      all_goals exact ⟨rfl, Below.refl _ _⟩
  · go_enter Try.func3, Try.ntmps3
    go_wp2_with (go_at_call 7; refine (bytes7_any a0 a1 cap0 len1 cap1 H _ (by omega) (by omega) hx hin).mono ?_; rintro e wx ⟨⟨q, rfl⟩, rfl⟩; cases q)
    all_goals go_ret
    all_goals exact ⟨rfl, Below.refl _ _⟩

/-! ### The row's step -/
set_option maxRecDepth 100000 in
theorem lifted (os : Os) (started : os.Started) (H : Type) (enc : TypeId × Value → H) :
    ReturnsInHanded {} Try.checked os 3 .any (Rows.fnWritesOfExactSpec.pre6 enc Try.prog Try.f3 Rows.fnWritesOfExactRow.domain false) (Rows.fnWritesOfExactSpec.post enc Try.prog Try.f3 false true false false) := by
  refine returnsInHanded_of_change (C := Try.checked) own started (by kernel_rfl) Try.func3
    (ChangeSpec.witness6 (enc := enc) (C := Try.checked) false ⟨#[], #[.slice none 0 0, .slice none 0 0], []⟩ 8 (by kernel_rfl) (by kernel_rfl) (by kernel_rfl) (by kernel_rfl)) ?_
  intro W base args ds gs before hval0 hW hcnd _
  have hval : ∀ (j : Nat) t v, Try.f3.params[j]? = some t → args[j]? = some v → Value.okWide Try.prog W .any base t v := hval0
  have hW' := hW
  obtain ⟨p, q, hA0, hV, rfl, hfz, hnd⟩ := hW
  have hA : DataW.TrodAll enc Try.prog W 0 (fun _ => true) true Try.f3.params.toList args.toList ds p := hA0
  rw [Try.params3] at hA hval
  obtain ⟨v0, vs0, d0, ds0, p0, q0, hargs, rfl, rfl, h0, r0⟩ := trodAll_cons hA
  obtain ⟨v1, vs1, d1, ds1, p1, q1, rfl, rfl, rfl, h1, r1⟩ := trodAll_cons r0
  obtain ⟨rfl, rfl, rfl⟩ := trodAll_nil r1
  obtain rfl : args = #[v0, v1] := by cases args; simp_all
  obtain ⟨rfl, rfl⟩ := trodVars_none hV
  obtain ⟨a0, len0, cap0, rfl⟩ := okWide_slice Try.underlying22 (hval 0 22 v0 rfl rfl)
  obtain ⟨a1, len1, cap1, rfl⟩ := okWide_slice Try.underlying23 (hval 1 23 v1 rfl rfl)
  have k0 := h0
  have k1 := h1
  have lt0 : ∀ x ∈ p0, x.block < W.heap.size := by obtain ⟨m, hm⟩ := k0; exact DataW.trod_lt m _ _ _ hm
  have lt1 : ∀ x ∈ p1, x.block < W.heap.size := by obtain ⟨m, hm⟩ := k1; exact DataW.trod_lt m _ _ _ hm
  obtain ⟨h, hn, hin, hl, ws, wo, wv, wx⟩ : ∃ h : Hist, h.n = len0 ∧ IsOps W (.slice a0 len0 cap0) h ∧ len0 ≤ maxLen ∧ (∀ k, k < len0 → (Lit.int .i64 (h.s k)).wf = true) ∧ (∀ k, k < len0 → (Lit.int .u8 (h.o k)).wf = true) ∧ (∀ k, k < len0 → (Lit.int .i64 (h.v k)).wf = true) ∧ (∀ k, k < len0 → (h.x k).size ≤ maxLen) := by
    obtain ⟨fuel, hf⟩ := h0
    exact open_hist (by simpa [Value.cells] using hf)
  obtain ⟨f, hf1, hl1, wf⟩ : ∃ f : Nat → Int, Ints W a1 .i32 len1 f ∧ len1 ≤ maxLen ∧ ∀ k, k < len1 → (Lit.int .i32 (f k)).wf = true := by
    obtain ⟨fuel, hf⟩ := h1
    exact open_i32 (by simpa [Value.cells] using hf)
  clear hA0 hval0
  refine (walk a0 len0 cap0 a1 len1 cap1 f W h hn hin hl hl1 hf1 (fun k hk => wv k (hn ▸ hk)) (fun k hk => wx k (hn ▸ hk)) wf).mono fun e W' ⟨he, bel⟩ => ?_
  subst he
  exact ⟨_, rfl, _, _, _, [], _, [], hW', trodAll_mk1 (shut_bool Try.underlying4 _), (trodAll_cons_mk (Below.trod laidOut (by kernel_rfl) (of_decide_eq_true (by kernel_rfl)) k0 bel lt0) (trodAll_cons_mk (Below.trod laidOut (by kernel_rfl) (of_decide_eq_true (by kernel_rfl)) k1 bel lt1) trodAll_mk0)), rfl, bel.frame _, fun h => by cases h⟩

theorem over : Rows.fnWritesOfExactRow.holds Try.pinned (OpenSpec.ofChange Rows.fnWritesOfExactSpec) :=
  OpenClaim.holds_of_wide 3 Try.f3 rfl rfl rfl rfl rfl rfl rfl ⟨rfl, rfl, rfl, rfl, rfl⟩ rfl rfl rfl rfl rfl (by kernel_rfl) Try.func3 (by kernel_rfl)
    (of_decide_eq_true (by kernel_rfl)) (by unfold Func.isWrapper; first | (rw [if_pos (by decide +kernel)]; kernel_rfl) | (rw [if_neg (by decide +kernel)]; exact ⟨rfl, rfl⟩))
    (fun os started H enc _ => lifted os started H enc)

/-- THE STATEMENT -/
theorem proved : Rows.FnWritesOfExactSaid := over
#print axioms proved
end Go.Proofs.Qxb6603687a.fnWritesOfExact
