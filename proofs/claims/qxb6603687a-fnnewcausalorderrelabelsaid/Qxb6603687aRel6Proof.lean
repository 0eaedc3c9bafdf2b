/-
  FnNewCausalOrderRelabel: the row's step over the walk, and the statement.
-/
import Derived.Test.Qxb6603687aRel6
import Derived.Test.Qxb6603687aRel6Empty
import Derived.Test.Qxb6603687aNco
import Derived.Test.Qxb6603687aOpen
import Derived.WalkKit
import Derived.ProofKit
import Derived.OpenShut
import Derived.ShutString
import Derived.ChangeOld
import Derived.Below
namespace Go.Proofs.Qxb6603687a.fnNewCausalOrderRelabel
open Go.ChangeShapes Go.WideShapes Go.ChangeAt Go.RowKit
open Go.ChangeMaps (open_string shut_string)
set_option linter.unusedVariables false

theorem own : ownKnob Try.prog.godebug = none := by kernel_rfl
theorem laidOut : laidOutB Try.prog = true := by kernel_rfl

theorem size_tilde (x : ByteArray) : (⟨#[126]⟩ ++ x : ByteArray).size = 1 + x.size := by rw [ByteArray.size_append]; rfl
theorem relab_ok (H : Hist) (a1 a2 : Int) (hok : HistOk H) (hsh : Short H H.n) : HistOk (relab H a1 a2) := by
  refine ⟨fun k _ => wf_bits .xor .i64 (H.s k) a1, hok.o, fun k _ => wf_bits .xor .i64 (H.v k) a2, fun k hk => ?_⟩
  have h1 := hsh k hk
  have h2 : ((relab H a1 a2).x k).size = 1 + (H.x k).size := size_tilde (H.x k)
  rw [h2]
  unfold maxLen
  omega
theorem zzn_relab (H : Hist) (a1 a2 : Int) (hs : H.n ≤ 4096) (hok : HistOk H) (hsh : Short H H.n) (v : Value) (w : World) (h : IsOps w v (relab H a1 a2)) : Calls Try.prog 25 #[v] w fun e w' => ZznPost H w e w' := by
  obtain ⟨ad, cap, rfl⟩ := h.form
  have h1 : Calls Try.prog 31 #[.slice ad (relab H a1 a2).n cap] w fun e w' => NcoPost (relab H a1 a2) w e w' := nco_any ad cap (relab H a1 a2) w hs (relab_ok H a1 a2 hok hsh) h
  have h2 := zzn_of _ (relab H a1 a2) w h1
  exact h2.mono fun e w' hp => zzn_same (relab_same H a1 a2 hok.s hok.v) hp

/-! ### The walk: the law returns true, and writes nothing that was there. -/
set_option maxRecDepth 100000 in
set_option maxHeartbeats 1000000 in
theorem walk (a0 : Option Addr) (len0 cap0 : Nat) (a1 a2 : Int) (w : World) (H : Hist) (hn : H.n = len0) (hin : IsOps w (.slice a0 len0 cap0) H) (hl : len0 ≤ maxLen) (hok : HistOk H) :
    Calls Try.prog 6 #[.slice a0 len0 cap0, .int .i64 a1, .int .i64 a2] w fun e w' => e = .returned (.bool true) ∧ Below w.heap.size w w' := by
  subst hn
  have hx : ∀ k, k < H.n → (H.x k).size ≤ 9223372036854775807 := fun k hk => by have := hok.x k hk; simpa [maxLen] using this
  by_cases hs : H.n ≤ 4096
  · have hz : ∀ v w, IsOps w v H → Calls Try.prog 25 #[v] w fun e w' => ZznPost H w e w' := fun v w h => by
      obtain ⟨ad, cap, rfl⟩ := h.form
      exact zzn_of _ H w (nco_any ad cap H w hs hok h)
    have hz2 : Short H H.n → ∀ v w, IsOps w v (relab H a1 a2) → Calls Try.prog 25 #[v] w fun e w' => ZznPost H w e w' := fun hsh v w h => zzn_relab H a1 a2 hs hok hsh v w h
    by_cases h0 : 0 < H.n
    · exact law6_main _ _ _ _ H w h0 hs hx hin hz hz2
    · have h00 : H.n = 0 := by omega
      rw [h00]
      exact law6_empty a0 cap0 _ _ H w h00 hz
  · unfold maxLen at hl
    go_enter Try.func6, Try.ntmps6
    go_wp2_with (go_at_call 26; refine (bytes26_any _ _ _ H _ (by omega) hx hin).mono ?_; rintro e wx ⟨⟨q, rfl, hq⟩, rfl⟩; cases q)
    all_goals go_ret
    all_goals exact ⟨rfl, Below.refl _ _⟩

/-! ### The row's step -/
set_option maxRecDepth 100000 in
theorem lifted (os : Os) (started : os.Started) (H : Type) (enc : TypeId × Value → H) :
    ReturnsInHanded {} Try.checked os 6 .any (Rows.fnNewCausalOrderRelabelSpec.pre6 enc Try.prog Try.f6 Rows.fnNewCausalOrderRelabelRow.domain false) (Rows.fnNewCausalOrderRelabelSpec.post enc Try.prog Try.f6 false true false false) := by
  refine returnsInHanded_of_change (C := Try.checked) own started (by kernel_rfl) Try.func6
    (ChangeSpec.witness6 (enc := enc) (C := Try.checked) false ⟨#[], #[.slice none 0 0, .int .i64 0, .int .i64 0], []⟩ 8 (by kernel_rfl) (by kernel_rfl) (by kernel_rfl) (by kernel_rfl)) ?_
  intro W base args ds gs before hval0 hW hcnd _
  have hval : ∀ (j : Nat) t v, Try.f6.params[j]? = some t → args[j]? = some v → Value.okWide Try.prog W .any base t v := hval0
  have hW' := hW
  obtain ⟨p, q, hA0, hV, rfl, hfz, hnd⟩ := hW
  have hA : DataW.TrodAll enc Try.prog W 0 (fun _ => true) true Try.f6.params.toList args.toList ds p := hA0
  rw [Try.params6] at hA hval
  obtain ⟨v0, vs0, d0, ds0, p0, q0, hargs, rfl, rfl, h0, r0⟩ := trodAll_cons hA
  obtain ⟨v1, vs1, d1, ds1, p1, q1, rfl, rfl, rfl, h1, r1⟩ := trodAll_cons r0
  obtain ⟨v2, vs2, d2, ds2, p2, q2, rfl, rfl, rfl, h2, r2⟩ := trodAll_cons r1
  obtain ⟨rfl, rfl, rfl⟩ := trodAll_nil r2
  obtain rfl : args = #[v0, v1, v2] := by cases args; simp_all
  obtain ⟨rfl, rfl⟩ := trodVars_none hV
  obtain ⟨a0, len0, cap0, rfl⟩ := okWide_slice Try.underlying22 (hval 0 22 v0 rfl rfl)
  obtain ⟨a1, rfl, rfl, rfl, w1⟩ := open_int Try.underlying3 (hval 1 3 v1 rfl rfl) h1
  obtain ⟨a2, rfl, rfl, rfl, w2⟩ := open_int Try.underlying3 (hval 2 3 v2 rfl rfl) h2
  have k0 := h0
  have lt0 : ∀ x ∈ p0, x.block < W.heap.size := by obtain ⟨m, hm⟩ := k0; exact DataW.trod_lt m _ _ _ hm
  obtain ⟨h, hn, hin, hl, ws, wo, wv, wx⟩ : ∃ h : Hist, h.n = len0 ∧ IsOps W (.slice a0 len0 cap0) h ∧ len0 ≤ maxLen ∧ (∀ k, k < len0 → (Lit.int .i64 (h.s k)).wf = true) ∧ (∀ k, k < len0 → (Lit.int .u8 (h.o k)).wf = true) ∧ (∀ k, k < len0 → (Lit.int .i64 (h.v k)).wf = true) ∧ (∀ k, k < len0 → (h.x k).size ≤ maxLen) := by
    obtain ⟨fuel, hf⟩ := h0
    exact open_hist (by simpa [Value.cells] using hf)
  clear hA0 hval0
  refine (walk a0 len0 cap0 a1 a2 W h hn hin hl ⟨fun k hk => ws k (hn ▸ hk), fun k hk => wo k (hn ▸ hk), fun k hk => wv k (hn ▸ hk), fun k hk => wx k (hn ▸ hk)⟩).mono fun e W' ⟨he, bel⟩ => ?_
  subst he
  exact ⟨_, rfl, _, _, _, [], _, [], hW', trodAll_mk1 (shut_bool Try.underlying4 _), (trodAll_cons_mk (Below.trod laidOut (by kernel_rfl) (of_decide_eq_true (by kernel_rfl)) k0 bel lt0) (trodAll_cons_mk (shut_int Try.underlying3 w1) (trodAll_cons_mk (shut_int Try.underlying3 w2) trodAll_mk0))), rfl, bel.frame _, fun h => by cases h⟩

theorem over : Rows.fnNewCausalOrderRelabelRow.holds Try.pinned (OpenSpec.ofChange Rows.fnNewCausalOrderRelabelSpec) :=
  OpenClaim.holds_of_wide 6 Try.f6 rfl rfl rfl rfl rfl rfl rfl ⟨rfl, rfl, rfl, rfl, rfl⟩ rfl rfl rfl rfl rfl (by kernel_rfl) Try.func6 (by kernel_rfl)
    (of_decide_eq_true (by kernel_rfl)) (by unfold Func.isWrapper; first | (rw [if_pos (by decide +kernel)]; kernel_rfl) | (rw [if_neg (by decide +kernel)]; exact ⟨rfl, rfl⟩))
    (fun os started H enc _ => lifted os started H enc)

/-- THE STATEMENT -/
theorem proved : Rows.FnNewCausalOrderRelabelSaid := over
#print axioms proved
end Go.Proofs.Qxb6603687a.fnNewCausalOrderRelabel
