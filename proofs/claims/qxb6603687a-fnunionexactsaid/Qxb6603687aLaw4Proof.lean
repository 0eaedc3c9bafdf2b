/-
  FnUnionExact: the row's step over the walk, and the statement.
-/
import Derived.Test.Qxb6603687aLaw4
import Derived.Test.Qxb6603687aOpen4
import Derived.WalkKit
import Derived.ProofKit
import Derived.OpenShut
import Derived.ShutString
import Derived.ChangeOld
import Derived.Below
namespace Go.Proofs.Qxb6603687a.fnUnionExact
open Go.ChangeShapes Go.WideShapes Go.ChangeAt Go.RowKit
open Go.ChangeMaps (open_string shut_string)
set_option linter.unusedVariables false

theorem own : ownKnob Try.prog.godebug = none := by kernel_rfl
theorem laidOut : laidOutB Try.prog = true := by kernel_rfl

/-! ### The walk: the law returns true, and writes nothing that was there. -/
set_option maxRecDepth 100000 in
set_option maxHeartbeats 1000000 in
theorem walk (first next : Int) (ad dd aa bb : Option Addr) (n cap : Nat) (f : Nat → Int) (D A B : Wd) (dc ac bc : Nat) (w : World) (hnW : n ≤ maxLen) (hnD : D.n ≤ maxLen) (hnA : A.n ≤ maxLen) (hnB : B.n ≤ maxLen)
    (hf : (Lit.int .i64 first).wf = true) (hW : Ints w ad .u64 n f) (hD : Words w dd D) (hA : Words w aa A) (hB : Words w bb B)
    (iA : ∀ k, k < A.n → (Lit.int .i64 (A.ix k)).wf = true) (iB : ∀ k, k < B.n → (Lit.int .i64 (B.ix k)).wf = true) (wA : ∀ k, k < A.n → (Lit.int .u64 (A.bt k)).wf = true) (wB : ∀ k, k < B.n → (Lit.int .u64 (B.bt k)).wf = true) :
    Calls Try.prog 4 #[.int .i64 first, .slice ad n cap, .int .i64 next, .slice dd D.n dc, .slice aa A.n ac, .slice bb B.n bc] w fun e w' => e = .returned (.bool true) ∧ Below w.heap.size w w' := by
  unfold maxLen at hnW hnD hnA hnB
  by_cases h1 : n ≤ 65536
  · by_cases h2 : D.n ≤ 65536
    · by_cases h3 : A.n ≤ 65536
      · by_cases h4 : B.n ≤ 65536
        · exact law4_main first next ad dd aa bb n cap f D A B dc ac bc w h1 h2 h3 h4 hf hW hD hA hB iA iB wA wB
        · go_enter Try.func4, Try.ntmps4
          go_wp2_with (go_at_call 16; refine (bytes16_any _ _ _ _ _ _ n _ D A B _ _ _ w (by omega) (by omega) (by omega) (by omega)).mono ?_; rintro e wx ⟨⟨q, rfl⟩, rfl⟩; cases q)
          all_goals go_ret
          all_goals exact ⟨rfl, Below.refl _ _⟩
      · go_enter Try.func4, Try.ntmps4
        go_wp2_with (go_at_call 16; refine (bytes16_any _ _ _ _ _ _ n _ D A B _ _ _ w (by omega) (by omega) (by omega) (by omega)).mono ?_; rintro e wx ⟨⟨q, rfl⟩, rfl⟩; cases q)
        all_goals go_ret
        all_goals exact ⟨rfl, Below.refl _ _⟩
    · go_enter Try.func4, Try.ntmps4
      go_wp2_with (go_at_call 16; refine (bytes16_any _ _ _ _ _ _ n _ D A B _ _ _ w (by omega) (by omega) (by omega) (by omega)).mono ?_; rintro e wx ⟨⟨q, rfl⟩, rfl⟩; cases q)
      all_goals go_ret
      all_goals exact ⟨rfl, Below.refl _ _⟩
  · go_enter Try.func4, Try.ntmps4
    go_wp2_with (go_at_call 16; refine (bytes16_any _ _ _ _ _ _ n _ D A B _ _ _ w (by omega) (by omega) (by omega) (by omega)).mono ?_; rintro e wx ⟨⟨q, rfl⟩, rfl⟩; cases q)
    all_goals go_ret
    all_goals exact ⟨rfl, Below.refl _ _⟩

/-! ### The row's step -/
set_option maxRecDepth 100000 in
theorem lifted (os : Os) (started : os.Started) (H : Type) (enc : TypeId × Value → H) :
    ReturnsInHanded {} Try.checked os 4 .any (Rows.fnUnionExactSpec.pre6 enc Try.prog Try.f4 Rows.fnUnionExactRow.domain false) (Rows.fnUnionExactSpec.post enc Try.prog Try.f4 false true false false) := by
  refine returnsInHanded_of_change (C := Try.checked) own started (by kernel_rfl) Try.func4
    (ChangeSpec.witness6 (enc := enc) (C := Try.checked) false ⟨#[], #[.int .i64 0, .slice none 0 0, .int .i64 0, .slice none 0 0, .slice none 0 0, .slice none 0 0], []⟩ 8 (by kernel_rfl) (by kernel_rfl) (by kernel_rfl) (by kernel_rfl)) ?_
  intro W base args ds gs before hval0 hW hcnd _
  have hval : ∀ (j : Nat) t v, Try.f4.params[j]? = some t → args[j]? = some v → Value.okWide Try.prog W .any base t v := hval0
  have hW' := hW
  obtain ⟨p, q, hA0, hV, rfl, hfz, hnd⟩ := hW
  have hA : DataW.TrodAll enc Try.prog W 0 (fun _ => true) true Try.f4.params.toList args.toList ds p := hA0
  rw [Try.params4] at hA hval
  obtain ⟨v0, vs0, d0, ds0, p0, q0, hargs, rfl, rfl, h0, r0⟩ := trodAll_cons hA
  obtain ⟨v1, vs1, d1, ds1, p1, q1, rfl, rfl, rfl, h1, r1⟩ := trodAll_cons r0
  obtain ⟨v2, vs2, d2, ds2, p2, q2, rfl, rfl, rfl, h2, r2⟩ := trodAll_cons r1
  obtain ⟨v3, vs3, d3, ds3, p3, q3, rfl, rfl, rfl, h3, r3⟩ := trodAll_cons r2
  obtain ⟨v4, vs4, d4, ds4, p4, q4, rfl, rfl, rfl, h4, r4⟩ := trodAll_cons r3
  obtain ⟨v5, vs5, d5, ds5, p5, q5, rfl, rfl, rfl, h5, r5⟩ := trodAll_cons r4
  obtain ⟨rfl, rfl, rfl⟩ := trodAll_nil r5
  obtain rfl : args = #[v0, v1, v2, v3, v4, v5] := by cases args; simp_all
  obtain ⟨rfl, rfl⟩ := trodVars_none hV
  obtain ⟨a0, rfl, rfl, rfl, w0⟩ := open_int Try.underlying3 (hval 0 3 v0 rfl rfl) h0
  obtain ⟨a1, len1, cap1, rfl⟩ := okWide_slice Try.underlying42 (hval 1 42 v1 rfl rfl)
  obtain ⟨a2, rfl, rfl, rfl, w2⟩ := open_int Try.underlying3 (hval 2 3 v2 rfl rfl) h2
  obtain ⟨a3, len3, cap3, rfl⟩ := okWide_slice Try.underlying43 (hval 3 43 v3 rfl rfl)
  obtain ⟨a4, len4, cap4, rfl⟩ := okWide_slice Try.underlying43 (hval 4 43 v4 rfl rfl)
  obtain ⟨a5, len5, cap5, rfl⟩ := okWide_slice Try.underlying43 (hval 5 43 v5 rfl rfl)
  have k1 := h1
  have k3 := h3
  have k4 := h4
  have k5 := h5
  have lt1 : ∀ x ∈ p1, x.block < W.heap.size := by obtain ⟨m, hm⟩ := k1; exact DataW.trod_lt m _ _ _ hm
  have lt3 : ∀ x ∈ p3, x.block < W.heap.size := by obtain ⟨m, hm⟩ := k3; exact DataW.trod_lt m _ _ _ hm
  have lt4 : ∀ x ∈ p4, x.block < W.heap.size := by obtain ⟨m, hm⟩ := k4; exact DataW.trod_lt m _ _ _ hm
  have lt5 : ∀ x ∈ p5, x.block < W.heap.size := by obtain ⟨m, hm⟩ := k5; exact DataW.trod_lt m _ _ _ hm
  obtain ⟨f, hf1, hl1⟩ : ∃ f : Nat → Int, Ints W a1 .u64 len1 f ∧ len1 ≤ maxLen := by
    obtain ⟨fuel, hf⟩ := h1
    exact open_u64 (by simpa [Value.cells] using hf)
  obtain ⟨D, rfl, hD, hl3, _, _⟩ : ∃ S : Wd, S.n = len3 ∧ Words W a3 S ∧ len3 ≤ maxLen ∧ (∀ k, k < len3 → (Lit.int .i64 (S.ix k)).wf = true) ∧ (∀ k, k < len3 → (Lit.int .u64 (S.bt k)).wf = true) := by
    obtain ⟨fuel, hf⟩ := h3
    exact open_words (by simpa [Value.cells] using hf)
  obtain ⟨A, rfl, hA4, hl4, iA, wA⟩ : ∃ S : Wd, S.n = len4 ∧ Words W a4 S ∧ len4 ≤ maxLen ∧ (∀ k, k < len4 → (Lit.int .i64 (S.ix k)).wf = true) ∧ (∀ k, k < len4 → (Lit.int .u64 (S.bt k)).wf = true) := by
    obtain ⟨fuel, hf⟩ := h4
    exact open_words (by simpa [Value.cells] using hf)
  obtain ⟨B, rfl, hB5, hl5, iB, wB⟩ : ∃ S : Wd, S.n = len5 ∧ Words W a5 S ∧ len5 ≤ maxLen ∧ (∀ k, k < len5 → (Lit.int .i64 (S.ix k)).wf = true) ∧ (∀ k, k < len5 → (Lit.int .u64 (S.bt k)).wf = true) := by
    obtain ⟨fuel, hf⟩ := h5
    exact open_words (by simpa [Value.cells] using hf)
  clear hA0 hval0
  refine (walk a0 a2 a1 a3 a4 a5 len1 cap1 f D A B cap3 cap4 cap5 W hl1 hl3 hl4 hl5 w0 hf1 hD hA4 hB5 iA iB wA wB).mono fun e W' ⟨he, bel⟩ => ?_
  subst he
  exact ⟨_, rfl, _, _, _, [], _, [], hW', trodAll_mk1 (shut_bool Try.underlying4 _), (trodAll_cons_mk (shut_int Try.underlying3 w0) (trodAll_cons_mk (Below.trod laidOut (by kernel_rfl) (of_decide_eq_true (by kernel_rfl)) k1 bel lt1) (trodAll_cons_mk (shut_int Try.underlying3 w2) (trodAll_cons_mk (Below.trod laidOut (by kernel_rfl) (of_decide_eq_true (by kernel_rfl)) k3 bel lt3) (trodAll_cons_mk (Below.trod laidOut (by kernel_rfl) (of_decide_eq_true (by kernel_rfl)) k4 bel lt4) (trodAll_cons_mk (Below.trod laidOut (by kernel_rfl) (of_decide_eq_true (by kernel_rfl)) k5 bel lt5) trodAll_mk0)))))), rfl, bel.frame _, fun h => by cases h⟩

theorem over : Rows.fnUnionExactRow.holds Try.pinned (OpenSpec.ofChange Rows.fnUnionExactSpec) :=
  OpenClaim.holds_of_wide 4 Try.f4 rfl rfl rfl rfl rfl rfl rfl ⟨rfl, rfl, rfl, rfl, rfl⟩ rfl rfl rfl rfl rfl (by kernel_rfl) Try.func4 (by kernel_rfl)
    (of_decide_eq_true (by kernel_rfl)) (by unfold Func.isWrapper; first | (rw [if_pos (by decide +kernel)]; kernel_rfl) | (rw [if_neg (by decide +kernel)]; exact ⟨rfl, rfl⟩))
    (fun os started H enc _ => lifted os started H enc)

/-- THE STATEMENT -/
theorem proved : Rows.FnUnionExactSaid := over
#print axioms proved
end Go.Proofs.Qxb6603687a.fnUnionExact
