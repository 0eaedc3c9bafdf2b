/-
  An argument []int32, opened.
-/
import Derived.Test.Qxb6603687aWd
import Derived.ProofKit
import Derived.Lib.SmallJoins
namespace Go.Proofs.Qxb6603687a
open Go.ChangeShapes Go.WideShapes Go.ChangeAt Go.RowKit Go.Joins
set_option linter.unusedVariables false

theorem cells21' : Try.prog.cellsOf 21 = 1 := by kernel_rfl
theorem spotless3 {W : World} {b off : Nat} {spot : Option Nat} {j : Nat} {v : Value} (hj : W.cell? ((⟨b, off, spot⟩ : Addr).add j) = some v) : W.cell? ⟨b, off + j, none⟩ = some v := by
  have hs := World.cell?_spot hj
  unfold Addr.add at hj hs
  by_cases e : j = 0
  · subst e
    simp at hj hs
    subst hs
    simpa using hj
  · simpa [e] using hj

set_option maxRecDepth 100000 in
theorem open_i32 {H : Type} {enc : TypeId × Value → H} {W : World} {fuel : Nat} {a : Option Addr} {len cap : Nat} {x : DataW H × List MemPlace} (h : DataW.trod enc Try.prog W 0 (fun _ => true) true fuel 23 [.slice a len cap] = some x) :
    ∃ f : Nat → Int, Ints W a .i32 len f ∧ len ≤ maxLen ∧ ∀ k, k < len → (Lit.int .i32 (f k)).wf = true := by
  rcases Deep.open_slice Try.underlying23 h with ⟨hcs, _⟩ | ⟨a', len', cap', m, n, D, Pl, hcs, _, hl, hm, hmm, _, hx⟩
  · simp at hcs
    obtain ⟨rfl, rfl, rfl⟩ := hcs
    exact ⟨fun _ => 0, .inl rfl, by simp, fun k hk => by omega⟩
  · simp at hcs
    obtain ⟨rfl, rfl, rfl⟩ := hcs
    simp at hmm
    subst hmm
    obtain ⟨b, off, spot⟩ := a'
    have hel : ∀ i, i < len → ∃ r : Int, W.cell? ⟨b, off + i, none⟩ = some (.int .i32 r) ∧ (Lit.int .i32 r).wf = true := by
      intro i hi
      obtain ⟨cs, hcs, ht⟩ := hx i (by omega)
      rw [cells21'] at hcs
      obtain ⟨_, hlen, hc⟩ := World.cells?_some hcs
      match cs, hlen with
      | [v0], _ =>
        obtain ⟨s, e0, _, w0⟩ := DataW.trod_int Try.underlying21 ht
        simp at e0
        subst e0
        have c0 := hc 0 (by omega)
        rw [Deep.add_add] at c0
        exact ⟨s, spotless3 (by simpa using c0), w0⟩
    obtain ⟨r, hr⟩ := Deep.choose_lt (α := Int) hel
    refine ⟨r, ?_, Nat.le_trans hl hm, fun k hk => (hr k hk).2⟩
    by_cases h0 : len = 0
    · exact .inl h0
    · obtain ⟨cs, hcs, _⟩ := hx 0 (by omega)
      rw [cells21'] at hcs
      obtain ⟨_, hlen, hc⟩ := World.cells?_some hcs
      have c0 := hc 0 (by omega)
      rw [Deep.add_add] at c0
      rw [List.getElem?_eq_getElem (by omega)] at c0
      have hsp : spot = none := World.cell?_spot (w := W) (a := ⟨b, off, spot⟩) (v := cs[0]) (by simpa [Addr.add] using c0)
      subst hsp
      exact .inr ⟨b, off, rfl, fun k hk => (hr k hk).1⟩
end Go.Proofs.Qxb6603687a
