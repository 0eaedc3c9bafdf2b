/-
  Arguments []uint64 and []Word, opened.
-/
import Derived.Test.Qxb6603687aWd
import Derived.ProofKit
import Derived.Lib.SmallJoins
namespace Go.Proofs.Qxb6603687a
open Go.ChangeShapes Go.WideShapes Go.ChangeAt Go.RowKit Go.Joins
set_option linter.unusedVariables false

theorem cells53 : Try.prog.cellsOf 53 = 2 := by kernel_rfl
theorem cells51 : Try.prog.cellsOf 51 = 1 := by kernel_rfl
theorem cells3' : Try.prog.cellsOf 3 = 1 := by kernel_rfl
theorem spotless {W : World} {b off : Nat} {spot : Option Nat} {j : Nat} {v : Value} (hj : W.cell? ((⟨b, off, spot⟩ : Addr).add j) = some v) : W.cell? ⟨b, off + j, none⟩ = some v := by
  have hs := World.cell?_spot hj
  unfold Addr.add at hj hs
  by_cases e : j = 0
  · subst e
    simp at hj hs
    subst hs
    simpa using hj
  · simpa [e] using hj

set_option maxRecDepth 100000 in
theorem open_words {H : Type} {enc : TypeId × Value → H} {W : World} {fuel : Nat} {a : Option Addr} {len cap : Nat} {x : DataW H × List MemPlace} (h : DataW.trod enc Try.prog W 0 (fun _ => true) true fuel 43 [.slice a len cap] = some x) :
    ∃ S : Wd, S.n = len ∧ Words W a S ∧ len ≤ maxLen ∧ (∀ k, k < len → (Lit.int .i64 (S.ix k)).wf = true) ∧ (∀ k, k < len → (Lit.int .u64 (S.bt k)).wf = true) := by
  rcases Deep.open_slice Try.underlying43 h with ⟨hcs, _⟩ | ⟨a', len', cap', m, n, D, Pl, hcs, _, hl, hm, hmm, _, hx⟩
  · simp at hcs
    obtain ⟨rfl, rfl, rfl⟩ := hcs
    exact ⟨⟨0, fun _ => 0, fun _ => 0⟩, rfl, .inl rfl, by simp, fun k hk => by omega, fun k hk => by omega⟩
  · simp at hcs
    obtain ⟨rfl, rfl, rfl⟩ := hcs
    simp at hmm
    subst hmm
    obtain ⟨b, off, spot⟩ := a'
    have hel : ∀ i, i < len → ∃ r : Int × Int, W.cell? ⟨b, off + i * 2, none⟩ = some (.int .i64 r.1) ∧ W.cell? ⟨b, off + i * 2 + 1, none⟩ = some (.int .u64 r.2) ∧ (Lit.int .i64 r.1).wf = true ∧ (Lit.int .u64 r.2).wf = true := by
      intro i hi
      obtain ⟨cs, hcs, ht⟩ := hx i (by omega)
      rw [cells53] at hcs
      obtain ⟨_, hlen, hc⟩ := World.cells?_some hcs
      obtain ⟨y0, y1, n', _, _, t0, t1⟩ := trod_struct2 Try.underlying53 ht
      match cs, hlen with
      | [v0, v1], _ =>
        simp only [cells3', cells51] at t0 t1
        obtain ⟨s, e0, _, w0⟩ := DataW.trod_int Try.underlying3 t0
        obtain ⟨o, e1, _, w1⟩ := DataW.trod_int Try.underlying51 t1
        simp at e0 e1
        subst e0 e1
        have c0 := hc 0 (by omega)
        have c1 := hc 1 (by omega)
        rw [Deep.add_add] at c0 c1
        exact ⟨(s, o), spotless (by simpa using c0), spotless (b := b) (off := off) (spot := spot) (j := i * 2 + 1) (by simpa using c1), w0, w1⟩
    obtain ⟨r, hr⟩ := Deep.choose_lt (α := Int × Int) hel
    refine ⟨⟨len, fun k => (r k).1, fun k => (r k).2⟩, rfl, ?_, Nat.le_trans hl hm, fun k hk => (hr k hk).2.2.1, fun k hk => (hr k hk).2.2.2⟩
    by_cases h0 : len = 0
    · exact .inl h0
    · obtain ⟨cs, hcs, _⟩ := hx 0 (by omega)
      rw [cells53] at hcs
      obtain ⟨_, hlen, hc⟩ := World.cells?_some hcs
      have c0 := hc 0 (by omega)
      rw [Deep.add_add] at c0
      rw [List.getElem?_eq_getElem (by omega)] at c0
      have hsp : spot = none := World.cell?_spot (w := W) (a := ⟨b, off, spot⟩) (v := cs[0]) (by simpa [Addr.add] using c0)
      subst hsp
      exact .inr ⟨b, off, rfl, fun k hk => ⟨(hr k hk).1, (hr k hk).2.1⟩⟩

set_option maxRecDepth 100000 in
theorem open_u64 {H : Type} {enc : TypeId × Value → H} {W : World} {fuel : Nat} {a : Option Addr} {len cap : Nat} {x : DataW H × List MemPlace} (h : DataW.trod enc Try.prog W 0 (fun _ => true) true fuel 42 [.slice a len cap] = some x) :
    ∃ f : Nat → Int, Ints W a .u64 len f ∧ len ≤ maxLen := by
  rcases Deep.open_slice Try.underlying42 h with ⟨hcs, _⟩ | ⟨a', len', cap', m, n, D, Pl, hcs, _, hl, hm, hmm, _, hx⟩
  · simp at hcs
    obtain ⟨rfl, rfl, rfl⟩ := hcs
    exact ⟨fun _ => 0, .inl rfl, by simp⟩
  · simp at hcs
    obtain ⟨rfl, rfl, rfl⟩ := hcs
    simp at hmm
    subst hmm
    obtain ⟨b, off, spot⟩ := a'
    have hel : ∀ i, i < len → ∃ r : Int, W.cell? ⟨b, off + i, none⟩ = some (.int .u64 r) := by
      intro i hi
      obtain ⟨cs, hcs, ht⟩ := hx i (by omega)
      rw [cells51] at hcs
      obtain ⟨_, hlen, hc⟩ := World.cells?_some hcs
      match cs, hlen with
      | [v0], _ =>
        obtain ⟨s, e0, _, w0⟩ := DataW.trod_int Try.underlying51 ht
        simp at e0
        subst e0
        have c0 := hc 0 (by omega)
        rw [Deep.add_add] at c0
        exact ⟨s, spotless (by simpa using c0)⟩
    obtain ⟨r, hr⟩ := Deep.choose_lt (α := Int) hel
    refine ⟨r, ?_, Nat.le_trans hl hm⟩
    by_cases h0 : len = 0
    · exact .inl h0
    · obtain ⟨cs, hcs, _⟩ := hx 0 (by omega)
      rw [cells51] at hcs
      obtain ⟨_, hlen, hc⟩ := World.cells?_some hcs
      have c0 := hc 0 (by omega)
      rw [Deep.add_add] at c0
      rw [List.getElem?_eq_getElem (by omega)] at c0
      have hsp : spot = none := World.cell?_spot (w := W) (a := ⟨b, off, spot⟩) (v := cs[0]) (by simpa [Addr.add] using c0)
      subst hsp
      exact .inr ⟨b, off, rfl, fun k hk => hr k hk⟩
end Go.Proofs.Qxb6603687a
