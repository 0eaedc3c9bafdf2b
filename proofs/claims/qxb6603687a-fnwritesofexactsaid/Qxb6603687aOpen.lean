/-
  A history that came in as an argument ([]Op), opened.
-/
import Derived.Test.Qxb6603687aOps
import Derived.ProofKit
import Derived.Lib.SmallJoins
namespace Go.Proofs.Qxb6603687a
open Go.ChangeShapes Go.WideShapes Go.ChangeAt Go.RowKit Go.Joins
set_option linter.unusedVariables false

theorem cells37 : Try.prog.cellsOf 37 = 4 := by kernel_rfl
theorem cells3 : Try.prog.cellsOf 3 = 1 := by kernel_rfl
theorem cells5 : Try.prog.cellsOf 5 = 1 := by kernel_rfl
theorem cells9 : Try.prog.cellsOf 9 = 1 := by kernel_rfl

set_option maxRecDepth 100000 in
theorem open_hist {H : Type} {enc : TypeId × Value → H} {W : World} {fuel : Nat} {a : Option Addr} {len cap : Nat} {x : DataW H × List MemPlace} (h : DataW.trod enc Try.prog W 0 (fun _ => true) true fuel 22 [.slice a len cap] = some x) :
    ∃ h : Hist, h.n = len ∧ IsOps W (.slice a len cap) h ∧ len ≤ maxLen ∧ (∀ k, k < len → (Lit.int .i64 (h.s k)).wf = true) ∧ (∀ k, k < len → (Lit.int .u8 (h.o k)).wf = true) ∧ (∀ k, k < len → (Lit.int .i64 (h.v k)).wf = true) ∧ (∀ k, k < len → (h.x k).size ≤ maxLen) := by
  rcases Deep.open_slice Try.underlying22 h with ⟨hcs, _⟩ | ⟨a', len', cap', m, n, D, Pl, hcs, _, hl, hm, hmm, _, hx⟩
  · simp at hcs
    obtain ⟨rfl, rfl, rfl⟩ := hcs
    exact ⟨⟨0, fun _ => 0, fun _ => 0, fun _ => 0, fun _ => ByteArray.empty⟩, rfl, .inl ⟨none, 0, rfl, rfl⟩, by simp, fun k hk => by omega, fun k hk => by omega, fun k hk => by omega, fun k hk => by omega⟩
  · simp at hcs
    obtain ⟨rfl, rfl, rfl⟩ := hcs
    simp at hmm
    subst hmm
    obtain ⟨b, off, spot⟩ := a'
    have hel : ∀ i, i < len → ∃ r : Int × Int × Int × ByteArray, W.cell? ⟨b, off + i * 4, none⟩ = some (.int .i64 r.1) ∧ W.cell? ⟨b, off + i * 4 + 1, none⟩ = some (.int .u8 r.2.1) ∧ W.cell? ⟨b, off + i * 4 + 2, none⟩ = some (.int .i64 r.2.2.1) ∧ W.cell? ⟨b, off + i * 4 + 3, none⟩ = some (.string r.2.2.2) ∧
        (Lit.int .i64 r.1).wf = true ∧ (Lit.int .u8 r.2.1).wf = true ∧ (Lit.int .i64 r.2.2.1).wf = true ∧ r.2.2.2.size ≤ maxLen := by
      intro i hi
      obtain ⟨cs, hcs, ht⟩ := hx i (by omega)
      rw [cells37] at hcs
      obtain ⟨_, hlen, hc⟩ := World.cells?_some hcs
      obtain ⟨y0, y1, y2, y3, n', _, _, t0, t1, t2, t3⟩ := trod_struct4 Try.underlying37 ht
      match cs, hlen with
      | [v0, v1, v2, v3], _ =>
        simp only [cells3, cells5, cells9] at t0 t1 t2 t3
        obtain ⟨s, e0, _, w0⟩ := DataW.trod_int Try.underlying3 t0
        obtain ⟨o, e1, _, w1⟩ := DataW.trod_int Try.underlying5 t1
        obtain ⟨vv, e2, _, w2⟩ := DataW.trod_int Try.underlying3 t2
        obtain ⟨xx, e3, _, w3⟩ := DataW.trod_string Try.underlying9 t3
        simp at e0 e1 e2 e3
        subst e0 e1 e2 e3
        have c0 := hc 0 (by omega)
        have c1 := hc 1 (by omega)
        have c2 := hc 2 (by omega)
        have c3 := hc 3 (by omega)
        rw [Deep.add_add] at c0 c1 c2 c3
        have hsp : ∀ j v, W.cell? ((⟨b, off, spot⟩ : Addr).add j) = some v → W.cell? ⟨b, off + j, none⟩ = some v := fun j v hj => by
          have hs := World.cell?_spot hj
          unfold Addr.add at hj hs
          by_cases e : j = 0
          · subst e
            simp at hj hs
            subst hs
            simpa using hj
          · simpa [e] using hj
        exact ⟨(s, o, vv, xx), hsp _ _ (by simpa using c0), hsp _ _ (by simpa using c1), hsp _ _ (by simpa using c2), hsp _ _ (by simpa using c3), w0, w1, w2, w3⟩
    obtain ⟨r, hr⟩ := Deep.choose_lt (α := Int × Int × Int × ByteArray) hel
    have hops : OpsIn W b off ⟨len, fun k => (r k).1, fun k => (r k).2.1, fun k => (r k).2.2.1, fun k => (r k).2.2.2⟩ := ⟨fun k hk => (hr k hk).1, fun k hk => (hr k hk).2.1, fun k hk => (hr k hk).2.2.1, fun k hk => (hr k hk).2.2.2.1⟩
    refine ⟨⟨len, fun k => (r k).1, fun k => (r k).2.1, fun k => (r k).2.2.1, fun k => (r k).2.2.2⟩, rfl, ?_,
      Nat.le_trans hl hm, fun k hk => (hr k hk).2.2.2.2.1, fun k hk => (hr k hk).2.2.2.2.2.1, fun k hk => (hr k hk).2.2.2.2.2.2.1, fun k hk => (hr k hk).2.2.2.2.2.2.2⟩
    by_cases h0 : len = 0
    · exact .inl ⟨_, _, by rw [h0], h0⟩
    · obtain ⟨cs, hcs, _⟩ := hx 0 (by omega)
      rw [cells37] at hcs
      obtain ⟨_, hlen, hc⟩ := World.cells?_some hcs
      have c0 := hc 0 (by omega)
      rw [Deep.add_add] at c0
      rw [List.getElem?_eq_getElem (by omega)] at c0
      have hsp : spot = none := World.cell?_spot (w := W) (a := ⟨b, off, spot⟩) (v := cs[0]) (by simpa [Addr.add] using c0)
      subst hsp
      exact .inr ⟨b, off, _, rfl, hops⟩
end Go.Proofs.Qxb6603687a
