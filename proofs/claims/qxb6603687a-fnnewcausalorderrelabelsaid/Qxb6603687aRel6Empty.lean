/-
  FnNewCausalOrderRelabel (6): the law's walk, for an empty history.
-/
import Derived.Test.Qxb6603687aRel6
namespace Go.Proofs.Qxb6603687a
open Go.RowKit Go.Maps
set_option linter.unusedVariables false

theorem Copied.ops' {t : TypeId} {w w' : World} {H : Hist} {e : Ending} (h : Copied t w H e w') (h0 : H.n = 0) : ∃ ad, e = .returned (.slice ad 0 0) ∧ Below w.heap.size w w' := by
  rcases h with ⟨hb, ⟨_, he⟩ | ⟨he, _⟩⟩
  · exact ⟨none, he, hb⟩
  · exact ⟨_, by rw [he, h0], hb⟩

set_option maxRecDepth 100000 in
set_option maxHeartbeats 2000000 in
theorem law6_empty (ad : Option Addr) (cap : Nat) (sk vk : Int) (H : Hist) (w : World) (h0 : H.n = 0)
    (hz : ∀ v w, IsOps w v H → Calls Try.prog 25 #[v] w fun e w' => ZznPost H w e w') :
    Calls Try.prog 6 #[.slice ad 0 cap, .int .i64 sk, .int .i64 vk] w fun e w' => e = .returned (.bool true) ∧ Below w.heap.size w w' := by
  have hin : ∀ ad cap w, IsOps w (.slice ad 0 cap) H := fun ad cap w => .inl ⟨ad, cap, rfl, h0⟩
  have HZ : Hid (∀ v w, IsOps w v H → Calls Try.prog 25 #[v] w fun e w' => ZznPost H w e w') := hz
  have H0 : Hid (H.n = 0) := h0
  have hn : H.n ≤ 4096 := by omega
  have hx0 : ∀ k, k < H.n → (H.x k).size ≤ 9223372036854775807 := fun k hk => by omega
  clear hz h0
  have hmk : ∀ w, (Instr.makeSlice 22 (.int .i64 0) (.int .i64 0)).run Try.prog w = .ok (.slice (some ⟨w.heap.size, 0, none⟩) 0 0) (w.alloc (.cells (zeros4 0) 37)) :=
    fun w => run_mk (P := Try.prog) 22 37 _ 4 40 Try.underlying22 info37 0 (by omega) (by omega) w
  go_enter Try.func6, Try.ntmps6
  go_wp2_with (first
    | (go_at_call 26; refine (bytes26_any _ _ _ H _ (by omega) hx0 (hin _ _ _)).mono ?_; rintro e wx ⟨⟨q, rfl, hq⟩, rfl⟩; cases q)
    | (go_at_call 8; refine (opBytes_any _ H _ (by omega) (hin _ _ _)).mono ?_; rintro e wx ⟨⟨q, rfl⟩, rfl⟩)
    | (go_at_call 10; refine (copyOps_any _ H _ hn (hin _ _ _)).mono ?_; intro e wa hcp; obtain ⟨a1, rfl, hba⟩ := hcp.ops' H0.out; clear hcp))
  · go_ret
    exact ⟨rfl, Below.refl _ _⟩
  · go_ret
    exact ⟨rfl, Below.refl _ _⟩
  · obtain ⟨wd, hwd, hB⟩ : ∃ wd, wa.alloc (.cells (zeros4 0) 37) = wd ∧ Below w.heap.size w wd := ⟨_, rfl, hba.alloc hba.size _⟩
    rw [hwd]
    clear hwd hba hmk
    refine wp_loop_rounds 1 ?_
    rw [rounds_succ]
    go_wp2_with (first
      | (go_at_call 13; have hx := hoa; clear hx; refine (toHist_any _ H _ hn (hin _ _ _)).mono ?_; intro e wd2 hcp; obtain ⟨c1, rfl, hbd⟩ := hcp.ops' H0.out; clear hcp)
      | (go_at_call 13; refine (toHist_any _ H _ hn (hin _ _ _)).mono ?_; intro e wb hcp; obtain ⟨c2, rfl, hbb⟩ := hcp.ops' H0.out; clear hcp)
      | (go_at_call 25; have hx := hoa; clear hx; refine (HZ.out _ _ (hin _ _ _)).mono ?_; rintro e we ⟨b0, b1, b2, b3, b4, b5, bO, rfl, hob⟩; have hBB := both_mk (hB.trans (hbb.mono hB.size)) hoa hbd hob; clear hoa hbd hob hbb hB)
      | (go_at_call 25; refine (HZ.out _ _ (hin _ _ _)).mono ?_; rintro e wc ⟨a0, a1, a2, a3, a4, a5, aO, rfl, hoa⟩)
      | (go_at_call 27; have hx := hg4; clear hx; refine (eqI32_same _ _ _ _ _ hn hBB.a5 hBB.b5).mono ?_; rintro e wz5 ⟨rfl, hg5⟩; replace hBB := hBB.grow hg5)
      | (go_at_call 27; have hx := hg3; clear hx; refine (eqI32_same _ _ _ _ _ hn hBB.a4 hBB.b4).mono ?_; rintro e wz4 ⟨rfl, hg4⟩; replace hBB := hBB.grow hg4)
      | (go_at_call 27; have hx := hg2; clear hx; refine (eqI32_same _ _ _ _ _ hn hBB.a3 hBB.b3).mono ?_; rintro e wz3 ⟨rfl, hg3⟩; replace hBB := hBB.grow hg3)
      | (go_at_call 27; have hx := hg1; clear hx; refine (eqI32_same _ _ _ _ _ hn hBB.a2 hBB.b2).mono ?_; rintro e wz2 ⟨rfl, hg2⟩; replace hBB := hBB.grow hg2)
      | (go_at_call 27; have hx := hg0; clear hx; refine (eqI32_same _ _ _ _ _ hn hBB.a1 hBB.b1).mono ?_; rintro e wz1 ⟨rfl, hg1⟩; replace hBB := hBB.grow hg1)
      | (go_at_call 27; refine (eqI32_same _ _ _ _ _ hn hBB.a0 hBB.b0).mono ?_; rintro e wz0 ⟨rfl, hg0⟩; replace hBB := hBB.grow hg0))
    go_ret
    exact ⟨rfl, hBB.below⟩
end Go.Proofs.Qxb6603687a
