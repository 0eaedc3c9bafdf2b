/-
  FnNewCausalOrderExact (5): the law's walk, for an empty history.
-/
import Derived.Test.Qxb6603687aLaw5Plain
import Derived.Test.Qxb6603687aCopy
import Derived.WalkKit
import Derived.WalkSpells
namespace Go.Proofs.Qxb6603687a
open Go.RowKit Go.Maps
set_option linter.unusedVariables false

theorem Copied.ops {t : TypeId} {w w' : World} {H : Hist} {e : Ending} (h : Copied t w H e w') (h0 : H.n = 0) : ∃ ad, e = .returned (.slice ad 0 0) ∧ Below w.heap.size w w' := by
  rcases h with ⟨hb, ⟨_, he⟩ | ⟨he, _⟩⟩
  · exact ⟨none, he, hb⟩
  · exact ⟨_, by rw [he, h0], hb⟩

set_option maxRecDepth 100000 in
set_option maxHeartbeats 1000000 in
theorem law5_empty (ad : Option Addr) (cap : Nat) (H : Hist) (w : World) (h0 : H.n = 0) 
    (hz : ∀ v w, IsOps w v H → Calls Try.prog 25 #[v] w fun e w' => ZznPost H w e w') :
    Calls Try.prog 5 #[.slice ad 0 cap] w fun e w' => e = .returned (.bool true) ∧ Below w.heap.size w w' := by
  have hin : ∀ ad cap w, IsOps w (.slice ad 0 cap) H := fun ad cap w => .inl ⟨ad, cap, rfl, h0⟩
  have HZ : Hid (∀ v w, IsOps w v H → Calls Try.prog 25 #[v] w fun e w' => ZznPost H w e w') := hz
  clear hz
  have hnb : nb H.s 0 = 0 := rfl
  have hz1 : (zeros .i64 1)[0]? = some (.int .i64 0) := zeros_at _ _ _ (by omega)
  have hmk := fun w => run_mk64 0 (by omega) w
  have hmk1 := fun w => run_mk64 1 (by omega) w
  have ec : ((1 : Nat) : Int) = 1 := rfl
  have ec0 : ((0 : Nat) : Int) = 0 := rfl
  simp only [ec] at hmk1
  simp only [ec0] at hmk
  clear ec ec0
  go_enter Try.func5, Try.ntmps5
  go_wp2_with (first
    | (go_at_call 24; refine (bytes24_any _ H _ (by omega) (fun k hk => by omega) (hin _ _ _)).mono ?_; rintro e wx ⟨⟨q, rfl, hq⟩, rfl⟩; cases q)
    | (go_at_call 8; refine (opBytes_any _ H _ (by omega) (hin _ _ _)).mono ?_; rintro e wx ⟨⟨q, rfl⟩, rfl⟩)
    | (go_at_call 10; refine (copyOps_any _ H _ (by omega) (hin _ _ _)).mono ?_; intro e wa hcp; obtain ⟨a1, rfl, hba⟩ := hcp.ops h0; clear hcp)
    | (go_at_call 13; refine (toHist_any _ H _ (by omega) (hin _ _ _)).mono ?_; intro e wb hcp; obtain ⟨a2, rfl, hbb⟩ := hcp.ops h0; clear hcp)
    | (go_at_call 25; refine (HZ.out _ _ (hin _ _ _)).mono ?_; rintro e wc ⟨g0, g1, g2, g3, g4, g5, gO, rfl, hord⟩; have hbc := hord.below; clear hord))
  · go_ret
    exact ⟨rfl, Below.refl _ _⟩
  · go_ret
    exact ⟨rfl, Below.refl _ _⟩
  · refine wp_loop_rounds 1 ?_
    rw [rounds_succ]
    go_wp2
    refine wp_loop_rounds 1 ?_
    rw [rounds_succ]
    go_wp2
    refine wp_loop_rounds 1 ?_
    rw [rounds_succ]
    go_wp2
    refine wp_loop_rounds 1 ?_
    rw [rounds_succ]
    go_wp2
    go_ret
    refine ⟨rfl, ?_⟩
    have h1 := (hba.trans (hbb.mono hba.size)).trans (hbc.mono (Nat.le_trans hba.size hbb.size))
    have hs := h1.size
    exact ((h1.alloc hs _).alloc (by simp; omega) _).alloc (by simp; omega) _
end Go.Proofs.Qxb6603687a
