/-
  zzSet (30): a writeSet out of its indices and its words.
-/
import Derived.Test.Qxb6603687aUPlain
import Derived.Deep.RegionHeld3
import Derived.Deep.DrawnRows
namespace Go.Proofs.Qxb6603687a
open Go.RowKit Go.Maps
set_option linter.unusedVariables false

/-- What zzSet leaves: a row of its own. -/
def SetP (S : Wd) (w : World) (e : Ending) (w' : World) : Prop := ∃ ad, e = .returned (.slice ad S.n S.n) ∧ Below w.heap.size w w' ∧ w'.ownsRow w.heap.size 82 2 (.slice ad S.n S.n) S.n (flatW S S.n)

attribute [local go_sem ↓] Go.wp_at_zero Go.wp_at_succ
set_option maxHeartbeats 1000000 in
theorem zzSet_any (a1 a2 : Option Addr) (S : Wd) (w : World) (hn : S.n ≤ 65536) (h1 : Ints w a1 .i64 S.n S.ix) (h2 : Ints w a2 .u64 S.n S.bt) :
    Calls Try.prog 30 #[.slice a1 S.n S.n, .slice a2 S.n S.n] w fun e w' => SetP S w e w' := by
  have hnil := fun w => Lib.run_eql_slice_nil (P := Try.prog) w 35 3 a1 S.n S.n 0 0 Try.underlying35
  have hmk : (Instr.makeSlice 78 (.int .i64 (S.n : Int)) (.int .i64 (S.n : Int))).run Try.prog w = .ok (.slice (some ⟨w.heap.size, 0, none⟩) S.n S.n) (w.alloc (.cells (zeros2 S.n) 82)) :=
    run_mk (P := Try.prog) 78 82 _ 2 16 Try.underlying78 info82 S.n (by omega) (by omega) w
  cases a1 with
  | none =>
    have h0 := h1.nil
    rw [h0] at hnil hmk ⊢
    go_enter Try.func30, Try.ntmps30
    go_wp2
    go_ret
    exact ⟨none, by rw [h0]; rfl, Below.refl _ _, by rw [h0]; exact World.ownsRow_nil _ _ _ _⟩
  | some a =>
    go_enter Try.func30, Try.ntmps30
    go_wp2
    clear hmk hnil
    obtain ⟨N, w1, hN, hw1, hb1, hr1⟩ : ∃ N w1, w.heap.size = N ∧ w.alloc (.cells (zeros2 S.n) 82) = w1 ∧ Below w.heap.size w w1 ∧ Blk w1 N 82 (zeros2 S.n) := ⟨_, _, rfl, rfl, (Below.refl _ _).alloc (Nat.le_refl _) _, Blk.new _ _ _⟩
    rw [hw1, hN]
    have hNl : w.heap.size ≤ N := by omega
    have hNe : Hid (w.heap.size = N) := hN
    clear hw1 hN
    go_loopw [6] (fun i wr => ∃ k : Nat, k ≤ S.n ∧ i = .int .i64 k ∧ ∃ C, Below w.heap.size w wr ∧ Blk wr N 82 C ∧ HoldsW C S k) (fun i _ => S.n - (intOf i).toNat)
    case atStart => exact ⟨0, Nat.zero_le _, rfl, _, hb1, hr1, holdsW_start S⟩
    case round =>
      clear hb1 hr1
      obtain ⟨k, hk, rfl, C, hB, hb, hC⟩ := hrel
      by_cases hlt : k < S.n
      · obtain ⟨b, off, hae, hlb, c1⟩ := h1.at_ hlt
        obtain ⟨b2, off2, hae2, hlb2, c2⟩ := h2.at_ hlt
        have c1' := (hB.cell (p := ⟨b, off + k, none⟩) hlb).trans c1
        have c2' := (hB.cell (p := ⟨b2, off2 + k, none⟩) hlb2).trans c2
        cases hae
        cases hae2
        obtain ⟨o0, o1, q0, q1⟩ := hC.room hlt
        have p0 := hb.cellIs q0
        have p1 := hb.cellIs q1
        have f0 := hb.frozen (k * 2)
        have f1 := hb.frozen (k * 2 + 1)
        clear q0 q1 c1 c2
        have hne : b ≠ N := by omega
        have hne' : N ≠ b := hne.symm
        have hne2 : b2 ≠ N := by omega
        have hne2' : N ≠ b2 := hne2.symm
        have i0 : (0 : Int) ≤ (k : Int) := by omega
        have i1 : (k : Int) < (S.n : Int) := by omega
        go_wp2
        go_region_held3 (fun w' => w'.cell? ⟨b, off + k, none⟩ = some (.int .i64 (S.ix k)) ∧ w'.cell? ⟨b2, off2 + k, none⟩ = some (.int .u64 (S.bt k))) (go_keep) (fail)
        go_wp2
        go_roundw
        case rel => exact ⟨k + 1, by omega, by go_num, _, ((hB.setCell hNl _).setCell hNl _).drew, ((hb.set _ _).set _ _).drew, hC.step hlt⟩
        case measure => simp [intOf]; omega
      · go_wp2
        go_ret
        have hf := (hC.full (by omega)).flat
        exact ⟨_, rfl, hB, flatW_length S S.n, .inr ⟨N, S.n, C, rfl, by have := hNe.out; omega, hb, Nat.le_refl _, by unfold maxLen; omega, hC.size, by rw [hf, List.take_of_length_le (by rw [flatW_length]; exact Nat.le_refl _)]⟩⟩
end Go.Proofs.Qxb6603687a
