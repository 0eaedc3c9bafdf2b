/-
  The functions that copy a history: copyOps (10), toHistory (13).
-/
import Derived.Test.Qxb6603687aBlk
import Derived.WalkKit
import Derived.WalkSpells
import Derived.Deep.RegionHeld3
import Derived.Deep.DrawnRows
namespace Go.Proofs.Qxb6603687a
open Go.RowKit
set_option linter.unusedVariables false

theorem info37 : (Try.prog.info? 37).map (fun i => (i.zero, i.size, i.bytes)) = some (some (.agg #[.int .i64 0, .int .u8 0, .int .i64 0, .string ⟨#[]⟩]), 4, 40) := by kernel_rfl
theorem info69 : (Try.prog.info? 69).map (fun i => (i.zero, i.size, i.bytes)) = some (some (.agg #[.int .i64 0, .int .u8 0, .int .i64 0, .string ⟨#[]⟩]), 4, 40) := by kernel_rfl

set_option maxHeartbeats 400000 in
theorem copyOps_any (v : Value) (H : Hist) (w : World) (hn : H.n ≤ 4096) (hin : IsOps w v H) :
    Calls Try.prog 10 #[v] w fun e w' => Copied 37 w H e w' := by
  rcases hin with ⟨ad, cap, rfl, h0⟩ | ⟨b, off, cap, rfl, hin⟩
  · have hnil := fun w => Lib.run_eql_slice_nil (P := Try.prog) w 22 37 ad 0 cap 0 0 Try.underlying22
    cases ad with
    | none =>
      go_enter Try.func10, Try.ntmps10
      go_wp2
      go_ret
      exact copied_nil 37 _ h0 rfl
    | some a =>
      have hmk : (Instr.makeSlice 22 (.int .i64 0) (.int .i64 0)).run Try.prog w = .ok (.slice (some ⟨w.heap.size, 0, none⟩) 0 0) (w.alloc (.cells (zeros4 0) 37)) :=
        run_mk (P := Try.prog) 22 37 _ 4 40 Try.underlying22 info37 0 (by omega) (by omega) w
      go_enter Try.func10, Try.ntmps10
      go_wp2
      refine wp_loop_rounds 1 ?_
      rw [rounds_succ]
      go_wp2
      go_ret
      exact copied_none 37 _ h0 rfl
  · have hmk : (Instr.makeSlice 22 (.int .i64 (H.n : Int)) (.int .i64 (H.n : Int))).run Try.prog w = .ok (.slice (some ⟨w.heap.size, 0, none⟩) H.n H.n) (w.alloc (.cells (zeros4 H.n) 37)) :=
      run_mk (P := Try.prog) 22 37 _ 4 40 Try.underlying22 info37 H.n (by omega) (by omega) w
    have hnil := fun w => Lib.run_eql_slice_nil (P := Try.prog) w 22 37 (some ⟨b, off, none⟩) H.n cap 0 0 Try.underlying22
    go_enter Try.func10, Try.ntmps10
    go_wp2
    clear hmk hnil
    go_loopw [4] (fun i wr => ∃ k : Nat, k ≤ H.n ∧ i = .int .i64 k ∧ ∃ C : Array Value, Below w.heap.size w wr ∧ Blk wr w.heap.size 37 C ∧ Holds4 C H k) (fun i _ => H.n - (intOf i).toNat)
    case atStart => exact ⟨0, Nat.zero_le _, rfl, _, (Below.refl _ _).alloc (Nat.le_refl _) _, Blk.new _ _ _, holds4_start H⟩
    case round =>
      obtain ⟨k, hk, rfl, C, hB, hb, hC⟩ := hrel
      by_cases hlt : k < H.n
      · have hA := hin.below hB
        have g0 := hA.c0 k hlt
        have g1 := hA.c1 k hlt
        have g2 := hA.c2 k hlt
        have g3 := hA.c3 k hlt
        clear hA
        obtain ⟨o0, o1, o2, o3, q0, q1, q2, q3⟩ := hC.room hlt
        have p0 := hb.cellIs q0
        have p1 := hb.cellIs q1
        have p2 := hb.cellIs q2
        have p3 := hb.cellIs q3
        have f0 := hb.frozen (k * 4)
        have f1 := hb.frozen (k * 4 + 1)
        have f2 := hb.frozen (k * 4 + 2)
        have f3 := hb.frozen (k * 4 + 3)
        clear q0 q1 q2 q3
        go_wp2
        go_roundw
        case rel => exact ⟨k + 1, by omega, by go_num, _, (((hB.setCell (Nat.le_refl _) _).setCell (Nat.le_refl _) _).setCell (Nat.le_refl _) _).setCell (Nat.le_refl _) _, (((hb.set _ _).set _ _).set _ _).set _ _, hC.step hlt⟩
        case measure => simp [intOf]; omega
      · go_wp2
        go_ret
        exact copied_row rfl hB hb (hC.full (by omega))

attribute [local go_sem ↓] Go.wp_at_zero Go.wp_at_succ
set_option maxHeartbeats 1000000 in
theorem toHist_any (v : Value) (H : Hist) (w : World) (hn : H.n ≤ 4096) (hin : IsOps w v H) :
    Calls Try.prog 13 #[v] w fun e w' => Copied 69 w H e w' := by
  rcases hin with ⟨ad, cap, rfl, h0⟩ | ⟨b, off, cap, rfl, hin⟩
  · have hnil := fun w => Lib.run_eql_slice_nil (P := Try.prog) w 22 37 ad 0 cap 0 0 Try.underlying22
    cases ad with
    | none =>
      go_enter Try.func13, Try.ntmps13
      go_wp2
      go_ret
      exact copied_nil 69 _ h0 rfl
    | some a =>
      have hmk : (Instr.makeSlice 33 (.int .i64 0) (.int .i64 0)).run Try.prog w = .ok (.slice (some ⟨w.heap.size, 0, none⟩) 0 0) (w.alloc (.cells (zeros4 0) 69)) :=
        run_mk (P := Try.prog) 33 69 _ 4 40 Try.underlying33 info69 0 (by omega) (by omega) w
      go_enter Try.func13, Try.ntmps13
      go_wp2
      refine wp_loop_rounds 1 ?_
      rw [rounds_succ]
      go_wp2
      go_ret
      exact copied_none 69 _ h0 rfl
  · have hmk : (Instr.makeSlice 33 (.int .i64 (H.n : Int)) (.int .i64 (H.n : Int))).run Try.prog w = .ok (.slice (some ⟨w.heap.size, 0, none⟩) H.n H.n) (w.alloc (.cells (zeros4 H.n) 69)) :=
      run_mk (P := Try.prog) 33 69 _ 4 40 Try.underlying33 info69 H.n (by omega) (by omega) w
    have hnil := fun w => Lib.run_eql_slice_nil (P := Try.prog) w 22 37 (some ⟨b, off, none⟩) H.n cap 0 0 Try.underlying22
    go_enter Try.func13, Try.ntmps13
    go_wp2
    clear hmk hnil
    go_loopw [4] (fun i wr => ∃ k : Nat, k ≤ H.n ∧ i = .int .i64 k ∧ ∃ C : Array Value, Below w.heap.size w wr ∧ Blk wr w.heap.size 69 C ∧ Holds4 C H k) (fun i _ => H.n - (intOf i).toNat)
    case atStart => exact ⟨0, Nat.zero_le _, rfl, _, (Below.refl _ _).alloc (Nat.le_refl _) _, Blk.new _ _ _, holds4_start H⟩
    case round =>
      obtain ⟨k, hk, rfl, C, hB, hb, hC⟩ := hrel
      by_cases hlt : k < H.n
      · have hA := hin.below hB
        have g0 := hA.c0 k hlt
        have g1 := hA.c1 k hlt
        have g2 := hA.c2 k hlt
        have g3 := hA.c3 k hlt
        clear hA
        obtain ⟨o0, o1, o2, o3, q0, q1, q2, q3⟩ := hC.room hlt
        have p0 := hb.cellIs q0
        have p1 := hb.cellIs q1
        have p2 := hb.cellIs q2
        have p3 := hb.cellIs q3
        have f0 := hb.frozen (k * 4)
        have f1 := hb.frozen (k * 4 + 1)
        have f2 := hb.frozen (k * 4 + 2)
        have f3 := hb.frozen (k * 4 + 3)
        clear q0 q1 q2 q3
        have hne : b ≠ w.heap.size := by have := hin.lt (by omega); omega
        have hne' : w.heap.size ≠ b := hne.symm
        have i0 : (0 : Int) ≤ (k : Int) := by omega
        have i1 : (k : Int) < (H.n : Int) := by omega
        go_wp2
        go_region_held3 (fun w' => w'.cell? ⟨b, off + k * 4, none⟩ = some (.int .i64 (H.s k)) ∧ w'.cell? ⟨b, off + k * 4 + 1, none⟩ = some (.int .u8 (H.o k)) ∧ w'.cell? ⟨b, off + k * 4 + 2, none⟩ = some (.int .i64 (H.v k)) ∧ w'.cell? ⟨b, off + k * 4 + 3, none⟩ = some (.string (H.x k))) (go_keep) (fail)
        go_wp2
        go_roundw
        case rel => exact ⟨k + 1, by omega, by go_num, _, ((((hB.setCell (Nat.le_refl _) _).setCell (Nat.le_refl _) _).setCell (Nat.le_refl _) _).setCell (Nat.le_refl _) _).drew, ((((hb.set _ _).set _ _).set _ _).set _ _).drew, hC.step hlt⟩
        case measure => simp [intOf]; omega
      · go_wp2
        go_ret
        exact copied_row rfl hB hb (hC.full (by omega))
end Go.Proofs.Qxb6603687a
