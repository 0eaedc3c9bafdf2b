/-
  FnNewCausalOrderRelabel (6): the law's walk.
-/
import Derived.Test.Qxb6603687aRelPlain
import Derived.Test.Qxb6603687aEqI
import Derived.Test.Qxb6603687aCopy
import Derived.WalkKit
import Derived.WalkSpells
import Derived.Deep.QuietTactic
import Derived.BigQuiet
namespace Go.Proofs.Qxb6603687a
open Go.RowKit Go.Maps
set_option linter.unusedVariables false

/-- Both answers stand. -/
structure Both (H : Hist) (w0 : World) (a0 a1 a2 a3 a4 a5 b0 b1 b2 b3 b4 b5 : Nat) (w : World) : Prop where
  below : Below w0.heap.size w0 w
  a0 : RowFn w a0 21 .i32 H.n (fun j => (sn H.s j : Int))
  a1 : RowFn w a1 21 .i32 H.n (fun j => (cnt H.s (H.s j) (j + 1) : Int))
  a2 : RowFn w a2 21 .i32 H.n (fun j => lastB H.s (H.s j) j)
  a3 : RowFn w a3 21 .i32 H.n (fun j => fromOf H j)
  a4 : RowFn w a4 21 .i32 H.n (fun _ => 0)
  a5 : RowFn w a5 21 .i32 H.n (fun j => (reads H (j : Int) H.n : Int))
  b0 : RowFn w b0 21 .i32 H.n (fun j => (sn H.s j : Int))
  b1 : RowFn w b1 21 .i32 H.n (fun j => (cnt H.s (H.s j) (j + 1) : Int))
  b2 : RowFn w b2 21 .i32 H.n (fun j => lastB H.s (H.s j) j)
  b3 : RowFn w b3 21 .i32 H.n (fun j => fromOf H j)
  b4 : RowFn w b4 21 .i32 H.n (fun _ => 0)
  b5 : RowFn w b5 21 .i32 H.n (fun j => (reads H (j : Int) H.n : Int))
theorem Both.grow {H : Hist} {w0 : World} {a0 a1 a2 a3 a4 a5 b0 b1 b2 b3 b4 b5 : Nat} {w w' : World} (h : Both H w0 a0 a1 a2 a3 a4 a5 b0 b1 b2 b3 b4 b5 w) (hg : w.grownBy w' none) : Both H w0 a0 a1 a2 a3 a4 a5 b0 b1 b2 b3 b4 b5 w' :=
  ⟨below_grown h.below hg (Nat.le_refl _) (fun k e => by cases e), h.a0.kept hg (by simp), h.a1.kept hg (by simp), h.a2.kept hg (by simp), h.a3.kept hg (by simp), h.a4.kept hg (by simp), h.a5.kept hg (by simp), h.b0.kept hg (by simp), h.b1.kept hg (by simp), h.b2.kept hg (by simp), h.b3.kept hg (by simp), h.b4.kept hg (by simp), h.b5.kept hg (by simp)⟩
theorem both_mk {H : Hist} {w0 wb wc wd we : World} {a0 a1 a2 a3 a4 a5 aO b0 b1 b2 b3 b4 b5 bO : Nat} (hb : Below w0.heap.size w0 wb) (ha : Ordered H wb a0 a1 a2 a3 a4 a5 aO wc) (hd : Below wc.heap.size wc wd) (he : Ordered H wd b0 b1 b2 b3 b4 b5 bO we) : Both H w0 a0 a1 a2 a3 a4 a5 b0 b1 b2 b3 b4 b5 we := by
  have h1 : Below wc.heap.size wc we := hd.trans (he.below.mono hd.size)
  have h2 : Below w0.heap.size w0 we := (hb.trans (ha.below.mono hb.size)).trans (h1.mono (Nat.le_trans hb.size ha.below.size))
  exact ⟨h2, ha.r0.below h1 ha.r0.lt, ha.r1.below h1 ha.r1.lt, ha.r2.below h1 ha.r2.lt, ha.r3.below h1 ha.r3.lt, ha.r4.below h1 ha.r4.lt, ha.r5.below h1 ha.r5.lt, he.r0, he.r1, he.r2, he.r3, he.r4, he.r5⟩

attribute [local go_sem ↓] Go.wp_at_zero Go.wp_at_succ
set_option maxRecDepth 100000 in
set_option maxHeartbeats 2000000 in
theorem law6_main (ad : Option Addr) (cap : Nat) (sk vk : Int) (H : Hist) (w : World) (h0 : 0 < H.n) (hn : H.n ≤ 4096) (hx : ∀ k, k < H.n → (H.x k).size ≤ 9223372036854775807) (hin : IsOps w (.slice ad H.n cap) H) 
    (hz : ∀ v w, IsOps w v H → Calls Try.prog 25 #[v] w fun e w' => ZznPost H w e w')
    (hz2 : Short H H.n → ∀ v w, IsOps w v (relab H sk vk) → Calls Try.prog 25 #[v] w fun e w' => ZznPost H w e w') :
    Calls Try.prog 6 #[.slice ad H.n cap, .int .i64 sk, .int .i64 vk] w fun e w' => e = .returned (.bool true) ∧ Below w.heap.size w w' := by
  have HZ : Hid (∀ v w, IsOps w v H → Calls Try.prog 25 #[v] w fun e w' => ZznPost H w e w') := hz
  have HZ2 : Hid (Short H H.n → ∀ v w, IsOps w v (relab H sk vk) → Calls Try.prog 25 #[v] w fun e w' => ZznPost H w e w') := hz2
  clear hz hz2
  have hmk : ∀ w, (Instr.makeSlice 22 (.int .i64 (H.n : Int)) (.int .i64 (H.n : Int))).run Try.prog w = .ok (.slice (some ⟨w.heap.size, 0, none⟩) H.n H.n) (w.alloc (.cells (zeros4 H.n) 37)) :=
    fun w => run_mk (P := Try.prog) 22 37 _ 4 40 Try.underlying22 info37 H.n (by omega) (by omega) w
  go_enter Try.func6, Try.ntmps6
  go_wp2_with (first
    | (go_at_call 26; refine (bytes26_any _ _ _ H _ (by omega) hx hin).mono ?_; rintro e wx ⟨⟨q, rfl, hq⟩, rfl⟩; cases q)
    | (go_at_call 8; refine (opBytes_any _ H _ (by omega) hin).mono ?_; rintro e wx ⟨⟨q, rfl⟩, rfl⟩)
    | (go_at_call 10; refine (copyOps_any _ H _ hn hin).mono ?_; rintro e wa ⟨hba, hcp⟩; rcases hcp with ⟨hc0, _⟩ | ⟨rfl, C, hgH, hC⟩; (exact absurd hc0 (by omega))))
  · go_ret
    exact ⟨rfl, Below.refl _ _⟩
  · go_ret
    exact ⟨rfl, Below.refl _ _⟩
  · have HSH : Hid (Short H H.n) := (hq (by trivial)).2
    clear hq hmk hin hx
    obtain ⟨gH, N, wd, hgHe, hNe, hwd, hbd, hgH2, hgN, hlt0⟩ : ∃ gH N wd, w.heap.size = gH ∧ wa.heap.size = N ∧ wa.alloc (.cells (zeros4 H.n) 37) = wd ∧ Below w.heap.size w wd ∧ Blk wd gH 37 C ∧ Blk wd N 37 (zeros4 H.n) ∧ gH < N :=
      ⟨_, _, _, rfl, rfl, rfl, hba.alloc hba.size _, hgH.alloc _, Blk.new _ _ _, hgH.lt⟩
    have hNl : w.heap.size ≤ N := by rw [← hNe]; exact hba.size
    rw [hwd, hNe, hgHe]
    clear hwd hNe hgHe hba hgH
    go_loopw [8] (fun i wr => ∃ k : Nat, k ≤ H.n ∧ i = .int .i64 k ∧ ∃ D, Below w.heap.size w wr ∧ Blk wr gH 37 C ∧ Blk wr N 37 D ∧ Holds4 D (relab H sk vk) k) (fun i _ => H.n - (intOf i).toNat)
    case atStart => exact ⟨0, Nat.zero_le _, rfl, _, hbd, hgH2, hgN, holds4_start (relab H sk vk)⟩
    case round =>
      clear hbd hgH2 hgN
      obtain ⟨k, hk, rfl, D, hB, hbC, hb, hD⟩ := hrel
      by_cases hlt : k < H.n
      · have hA := hC.opsIn hbC
        have g0 := hA.c0 k hlt
        have g1 := hA.c1 k hlt
        have g2 := hA.c2 k hlt
        have g3 := hA.c3 k hlt
        simp only [Nat.zero_add] at g0 g1 g2 g3
        clear hA
        obtain ⟨o0, o1, o2, o3, q0, q1, q2, q3⟩ := hD.room hlt
        have p0 := hb.cellIs q0
        have p1 := hb.cellIs q1
        have p2 := hb.cellIs q2
        have p3 := hb.cellIs q3
        have f0 := hb.frozen (k * 4)
        have f1 := hb.frozen (k * 4 + 1)
        have f2 := hb.frozen (k * 4 + 2)
        have f3 := hb.frozen (k * 4 + 3)
        clear q0 q1 q2 q3
        have hne : gH ≠ N := by omega
        have hne' : N ≠ gH := hne.symm
        have i0 : (0 : Int) ≤ (k : Int) := by omega
        have i1 : (k : Int) < (H.n : Int) := by omega
        have hxs : (H.x k).size ≤ 1048576 := HSH.out k hlt
        have hxa : ¬ (9223372036854775807 < 1 + (H.x k).size) := by omega
        have hxb : 1 + (H.x k).size ≤ 9223372036854775807 := by omega
        have hxc : ∀ w, (Op.stringOp .add ⟨#[126]⟩ (H.x k)).run Try.prog w = .ok (.string (⟨#[126]⟩ ++ H.x k)) w := fun w => run_string_add_sum w _ _ (by show 1 + (H.x k).size ≤ _; omega)
        go_wp2
        go_region_held3 (fun w' => w'.cell? ⟨gH, k * 4, none⟩ = some (.int .i64 (H.s k)) ∧ w'.cell? ⟨gH, k * 4 + 1, none⟩ = some (.int .u8 (H.o k)) ∧ w'.cell? ⟨gH, k * 4 + 2, none⟩ = some (.int .i64 (H.v k)) ∧ w'.cell? ⟨gH, k * 4 + 3, none⟩ = some (.string (H.x k))) (go_keep) (fail)
        go_wp2
        go_roundw
        case rel => exact ⟨k + 1, by omega, by go_num, _, ((((hB.setCell hNl _).setCell hNl _).setCell hNl _).setCell hNl _).drew, ((((hbC.other hne _).other hne _).other hne _).other hne _).drew, ((((hb.set _ _).set _ _).set _ _).set _ _).drew, hD.step hlt⟩
        case measure => simp [intOf]; omega
      · have hD2 : Holds4 D (relab H sk vk) (relab H sk vk).n := hD.full (by show H.n ≤ k; omega)
        clear hD
        go_wp2_with (first
          | (go_at_call 13; have hx := hbN; clear hx; refine (toHist_any _ (relab H sk vk) _ hn (.inr ⟨_, _, _, rfl, hD2.opsIn hbN⟩)).mono ?_; rintro e wd2 ⟨hbd, hcp⟩; rcases hcp with ⟨hc0, _⟩ | ⟨rfl, D', hgD', hD'⟩; (exact absurd hc0 (by show ¬ H.n = 0; omega)))
          | (go_at_call 13; refine (toHist_any _ H _ hn (.inr ⟨_, _, _, rfl, hC.opsIn hbC⟩)).mono ?_; rintro e wb ⟨hbb, hcp⟩; rcases hcp with ⟨hc0, _⟩ | ⟨rfl, C', hgH', hC'⟩; (exact absurd hc0 (by omega)))
          | (go_at_call 25; have hx := hbN; clear hx; refine (HZ2.out HSH.out _ _ (.inr ⟨_, _, _, rfl, hD'.opsIn hgD'⟩)).mono ?_; rintro e we ⟨b0, b1, b2, b3, b4, b5, bO, rfl, hob⟩; have hBB := both_mk (hB.trans (hbb.mono hB.size)) hoa hbd hob; clear hoa hbd hob hbb hB hbN hgD' hD' hgH' hC')
          | (go_at_call 25; refine (HZ.out _ _ (.inr ⟨_, _, _, rfl, hC'.opsIn hgH'⟩)).mono ?_; rintro e wc ⟨a0, a1, a2, a3, a4, a5, aO, rfl, hoa⟩; have hbN := (hb.below hbb hb.lt).below hoa.below (hb.below hbb hb.lt).lt)
          | (go_at_call 27; have hx := hg4; clear hx; refine (eqI32_same _ _ _ _ _ hn hBB.a5 hBB.b5).mono ?_; rintro e wz5 ⟨rfl, hg5⟩; replace hBB := hBB.grow hg5)
          | (go_at_call 27; have hx := hg3; clear hx; refine (eqI32_same _ _ _ _ _ hn hBB.a4 hBB.b4).mono ?_; rintro e wz4 ⟨rfl, hg4⟩; replace hBB := hBB.grow hg4)
          | (go_at_call 27; have hx := hg2; clear hx; refine (eqI32_same _ _ _ _ _ hn hBB.a3 hBB.b3).mono ?_; rintro e wz3 ⟨rfl, hg3⟩; replace hBB := hBB.grow hg3)
          | (go_at_call 27; have hx := hg1; clear hx; refine (eqI32_same _ _ _ _ _ hn hBB.a2 hBB.b2).mono ?_; rintro e wz2 ⟨rfl, hg2⟩; replace hBB := hBB.grow hg2)
          | (go_at_call 27; have hx := hg0; clear hx; refine (eqI32_same _ _ _ _ _ hn hBB.a1 hBB.b1).mono ?_; rintro e wz1 ⟨rfl, hg1⟩; replace hBB := hBB.grow hg1)
          | (go_at_call 27; refine (eqI32_same _ _ _ _ _ hn hBB.a0 hBB.b0).mono ?_; rintro e wz0 ⟨rfl, hg0⟩; replace hBB := hBB.grow hg0))
        go_ret
        exact ⟨rfl, hBB.below⟩

end Go.Proofs.Qxb6603687a
