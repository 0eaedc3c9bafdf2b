/-
  FnNewCausalOrderExact (5): the law's walk, for a history that is not empty.
-/
import Derived.Test.Qxb6603687aLaw5Plain
import Derived.Test.Qxb6603687aCopy
import Derived.WalkKit
import Derived.WalkSpells
import Derived.Deep.QuietTactic
import Derived.BigQuiet
namespace Go.Proofs.Qxb6603687a
open Go.RowKit Go.Maps
set_option linter.unusedVariables false

set_option maxRecDepth 100000 in
set_option maxHeartbeats 8000000 in
theorem law5_main (v : Value) (H : Hist) (w : World) (h0 : 0 < H.n) (hn : H.n ≤ 4096) (hx : ∀ k, k < H.n → (H.x k).size ≤ 9223372036854775807) (hin : IsOps w v H) (hl : ∃ ad cap, v = .slice ad H.n cap)
    (hz : ∀ v w, IsOps w v H → Calls Try.prog 25 #[v] w fun e w' => ZznPost H w e w') :
    Calls Try.prog 5 #[v] w fun e w' => e = .returned (.bool true) ∧ Below w.heap.size w w' := by
  obtain ⟨ad, cap, rfl⟩ := hl
  have HZ : Hid (∀ v w, IsOps w v H → Calls Try.prog 25 #[v] w fun e w' => ZznPost H w e w') := hz
  clear hz
  have hmk := fun w => run_mk64 H.n (by omega) w
  have hmk1 := fun w => run_mk64 (H.n + 1) (by omega) w
  have ec : ((H.n + 1 : Nat) : Int) = (H.n : Int) + 1 := by omega
  simp only [ec] at hmk1
  clear ec
  go_enter Try.func5, Try.ntmps5
  go_wp2_with (first
    | (go_at_call 24; refine (bytes24_any _ H _ (by omega) hx hin).mono ?_; rintro e wx ⟨⟨q, rfl, hq⟩, rfl⟩; cases q)
    | (go_at_call 8; refine (opBytes_any _ H _ (by omega) hin).mono ?_; rintro e wx ⟨⟨q, rfl⟩, rfl⟩)
    | (go_at_call 10; refine (copyOps_any _ H _ hn hin).mono ?_; rintro e wa ⟨hba, hcp⟩; rcases hcp with ⟨hc0, _⟩ | ⟨rfl, C, hgH, hC⟩; (exact absurd hc0 (by omega)))
    | (go_at_call 13; refine (toHist_any _ H _ hn (.inr ⟨_, _, _, rfl, hC.opsIn hgH⟩)).mono ?_; rintro e wb ⟨hbb, hcp⟩; rcases hcp with ⟨hc0, _⟩ | ⟨rfl, C', hgH', hC'⟩; (exact absurd hc0 (by omega)))
    | (go_at_call 25; refine (HZ.out _ _ (.inr ⟨_, _, _, rfl, hC'.opsIn hgH'⟩)).mono ?_; rintro e wc ⟨g0, g1, g2, g3, g4, g5, gO, rfl, hord⟩))
  · go_ret
    exact ⟨rfl, Below.refl _ _⟩
  · go_ret
    exact ⟨rfl, Below.refl _ _⟩
  · obtain ⟨gH, N, wd, hgHe, hNe, hwd, hls, hF⟩ : ∃ gH N wd, w.heap.size = gH ∧ wc.heap.size = N ∧ wc.alloc (.cells (zeros .i64 H.n) 3) = wd ∧ LSt H w N gH g0 g1 g2 g3 g4 g5 wd ∧ RowFn wd N 3 .i64 H.n (gFst H 0) :=
      ⟨_, _, _, rfl, rfl, rfl, (lst_start hba hgH hC hbb hord).alloc _, rowFn_new (fun j _ => rfl)⟩
    rw [hwd, hNe, hgHe]
    clear hwd hNe hgHe hba hgH hC hbb hord hgH' hC' hin hx hq
    go_loopw [12] (fun i wr => ∃ k : Nat, k ≤ H.n ∧ i = .int .i64 k ∧ LSt H w N gH g0 g1 g2 g3 g4 g5 wr ∧ RowFn wr N 3 .i64 H.n (gFst H k)) (fun i _ => H.n - (intOf i).toNat)
    case atStart => exact ⟨0, Nat.zero_le _, rfl, hls, hF⟩
    case round =>
      clear hls hF
      obtain ⟨k, hk, rfl, hls, hF⟩ := hrel
      by_cases hlt : k < H.n
      · have c1 := hF.cell hlt
        have f1 := hF.frozen k
        go_wp2
        obtain ⟨wd, hwd, hls2, hF2⟩ : ∃ wd, wr.setCell ⟨N, k, none⟩ (.int .i64 (k : Int)) = wd ∧ LSt H w N gH g0 g1 g2 g3 g4 g5 wd ∧ RowFn wd N 3 .i64 H.n (fun x => if x = k then (k : Int) else gFst H k x) := ⟨_, rfl, hls.set (Nat.le_refl _) _, hF.set hlt _ (fun i _ => rfl)⟩
        rw [hwd]
        clear hwd hls hF c1 f1
        go_loopw [13] (fun j wr => ∃ m : Nat, m ≤ k ∧ j = .int .i64 m ∧ LSt H w N gH g0 g1 g2 g3 g4 g5 wr ∧ RowFn wr N 3 .i64 H.n (fun x => if x = k then (k : Int) else gFst H k x) ∧ ∀ i, i < m → H.s i ≠ H.s k) (fun j _ => k - (intOf j).toNat)
        case atStart => exact ⟨0, Nat.zero_le _, rfl, hls2, hF2, fun i hi => by omega⟩
        case round =>
          clear hls2 hF2
          obtain ⟨m, hm, rfl, hls, hF, hne⟩ := hrel
          have HN : Hid (∀ i, i < m → H.s i ≠ H.s k) := hne
          clear hne
          by_cases hmk : m < k
          · have c1 := hls.cs (j := m) (by omega)
            have c2 := hls.cs (j := k) (by omega)
            by_cases hs : H.s m = H.s k
            · have hs' : (H.s m == H.s k) = true := by simp [hs]
              have HS : Hid (H.s m = H.s k) := hs
              clear hs
              have c3 := hF.cell hlt
              have f3 := hF.frozen k
              go_wp2
              go_quiet (fail)
              go_wp2
              go_roundw
              case rel => exact ⟨k + 1, by omega, by go_num, (hls.drewN _).set (Nat.le_refl _) _, (hF.drewN _).set hlt _ (fun i _ => by rw [gFst_next, fi_hit H.s hmk HS.out HN.out]; by_cases e : i = k <;> simp [e])⟩
              case measure => simp [intOf]; omega
            · have hs' : (H.s m == H.s k) = false := by simp [hs]
              go_wp2
              go_quiet (fail)
              go_wp2
              go_roundw
              case rel => exact ⟨m + 1, by omega, by go_num, hls.drewN _, hF.drewN _, fun i hi => by by_cases e : i = m; (subst e; exact hs); exact HN.out i (by omega)⟩
              case measure => simp [intOf]; omega
          · go_wp2
            go_roundw
            case rel => exact ⟨k + 1, by omega, by go_num, hls, hF.congr (fun i _ => by rw [gFst_next, fi_miss H.s (fun i hi => HN.out i (by omega))])⟩
            case measure => simp [intOf]; omega
      · have hkn : k = H.n := by omega
        subst hkn
        go_wp2
        have hNl := hF.lt
        obtain ⟨gN, wd, hgN, hwd, hls, hF, hb, hlN⟩ : ∃ gN wd, wr.heap.size = gN ∧ wr.alloc (.cells (zeros .i64 (H.n + 1)) 3) = wd ∧ LSt H w N gH g0 g1 g2 g3 g4 g5 wd ∧ RowFn wd N 3 .i64 H.n (gFst H H.n) ∧ RowFn wd gN 3 .i64 (H.n + 1) (gNew H 0) ∧ N < gN :=
          ⟨_, _, rfl, rfl, hls.alloc _, hF.alloc _, rowFn_new (fun j _ => gNew_zero H j), hNl⟩
        rw [hwd, hgN]
        clear hwd hgN hNl
        go_loopw [15] (fun i wr => ∃ k : Nat, k ≤ H.n ∧ i = .int .i64 k ∧ LSt H w N gH g0 g1 g2 g3 g4 g5 wr ∧ RowFn wr N 3 .i64 H.n (gFst H H.n) ∧ RowFn wr gN 3 .i64 (H.n + 1) (gNew H k)) (fun i _ => H.n - (intOf i).toNat)
        case atStart => exact ⟨0, Nat.zero_le _, rfl, hls, hF, hb⟩
        case round =>
          clear hls hF hb
          obtain ⟨k, hk, rfl, hls, hF, hb⟩ := hrel
          by_cases hlt : k < H.n
          · have c1 : wr.cell? ⟨gN, k, none⟩ = some (.int .i64 (nb H.s k : Int)) := by rw [hb.cell (j := k) (by omega)]; simp [gNew]
            obtain ⟨y, c2⟩ : ∃ y, wr.cell? ⟨gN, k + 1, none⟩ = some (.int .i64 y) := ⟨_, hb.cell (j := k + 1) (by omega)⟩
            have f2 := hb.frozen (k + 1)
            have c3 : wr.cell? ⟨N, k, none⟩ = some (.int .i64 (fi H.s (H.s k) k : Int)) := by rw [hF.cell hlt]; simp [gFst, hlt]
            have hnb := nb_le H.s k
            have hdN : N ≠ gN := by omega
            by_cases hf : fi H.s (H.s k) k = k
            · have hf' : ((fi H.s (H.s k) k : Int) == (k : Int)) = true := by simp [hf]
              have HF : Hid (fi H.s (H.s k) k = k) := hf
              clear hf
              go_wp2
              go_roundw
              case rel => exact ⟨k + 1, by omega, by go_num, (hls.set (by simp only; omega) _).set (by simp only; omega) _, (hF.other (by simp only; omega) _).other (by simp only; omega) _, (hb.set (j := k + 1) (by omega) _ (f' := fun i => if i = k + 1 then (nb H.s k : Int) else gNew H k i) (fun i _ => rfl)).set (by omega) _ (fun i _ => by rw [gNew_next, gNew_up H k HF.out]; by_cases e : i = k + 1 <;> simp [e])⟩
              case measure => simp [intOf]; omega
            · have hf' : ((fi H.s (H.s k) k : Int) == (k : Int)) = false := by simp; omega
              go_wp2
              go_roundw
              case rel => exact ⟨k + 1, by omega, by go_num, hls.set (by simp only; omega) _, hF.other (by simp only; omega) _, hb.set (by omega) _ (fun i _ => by rw [gNew_next, gNew_old H k hf])⟩
              case measure => simp [intOf]; omega
          · have hkn : k = H.n := by omega
            subst hkn
            have c1 : wr.cell? ⟨gN, H.n, none⟩ = some (.int .i64 (nb H.s H.n : Int)) := by rw [hb.cell (j := H.n) (by omega)]; simp [gNew]
            go_wp2
            have hbl := hb.lt
            obtain ⟨gT, wd, hgT, hwd, hls, ho⟩ : ∃ gT wd, wr.heap.size = gT ∧ wr.alloc (.cells (zeros .i64 H.n) 3) = wd ∧ LSt H w N gH g0 g1 g2 g3 g4 g5 wd ∧ Own3 H N gN gT 0 wd :=
              ⟨_, _, rfl, rfl, hls.alloc _, ⟨hF.alloc _, hb.alloc _, rowFn_new (fun j _ => rfl), hlN, hbl⟩⟩
            rw [hwd, hgT]
            clear hwd hgT hbl hF hb c1 hmk hmk1
            go_loopw [17] (fun i wr => ∃ k : Nat, k ≤ H.n ∧ i = .int .i64 k ∧ LSt H w N gH g0 g1 g2 g3 g4 g5 wr ∧ Own3 H N gN gT k wr) (fun i _ => H.n - (intOf i).toNat)
            case atStart => exact ⟨0, Nat.zero_le _, rfl, hls, ho⟩
            case round =>
              clear hls ho
              obtain ⟨k, hk, rfl, hls, ho⟩ := hrel
              by_cases hlt : k < H.n
              · obtain ⟨f, hf⟩ : ∃ f, fi H.s (H.s k) k = f := ⟨_, rfl⟩
                have hfl : f ≤ k := by rw [← hf]; exact fi_le H.s (H.s k) k
                have hnb := nb_le H.s f
                have c0 : wr.cell? ⟨g0, k, none⟩ = some (.int .i32 (nb H.s f : Int)) := by rw [hls.r0.cell hlt, sn, hf]
                have c1 : wr.cell? ⟨N, k, none⟩ = some (.int .i64 (f : Int)) := by rw [ho.f.cell hlt]; simp [gFst, hlt, hf]
                have c2 : wr.cell? ⟨gN, f, none⟩ = some (.int .i64 (nb H.s f : Int)) := by rw [ho.b.cell (j := f) (by omega)]; simp [gNew]; omega
                have i0 : (0 : Int) ≤ (k : Int) := by omega
                have i1 : (k : Int) < (H.n : Int) := by omega
                have i2 : (0 : Int) ≤ (f : Int) := by omega
                have i3 : (f : Int) < ((H.n + 1 : Nat) : Int) := by omega
                have i4 : (f : Int) < (H.n : Int) + 1 := by omega
                clear hf
                go_wp2
                go_quiet (fail)
                go_wp2
                have hls1 := hls.drewN nq
                have ho1 := ho.drewN nq
                obtain ⟨wd, hwd, hls, ho⟩ : ∃ wd, wr.drewN nq = wd ∧ LSt H w N gH g0 g1 g2 g3 g4 g5 wd ∧ Own3 H N gN gT k wd := ⟨_, rfl, hls1, ho1⟩
                rw [hwd]
                clear hwd hls1 ho1 c0 c1 c2 i2 i3 i4 hnb hfl
                go_loopw [18, 19, 20] (fun cn la j wr => ∃ m : Nat, m ≤ k + 1 ∧ j = .int .i64 m ∧ cn = .int .i64 (cnt H.s (H.s k) m : Int) ∧ la = .int .i64 (lastB H.s (H.s k) (min m k)) ∧ LSt H w N gH g0 g1 g2 g3 g4 g5 wr ∧ Own3 H N gN gT k wr) (fun _ _ j _ => k + 1 - (intOf j).toNat)
                case atStart => exact ⟨0, Nat.zero_le _, rfl, rfl, by simp [lastB], hls, ho⟩
                case round =>
                  clear hls ho
                  obtain ⟨m, hm, rfl, rfl, rfl, hls, ho⟩ := hrel
                  have hcb := cnt_le H.s (H.s k) m
                  by_cases hmk : m < k + 1
                  · have c1 := hls.cs (j := m) (by omega)
                    have c2 := hls.cs (j := k) hlt
                    have i2 : (0 : Int) ≤ (m : Int) := by omega
                    have i3 : (m : Int) < (H.n : Int) := by omega
                    by_cases hs : H.s m = H.s k
                    · have hs' : (H.s m == H.s k) = true := by simp [hs]
                      have HC : Hid ((cnt H.s (H.s k) (m + 1) : Int) = (cnt H.s (H.s k) m : Int) + 1) := by rw [Hid, ← hs, cnt_succ_same]; simp
                      have HS : Hid (H.s m = H.s k) := hs
                      clear hs
                      by_cases hmk2 : m < k
                      · have HL : Hid (lastB H.s (H.s k) (min (m + 1) k) = (m : Int)) := by rw [Hid, Nat.min_eq_left (by omega), ← HS.out, lastB_succ_same]
                        go_wp2
                        go_quiet (fail)
                        go_wp2
                        go_roundw
                        case rel => exact ⟨m + 1, by omega, by go_num, by rw [HC.out], by rw [HL.out], hls.drewN _, ho.drewN _⟩
                        case measure => simp [intOf]; omega
                      · have HL : Hid (lastB H.s (H.s k) (min (m + 1) k) = lastB H.s (H.s k) (min m k)) := by rw [Hid, Nat.min_eq_right (by omega), Nat.min_eq_right (by omega)]
                        go_wp2
                        go_quiet (fail)
                        go_wp2
                        go_roundw
                        case rel => exact ⟨m + 1, by omega, by go_num, by rw [HC.out], by rw [HL.out], hls.drewN _, ho.drewN _⟩
                        case measure => simp [intOf]; omega
                    · have hs' : (H.s m == H.s k) = false := by simp [hs]
                      have HC : Hid ((cnt H.s (H.s k) (m + 1) : Int) = (cnt H.s (H.s k) m : Int)) := by rw [Hid, cnt_succ_other H.s hs]
                      have HL : Hid (lastB H.s (H.s k) (min (m + 1) k) = lastB H.s (H.s k) (min m k)) := by
                        rw [Hid]
                        by_cases e : m < k
                        · rw [Nat.min_eq_left (by omega), Nat.min_eq_left (by omega), lastB_succ_other H.s hs]
                        · rw [Nat.min_eq_right (by omega), Nat.min_eq_right (by omega)]
                      clear hs
                      go_wp2
                      go_quiet (fail)
                      go_wp2
                      go_roundw
                      case rel => exact ⟨m + 1, by omega, by go_num, by rw [HC.out], by rw [HL.out], hls.drewN _, ho.drewN _⟩
                      case measure => simp [intOf]; omega
                  · have hmk3 : m = k + 1 := by omega
                    subst hmk3
                    have em : min (k + 1) k = k := by omega
                    rw [em]
                    clear em
                    have hcb := cnt_le H.s (H.s k) (k + 1)
                    have hlb := lastB_lt H.s (H.s k) k
                    have c1 : wr.cell? ⟨g1, k, none⟩ = some (.int .i32 (cnt H.s (H.s k) (k + 1) : Int)) := hls.r1.cell hlt
                    have c2 : wr.cell? ⟨g2, k, none⟩ = some (.int .i32 (lastB H.s (H.s k) k)) := hls.r2.cell hlt
                    obtain ⟨y, c5⟩ : ∃ y, wr.cell? ⟨gT, k, none⟩ = some (.int .i64 y) := ⟨_, ho.t.cell hlt⟩
                    have f5 := ho.t.frozen k
                    have c6 := hls.co (j := k) hlt
                    have hgT : N < gN ∧ gN < gT := ho.ne
                    have hgH : gH < N := hls.lt.1
                    have d1 : gH ≠ gT := by omega
                    have d2 : gT ≠ gH := by omega
                    clear hgH
                    have hls1 := hls.set (a := ⟨gT, k, none⟩) (by simp only; omega) (.int .i64 (-1))
                    have ho1 := ho.lay hlt
                    by_cases hop : H.o k = 114
                    · have hop' : (H.o k == 114) = true := by simp [hop]
                      have HOP : Hid (H.o k = 114) := hop
                      clear hop
                      go_wp2
                      obtain ⟨wt, hwt, hls, ho⟩ : ∃ wt, wr.setCell ⟨gT, k, none⟩ (.int .i64 (-1)) = wt ∧ LSt H w N gH g0 g1 g2 g3 g4 g5 wt ∧ Own3m H N gN gT k (-1) wt := ⟨_, rfl, hls1, ho1⟩
                      rw [hwt]
                      clear hwt hls1 ho1 c1 c2 c5 c6 f5
                      go_loopw [21, 22] (fun x j wr => ∃ m : Nat, m ≤ H.n ∧ j = .int .i64 ((m : Int) - 1) ∧ x = .int .i64 (-1) ∧ LSt H w N gH g0 g1 g2 g3 g4 g5 wr ∧ Own3m H N gN gT k (-1) wr ∧ lastW H.o (ys H) (ys H k) H.n = lastW H.o (ys H) (ys H k) m) (fun _ j _ => (intOf j + 1).toNat)
                      case atStart => exact ⟨H.n, Nat.le_refl _, rfl, rfl, hls, ho, rfl⟩
                      case round =>
                        clear hls ho
                        obtain ⟨m, hm, rfl, rfl, hls, ho, hw⟩ := hrel
                        have HW : Hid (lastW H.o (ys H) (ys H k) H.n = lastW H.o (ys H) (ys H k) m) := hw
                        clear hw
                        cases m with
                        | zero =>
                          have hfr := ho.done (fromOf_neg (k := k) (by rw [HW.out]; simp [lastW]))
                          go_wp2
                          go_quiet (fail)
                          go_wp2
                          obtain ⟨wt, hwt, hls, ho⟩ : ∃ wt, wr.drewN nq = wt ∧ LSt H w N gH g0 g1 g2 g3 g4 g5 wt ∧ Own3 H N gN gT (k + 1) wt := ⟨_, rfl, hls.drewN _, hfr.drewN _⟩
                          rw [hwt]
                          clear hwt hfr
                          have c3 : wt.cell? ⟨g3, k, none⟩ = some (.int .i32 (fromOf H k)) := hls.r3.cell hlt
                          have c4 : wt.cell? ⟨g4, k, none⟩ = some (.int .i32 0) := hls.r4.cell hlt
                          have c5 : wt.cell? ⟨gT, k, none⟩ = some (.int .i64 (fromOf H k)) := by rw [ho.t.cell hlt]; simp [gWant]
                          have hfb := fromOf_lt H k
                          go_quiet (fail)
                          go_wp2
                          go_roundw
                          case rel => exact ⟨k + 1, by omega, by go_num, hls.drewN _, ho.drewN _⟩
                          case measure => simp [intOf]; omega
                        | succ m =>
                          have ej : ((m + 1 : Nat) : Int) - 1 = (m : Int) := by omega
                          rw [ej]
                          clear ej
                          have c1 := hls.co (j := m) (by omega)
                          have c2 := hls.cx (j := m) (by omega)
                          have c3 := hls.cx (j := k) hlt
                          have i2 : (0 : Int) ≤ (m : Int) := by omega
                          have i3 : (m : Int) < (H.n : Int) := by omega
                          by_cases hhit : H.o m = 119 ∧ ys H m = ys H k
                          · obtain ⟨h1, h2⟩ := hhit
                            have h1' : (H.o m == 119) = true := by simp [h1]
                            have h2' : ((H.x m).toList == (H.x k).toList) = true := by rw [tl_eq]; exact decide_eq_true h2
                            have HL : Hid (lastW H.o (ys H) (ys H k) H.n = (m : Int)) := HW.out.trans (lastW_hit H m _ h1 h2)
                            clear h1 h2
                            go_wp2
                            go_quiet (fail)
                            obtain ⟨wt, hwt, hls, ho⟩ : ∃ wt, wr.drewN nq = wt ∧ LSt H w N gH g0 g1 g2 g3 g4 g5 wt ∧ Own3m H N gN gT k (-1) wt := ⟨_, rfl, hls.drewN _, ho.drewN _⟩
                            rw [hwt]
                            clear hwt c1 c2 c3
                            have c4 := hls.cv (j := m) (by omega)
                            have c5 := hls.cv (j := k) hlt
                            have c6 := ho.t.cell hlt
                            have f6 := ho.t.frozen k
                            by_cases hv : H.v m = H.v k
                            · have hv' : (H.v m == H.v k) = true := by simp [hv]
                              have hfr : Hid (fromOf H k = (m : Int)) := fromOf_yes HL.out HOP.out hv
                              clear hv
                              go_wp2
                              go_quiet (fail)
                              go_wp2
                              obtain ⟨wt, hwt, hls, ho⟩ : ∃ wz, (wt.drewN nq).setCell ⟨gT, k, none⟩ (.int .i64 (m : Int)) = wz ∧ LSt H w N gH g0 g1 g2 g3 g4 g5 wz ∧ Own3 H N gN gT (k + 1) wz := ⟨_, rfl, (hls.drewN _).set (by simp only; omega) _, ((ho.drewN _).put hlt _).done hfr.out⟩
                              rw [hwt]
                              clear hwt c4 c5 c6 f6
                              have c3 : wt.cell? ⟨g3, k, none⟩ = some (.int .i32 (fromOf H k)) := hls.r3.cell hlt
                              have c4 : wt.cell? ⟨g4, k, none⟩ = some (.int .i32 0) := hls.r4.cell hlt
                              have c5 : wt.cell? ⟨gT, k, none⟩ = some (.int .i64 (fromOf H k)) := by rw [ho.t.cell hlt]; simp [gWant]
                              have hfb := fromOf_lt H k
                              go_quiet (fail)
                              go_wp2
                              go_roundw
                              case rel => exact ⟨k + 1, by omega, by go_num, hls.drewN _, ho.drewN _⟩
                              case measure => simp [intOf]; omega
                            · have hv' : (H.v m == H.v k) = false := by simp [hv]
                              have hfr := ho.done (fromOf_var HL.out hv)
                              clear hv
                              go_wp2
                              go_quiet (fail)
                              go_wp2
                              obtain ⟨wt, hwt, hls, ho⟩ : ∃ wz, wt.drewN nq = wz ∧ LSt H w N gH g0 g1 g2 g3 g4 g5 wz ∧ Own3 H N gN gT (k + 1) wz := ⟨_, rfl, hls.drewN _, hfr.drewN _⟩
                              rw [hwt]
                              clear hwt c4 c5 c6 f6 hfr
                              have c3 : wt.cell? ⟨g3, k, none⟩ = some (.int .i32 (fromOf H k)) := hls.r3.cell hlt
                              have c4 : wt.cell? ⟨g4, k, none⟩ = some (.int .i32 0) := hls.r4.cell hlt
                              have c5 : wt.cell? ⟨gT, k, none⟩ = some (.int .i64 (fromOf H k)) := by rw [ho.t.cell hlt]; simp [gWant]
                              have hfb := fromOf_lt H k
                              go_quiet (fail)
                              go_wp2
                              go_roundw
                              case rel => exact ⟨k + 1, by omega, by go_num, hls.drewN _, ho.drewN _⟩
                              case measure => simp [intOf]; omega
                          · have HL : Hid (lastW H.o (ys H) (ys H k) H.n = lastW H.o (ys H) (ys H k) m) := HW.out.trans (lastW_skip H m _ hhit)
                            by_cases h1 : H.o m = 119
                            · have h1' : (H.o m == 119) = true := by simp [h1]
                              have h2' : ((H.x m).toList == (H.x k).toList) = false := by rw [tl_eq]; exact decide_eq_false (fun h2 => hhit ⟨h1, h2⟩)
                              clear hhit h1
                              go_wp2
                              go_quiet (fail)
                              go_wp2
                              go_roundw
                              case rel => exact ⟨m, by omega, rfl, rfl, hls.drewN _, ho.drewN _, HL.out⟩
                              case measure => simp [intOf]
                            · have h1' : (H.o m == 119) = false := by simp [h1]
                              clear hhit h1
                              go_wp2
                              go_quiet (fail)
                              go_wp2
                              go_roundw
                              case rel => exact ⟨m, by omega, rfl, rfl, hls.drewN _, ho.drewN _, HL.out⟩
                              case measure => simp [intOf]
                    · have hop' : (H.o k == 114) = false := by simp [hop]
                      have hfr := ho1.done (fromOf_kind hop)
                      clear ho1 hop
                      go_wp2
                      obtain ⟨wt, hwt, hls, ho⟩ : ∃ wt, wr.setCell ⟨gT, k, none⟩ (.int .i64 (-1)) = wt ∧ LSt H w N gH g0 g1 g2 g3 g4 g5 wt ∧ Own3 H N gN gT (k + 1) wt := ⟨_, rfl, hls1, hfr⟩
                      rw [hwt]
                      clear hwt hls1 hfr c1 c2 c5 c6 f5
                      have c3 : wt.cell? ⟨g3, k, none⟩ = some (.int .i32 (fromOf H k)) := hls.r3.cell hlt
                      have c4 : wt.cell? ⟨g4, k, none⟩ = some (.int .i32 0) := hls.r4.cell hlt
                      have c5 : wt.cell? ⟨gT, k, none⟩ = some (.int .i64 (fromOf H k)) := by rw [ho.t.cell hlt]; simp [gWant]
                      have hfb := fromOf_lt H k
                      go_quiet (fail)
                      go_wp2
                      go_roundw
                      case rel => exact ⟨k + 1, by omega, by go_num, hls.drewN _, ho.drewN _⟩
                      case measure => simp [intOf]; omega
              · have hkn : k = H.n := by omega
                subst hkn
                go_wp2
                go_loopw [23] (fun i wr => ∃ k : Nat, k ≤ H.n ∧ i = .int .i64 k ∧ LSt H w N gH g0 g1 g2 g3 g4 g5 wr ∧ Own3 H N gN gT H.n wr) (fun i _ => H.n - (intOf i).toNat)
                case atStart => exact ⟨0, Nat.zero_le _, rfl, hls, ho⟩
                case round =>
                  clear hls ho
                  obtain ⟨k, hk, rfl, hls, ho⟩ := hrel
                  by_cases hlt : k < H.n
                  · go_wp2
                    go_loopw [24, 25] (fun c i wr => ∃ m : Nat, m ≤ H.n ∧ i = .int .i64 m ∧ c = .int .i64 (reads H (k : Int) m : Int) ∧ LSt H w N gH g0 g1 g2 g3 g4 g5 wr ∧ Own3 H N gN gT H.n wr) (fun _ i _ => H.n - (intOf i).toNat)
                    case atStart => exact ⟨0, Nat.zero_le _, rfl, rfl, hls, ho⟩
                    case round =>
                      clear hls ho
                      obtain ⟨m, hm, rfl, rfl, hls, ho⟩ := hrel
                      have hrb := reads_le H (k : Int) m
                      by_cases hmn : m < H.n
                      · have c1 : wr.cell? ⟨gT, m, none⟩ = some (.int .i64 (fromOf H m)) := by rw [ho.t.cell hmn]; simp [gWant, hmn]
                        by_cases hf : fromOf H m = (k : Int)
                        · have hf' : (fromOf H m == (k : Int)) = true := by simp [hf]
                          have HR : Hid ((reads H (k : Int) (m + 1) : Int) = (reads H (k : Int) m : Int) + 1) := by rw [Hid, reads_more H _ m hf]; simp
                          clear hf
                          go_wp2
                          go_roundw
                          case rel => exact ⟨m + 1, by omega, by go_num, by rw [HR.out], hls, ho⟩
                          case measure => simp [intOf]; omega
                        · have hf' : (fromOf H m == (k : Int)) = false := by simp [hf]
                          have HR : Hid ((reads H (k : Int) (m + 1) : Int) = (reads H (k : Int) m : Int)) := by rw [Hid, reads_skip H _ m hf]
                          clear hf
                          go_wp2
                          go_roundw
                          case rel => exact ⟨m + 1, by omega, by go_num, by rw [HR.out], hls, ho⟩
                          case measure => simp [intOf]; omega
                      · have hmn' : m = H.n := by omega
                        subst hmn'
                        have c1 : wr.cell? ⟨g5, k, none⟩ = some (.int .i32 (reads H (k : Int) H.n : Int)) := hls.r5.cell hlt
                        go_wp2
                        go_roundw
                        case rel => exact ⟨k + 1, by omega, by go_num, hls, ho⟩
                        case measure => simp [intOf]; omega
                  · go_wp2
                    go_ret
                    exact ⟨rfl, hls.below⟩
end Go.Proofs.Qxb6603687a
