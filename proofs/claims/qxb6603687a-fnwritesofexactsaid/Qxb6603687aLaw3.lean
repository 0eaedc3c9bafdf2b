/-
  FnWritesOfExact (3): the law's walk.
-/
import Derived.Test.Qxb6603687aL3B0
import Derived.Test.Qxb6603687aL3B4
import Derived.Test.Qxb6603687aL3B10
import Derived.Test.Qxb6603687aL3B12
import Derived.Test.Qxb6603687aL3R55
import Derived.Deep.CutBlock
import Derived.WalkKit
import Derived.WalkSpells
import Derived.Deep.QuietTactic
import Derived.BigQuiet
namespace Go.Proofs.Qxb6603687a
open Go.RowKit Go.Maps
set_option linter.unusedVariables false

set_option maxRecDepth 100000 in
set_option maxHeartbeats 8000000 in
theorem law3_main (ad sd : Option Addr) (cap nS sc : Nat) (H : Hist) (st : Nat → Int) (w : World) (hn : H.n ≤ 4096) (hS : nS ≤ 65536) (hx : ∀ k, k < H.n → (H.x k).size ≤ 9223372036854775807) (hin : IsOps w (.slice ad H.n cap) H) (hs : Ints w sd .i32 nS st) (hk : Covered H nS → KeyOk H st) :
    Calls Try.prog 3 #[.slice ad H.n cap, .slice sd nS sc] w fun e w' => e = .returned (.bool true) ∧ Below w.heap.size w w' := by
  have hmk := fun w => run_mkI H.n (by omega) w
  have HK : Hid (Covered H nS → KeyOk H st) := hk
  clear hk
  go_enter Try.func3, Try.ntmps3
  go_upto_block 0 with (first
    | (go_at_call 7; refine (bytes7_any ad sd cap nS sc H _ (by omega) (by omega) hx hin).mono ?_; rintro e wx ⟨⟨q, rfl⟩, rfl⟩; cases q)
    | (go_at_call 8; refine (opBytes_any _ H _ (by omega) hin).mono ?_; rintro e wx ⟨⟨q, rfl⟩, rfl⟩)
    | (go_at_call 9; refine (cover_any ad sd cap nS sc H _ hn hS hin).mono ?_; rintro e wx ⟨⟨q, rfl, hq⟩, rfl⟩; cases q)
    | (go_at_call 10; refine (copyOps_any _ H _ hn hin).mono ?_; intro e wa hcp; obtain ⟨aH, rfl, hba, hoa⟩ := hcp.isOps; clear hcp)
    | (go_at_call 11; refine (copyI32_any sd nS sc st wa hS (hs.below hba)).mono ?_; rintro e wb ⟨aS, rfl, hbb, hib⟩)
    | (go_at_call 13; refine (toHist_any _ H wb hn (hoa.grow hbb)).mono ?_; intro e wc hcp; obtain ⟨aT, rfl, hbc, hoc⟩ := hcp.isOps; clear hcp)
    | (go_at_call 12; have hcov : Covered H nS := (by first | exact hq rfl | exact hq | exact hq trivial); clear hq; refine (zw_any aT aS H.n nS nS H st wc hn hoc (hib.below hbc) hS hcov (HK.out hcov)).mono ?_; rintro e wd ⟨gM, N, GV, RV, rfl, hbd, hres⟩))
  · go_ret
    exact ⟨rfl, Below.refl _ _⟩
  · go_ret
    exact ⟨rfl, Below.refl _ _⟩
  · go_ret
    exact ⟨rfl, Below.refl _ _⟩
  · obtain ⟨gZ, wS, hgZ, hwS, hSn, hbS, hsS⟩ : ∃ gZ wS, wd.heap.size = gZ ∧ wd.alloc (.cells #[.map (some gM)] 30) = wS ∧ Snap H st nS aH aS gZ wc.heap.size gM N GV RV wS ∧ Below w.heap.size w wS ∧ wS.heap.size = gZ + 1 := by
      have hb1 := (hbb.trans (hbc.mono hbb.size)).trans (hbd.mono (Nat.le_trans hbb.size hbc.size))
      have hb2 := hbc.trans (hbd.mono hbc.size)
      have hb0 := hba.trans (hb1.mono hba.size)
      have hal : Below wd.heap.size wd (wd.alloc (.cells #[.map (some gM)] 30)) := (Below.refl _ _).alloc (Nat.le_refl _) _
      exact ⟨_, _, rfl, rfl, ⟨(hoa.grow hb1).grow hal, (hib.below hb2).below hal, Blk.new _ _ _, hres.below hal⟩, hb0.trans (hal.mono hb0.size), by simp⟩
    obtain ⟨B, hBe⟩ : ∃ B, wc.heap.size = B := ⟨_, rfl⟩
    rw [hBe] at hSn
    rw [hwS, hgZ]
    have HV : Hid (KeyOk H st) := HK.out hcov
    clear hwS hgZ hba hoa hbb hib hbc hoc hbd hres hBe hin hs hx HK
    obtain ⟨G, wG, hG, hwG, hbG, hrG, hGl⟩ : ∃ G wG, gZ + 1 = G ∧ wS.alloc (.cells (zeros .i64 H.n) 3) = wG ∧ Below wS.heap.size wS wG ∧ RowFn wG G 3 .i64 H.n (gF H st 0) ∧ wS.heap.size ≤ G := by
      refine ⟨_, _, rfl, rfl, (Below.refl _ _).alloc (Nat.le_refl _) _, ?_, by omega⟩
      rw [← hsS]
      exact rowFn_gF wS H st H.n
    rw [hwG, hG]
    clear hwG hG hmk
    have HSn : Hid (Snap H st nS aH aS gZ B gM N GV RV wS) := hSn
    have HCov : Hid (Covered H nS) := hcov
    clear hsS
    refine block0 H st nS aH aS gZ B gM N G GV RV wS wG hn hS hSn hcov hGl hbG hrG ?_
    intros
    rename_i wr hB hr
    have hLG : LG H st nS aH aS gZ B gM N G GV RV w wr := ⟨HSn.out.below hB, hbS.trans (hB.mono hbS.size), hr⟩
    clear hB hr hbS HSn hSn hGl hbG hrG hcov
    go_upto_block 4 with fail
    refine block4 H st nS aH aS gZ B gM N G GV RV w wr hn hLG ?_
    intros
    clear hLG
    rename_i wr hLG
    go_wp2
    go_loopw [15, 16] (fun vs i wr => ∃ k : Nat, k ≤ H.n ∧ i = .int .i64 k ∧ vs = .int .i64 (nv H st k : Int) ∧ LG H st nS aH aS gZ B gM N G GV RV w wr) (fun _ i _ => H.n - (intOf i).toNat)
    case atStart => exact ⟨0, Nat.zero_le _, rfl, rfl, hLG⟩
    case round =>
      clear hLG
      obtain ⟨k, hk, rfl, rfl, hLG⟩ := hrel
      have hnv := nv_le H st k
      by_cases hlt : k < H.n
      · have p1 := hLG.gf.cell hlt
        by_cases hG : gfv H st k = (k : Int)
        · have hG' : (gfv H st k != (k : Int)) = false := by simp [hG]
          have HG : Hid (isG H st k) := (gfv_self H st).1 hG
          clear hG
          go_upto_block 10 with fail
          refine block10 H st nS aH aS gZ B gM N G GV RV k w _ hn hlt hLG ?_ ?_
          · intros
            clear hLG
            rename_i wz hLG hno
            have HC : Hid ((nv H st (k + 1) : Int) = (nv H st k : Int) + 1) := by rw [Hid, nv_new H st HG.out hno]; simp
            have hgn : grpL H st (H.v k) k = [] := (grpL_nil H st).2 hno
            obtain ⟨hl1, _⟩ := gAt_here HG.out rfl hlt
            have hne : grpL H st (H.v k) H.n ≠ [] := fun e => by rw [e] at hl1; simp at hl1
            have HN : Hid (grpL H st (H.v k) k = [] ∧ grpL H st (H.v k) H.n ≠ []) := ⟨hgn, hne⟩
            clear hno hgn hl1 hne p1
            obtain ⟨b, off, hae, e3, e4⟩ := hLG.snap.op hlt
            cases hae
            clear e3 e4
            go_upto_region 55 with fail
            refine region55 H st nS aS gZ B gM N G GV RV b off k _ w _ hn hlt rfl HN.out.2 (HV.out.v k hlt) hLG ?_
            intros
            clear hLG
            rename_i A _ _ _ _ _ _ _ _ _ _ _ _ wy hLG hGr
            obtain ⟨L, hL⟩ : ∃ L, (grpL H st (H.v k) H.n).length = L := ⟨_, rfl⟩
            have HLen : Hid ((grpL H st (H.v k) H.n).length = L) := hL
            have hLb := grpL_le H st (H.v k) H.n
            rw [hL] at hGr hLb ⊢
            clear hL
            go_upto_block 12 with fail
            refine block12 H st nS aS gZ B gM N G GV RV b off k L A w _ hn hS hlt HLen.out HN.out.1 HCov.out hLG hGr ?_
            intros
            clear hLG hGr
            rename_i wx hLG
            go_wp2
            go_roundw
            case rel => exact ⟨k + 1, by omega, by go_num, by rw [HC.out], hLG⟩
            case measure => simp [intOf]; omega
          · intros
            clear hLG
            rename_i wz hLG hex
            have HC : Hid (nv H st (k + 1) = nv H st k) := by
              obtain ⟨j, h1, h2, h3⟩ := hex
              exact nv_seen H st h1 h2 h3
            clear hex p1
            go_wp2
            go_roundw
            case rel => exact ⟨k + 1, by omega, by go_num, by rw [HC.out], hLG⟩
            case measure => simp [intOf]; omega
        · have hG' : (gfv H st k != (k : Int)) = true := by simp [hG]
          have HC : Hid (nv H st (k + 1) = nv H st k) := nv_notG H st (fun e => hG ((gfv_self H st).2 e))
          clear hG
          go_wp2
          go_roundw
          case rel => exact ⟨k + 1, by omega, by go_num, by rw [HC.out], hLG⟩
          case measure => simp [intOf]; omega
      · have hkn : k = H.n := by omega
        subst hkn
        have z0 := hLG.snap.box.cellIs (j := 0) rfl
        go_wp2_with (go_at_call 15; refine (wlen_any gM H.n (nv H st H.n) _ _ hLG.snap.res.map).mono ?_; rintro e w9 ⟨rfl, hb9⟩)
        go_ret
        exact ⟨by simp, hLG.bel.trans (hb9.mono hLG.bel.size)⟩
end Go.Proofs.Qxb6603687a
