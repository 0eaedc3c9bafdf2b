/-
  ZZWritesOf (12), ZZWritesGroups (14), ZZWritesLen (15).
-/
import Derived.Test.Qxb6603687aWRes
namespace Go.Proofs.Qxb6603687a
open Go.RowKit Go.Maps
set_option linter.unusedVariables false

/-! ### ZZWritesLen -/
def ZLen (c : Nat) (w : World) (e : Ending) (w' : World) : Prop := e = .returned (.int .i64 (c : Int)) ∧ Below w.heap.size w w'
set_option maxRecDepth 100000 in
theorem wlen_any (gM n c : Nat) (f : Lit → Option Value) (w : World) (h : MapFn w Try.prog 3 gM n c f) :
    Calls Try.prog 15 #[.agg #[.map (some gM)]] w fun e w' => ZLen c w e w' := by
  have hl := (h.alloc (.cells #[.map (some gM)] 30)).len Try.underlying28 3
  go_enter Try.func15, Try.ntmps15
  go_wp2
  go_ret
  exact ⟨rfl, (Below.refl _ _).alloc (Nat.le_refl _) _⟩

/-! ### ZZWritesOf -/
def ZW (H : Hist) (st : Nat → Int) (w : World) (e : Ending) (w' : World) : Prop :=
  ∃ gM N GV RV, e = .returned (.tuple #[.agg #[.map (some gM)], .slice (some ⟨N, 0, none⟩) H.n H.n]) ∧ Below w.heap.size w w' ∧ WRes H st w.heap.size gM N GV RV w'
set_option maxRecDepth 100000 in
set_option maxHeartbeats 1000000 in
theorem zw_any (ad sd : Option Addr) (cap nS sc : Nat) (H : Hist) (st : Nat → Int) (w : World) (hn : H.n ≤ 4096) (hin : IsOps w (.slice ad H.n cap) H) (hs : Ints w sd .i32 nS st) (hS : nS ≤ 65536) (hcov : Covered H nS) (hk : KeyOk H st) :
    Calls Try.prog 12 #[.slice ad H.n cap, .slice sd nS sc] w fun e w' => ZW H st w e w' := by
  obtain ⟨W2, hW2⟩ : ∃ W2, (w.alloc (.cells #[.map none] 30)).alloc (.cells #[.int .i64 0, .slice sd nS sc, .slice none 0 0, .slice none 0 0, .slice none 0 0, .slice none 0 0, .slice none 0 0] 66) = W2 := ⟨_, rfl⟩
  have hb2 : Below w.heap.size w W2 := hW2 ▸ (((Below.refl _ _).alloc (Nat.le_refl _) _).alloc (by simp) _)
  have hbx : Blk W2 (w.heap.size + 1) 66 #[.int .i64 0, .slice sd nS sc, .slice none 0 0, .slice none 0 0, .slice none 0 0, .slice none 0 0, .slice none 0 0] := by
    have := Blk.new (w.alloc (.cells #[.map none] 30)) 66 #[.int .i64 0, .slice sd nS sc, .slice none 0 0, .slice none 0 0, .slice none 0 0, .slice none 0 0, .slice none 0 0]
    rw [← hW2]
    simpa using this
  have hb0 : Blk W2 w.heap.size 30 #[.map none] := by
    rw [← hW2]
    exact (Blk.new w 30 #[.map none]).alloc _
  have hsz : W2.heap.size = w.heap.size + 2 := by rw [← hW2]; simp
  have HW : Hid (Calls Try.prog 28 #[.slice ad H.n cap, .pointer (some ⟨w.heap.size + 1, 0, none⟩)] W2 fun e w' => WPost H st W2 e w') := writesOf_any ad sd cap (w.heap.size + 1) nS sc H st W2 hn (hin.grow hb2) (hbx.cellIs (j := 1) rfl) (hs.below hb2) hS hcov hk
  go_enter Try.func12, Try.ntmps12
  go_wp2_with (go_at_call 28; refine HW.out.mono ?_; rintro e w3 ⟨gM, N, gS, base, rfl, hBk, hWd⟩; obtain ⟨hb3, GV, RV, hR⟩ := wres_of hBk hWd; have hz := hb0.below hb3 (by omega); have z0 := hz.cellIs (j := 0) rfl; have zf := hz.frozen 0)
  have z1 : (w3.setCell ⟨w.heap.size, 0, none⟩ (.map (some gM))).cell? ⟨w.heap.size, 0, none⟩ = some (.map (some gM)) := (hz.set 0 (.map (some gM))).cellIs rfl
  have hg := grownBy_set w3 ⟨w.heap.size, 0, none⟩ (.map (some gM))
  have hfin : ZW H st w (.returned (.tuple #[.agg #[.map (some gM)], .slice (some ⟨N, 0, none⟩) H.n H.n])) (w3.setCell ⟨w.heap.size, 0, none⟩ (.map (some gM))) :=
    ⟨gM, N, GV, RV, rfl, below_grown (hb2.trans (hb3.mono (by omega))) hg (Nat.le_refl _) (fun b e => by cases e; exact Nat.le_refl _), (hR.grown hg (fun b e => by cases e; show w.heap.size < _; omega)).lower (by omega)⟩
  exact bodyPost_ret (v := .tuple #[.agg #[.map (some gM)], .slice (some ⟨N, 0, none⟩) H.n H.n]) (by simp [results, Try.results12, go_sem, z1]) rfl hfin

/-! ### ZZWritesGroups -/
/-- The j-th group of variable x. -/
def gAt (H : Hist) (st : Nat → Int) (x : Int) (j : Nat) : Nat := (grpL H st x H.n).getD j 0
theorem gAt_some (H : Hist) (st : Nat → Int) (x : Int) {j : Nat} (h : j < (grpL H st x H.n).length) : (grpL H st x H.n)[j]? = some (gAt H st x j) := by
  unfold gAt
  rw [List.getD_eq_getElem?_getD, List.getElem?_eq_getElem h]
  rfl
theorem gAt_ops (H : Hist) (st : Nat → Int) (x : Int) {j : Nat} (h : j < (grpL H st x H.n).length) : opsL H st (gAt H st x j) H.n ≠ [] := by
  have hm := List.mem_of_getElem? (gAt_some H st x h)
  obtain ⟨h1, h2, _⟩ := (mem_grpL H st x H.n).1 hm
  have := opsL_at H st ((gfv_self H st).2 h2) H.n h1
  intro e
  rw [e] at this
  simp at this
structure GRows (H : Hist) (st : Nat → Int) (x : Int) (RV : Nat → Value) (L A k : Nat) (w : World) : Prop where
  a : RowFn w A 21 .i32 L (upTo (fun j => st (gAt H st x j)) k)
  b : RowV w (A + 1) 23 L (upV (fun j => RV (gAt H st x j)) k)
  c : RowFn w (A + 2) 3 .i64 L (upTo (fun _ => 0) k)
  d : RowFn w (A + 3) 3 .i64 L (upTo (fun _ => 0) k)
def GRet (H : Hist) (st : Nat → Int) (x : Int) (RV : Nat → Value) (L : Nat) (w : World) (e : Ending) (w' : World) : Prop :=
  ∃ A, w.heap.size ≤ A ∧ e = .returned (.tuple #[.slice (some ⟨A, 0, none⟩) L L, .slice (some ⟨A + 1, 0, none⟩) L L, .slice (some ⟨A + 2, 0, none⟩) L L, .slice (some ⟨A + 3, 0, none⟩) L L]) ∧ Below w.heap.size w w' ∧ GRows H st x RV L A L w'
theorem grows_start (H : Hist) (st : Nat → Int) (x : Int) (RV : Nat → Value) (n : Nat) (w : World) : GRows H st x RV n w.heap.size 0 ((((w.alloc (.cells (zeros .i32 n) 21)).alloc (.cells (nils n) 23)).alloc (.cells (zeros .i64 n) 3)).alloc (.cells (zeros .i64 n) 3)) := by
  have e1 : (w.alloc (.cells (zeros .i32 n) 21)).heap.size = w.heap.size + 1 := by simp
  have e2 : ((w.alloc (.cells (zeros .i32 n) 21)).alloc (.cells (nils n) 23)).heap.size = w.heap.size + 2 := by simp
  have e3 : (((w.alloc (.cells (zeros .i32 n) 21)).alloc (.cells (nils n) 23)).alloc (.cells (zeros .i64 n) 3)).heap.size = w.heap.size + 3 := by simp
  refine ⟨(((rowFn_new0 _ _ _ _ _).alloc' _).alloc' _).alloc' _, ?_, ?_, ?_⟩
  · have := rowV_new0 (w.alloc (.cells (zeros .i32 n) 21)) 23 n (fun j => RV (gAt H st x j))
    rw [e1] at this
    exact (this.alloc _).alloc _
  · have := rowFn_new0 ((w.alloc (.cells (zeros .i32 n) 21)).alloc (.cells (nils n) 23)) 3 .i64 n (fun _ => 0)
    rw [e2] at this
    exact this.alloc' _
  · have := rowFn_new0 (((w.alloc (.cells (zeros .i32 n) 21)).alloc (.cells (nils n) 23)).alloc (.cells (zeros .i64 n) 3)) 3 .i64 n (fun _ => 0)
    rw [e3] at this
    exact this
theorem GRows.next {H : Hist} {st : Nat → Int} {x : Int} {RV : Nat → Value} {L A k : Nat} {w : World} (h : GRows H st x RV L A k w) (hk : k < L) {v : Value} (hv : RV (gAt H st x k) = v) :
    GRows H st x RV L A (k + 1) ((((w.setCell ⟨A, k, none⟩ (.int .i32 (st (gAt H st x k)))).setCell ⟨A + 1, k, none⟩ v).setCell ⟨A + 2, k, none⟩ (.int .i64 0)).setCell ⟨A + 3, k, none⟩ (.int .i64 0)) := by
  subst hv
  exact ⟨(((h.a.set hk _ (fun i _ => upTo_next _ k i)).other' (by simp) _).other' (by simp) _).other' (by simp) _,
    (((h.b.other (by simp) _).set hk _ (fun i _ => upV_next (fun j => RV (gAt H st x j)) k i)).other (by simp) _).other (by simp) _,
    (((h.c.other' (by simp) _).other' (by simp) _).set hk _ (fun i _ => upTo_next (fun _ => 0) k i)).other' (by simp) _,
    (((h.d.other' (by simp) _).other' (by simp) _).other' (by simp) _).set hk _ (fun i _ => upTo_next (fun _ => 0) k i)⟩
set_option maxRecDepth 100000 in
set_option maxHeartbeats 1000000 in
theorem groups_any (H : Hist) (st : Nat → Int) (B gM N : Nat) (GV : Int → Value) (RV : Nat → Value) (x : Int) (w : World) (hn : H.n ≤ 4096) (hx : (Lit.int .i64 x).wf = true) (hR : WRes H st B gM N GV RV w) (hg : grpL H st x H.n ≠ []) :
    Calls Try.prog 14 #[.agg #[.map (some gM)], .int .i64 x] w fun e w' => GRet H st x RV (grpL H st x H.n).length w e w' := by
  obtain ⟨gx, cx, hGV, hB1, hgl, hcells⟩ := hR.row x hg
  have HC : Hid (∀ j g, (grpL H st x H.n)[j]? = some g → w.cell? ⟨gx, j * 4, none⟩ = some (.int .i32 (st g)) ∧ w.cell? ⟨gx, j * 4 + 1, none⟩ = some (RV g) ∧ w.cell? ⟨gx, j * 4 + 2, none⟩ = some (.slice none 0 0) ∧ w.cell? ⟨gx, j * 4 + 3, none⟩ = some (.int .i64 0)) := hcells
  clear hcells
  have hlen := grpL_le H st x H.n
  have hl1 := looks_of (hR.map.alloc (.cells #[.map (some gM)] 30)) hx hg
  rw [hGV] at hl1
  have hl2 : (Instr.lookup 28 (.map (some gM)) (.int .i64 x) false).run Try.prog (w.alloc (.cells #[.map (some gM)] 30)) = .ok (.slice (some ⟨gx, 0, none⟩) (grpL H st x H.n).length cx) (w.alloc (.cells #[.map (some gM)] 30)) := hl1
  clear hl1
  have HRR : Hid (WRes H st B gM N GV RV w) := hR
  have HLe : Hid ((grpL H st x H.n).length ≤ H.n) := hlen
  clear hR hGV
  obtain ⟨L, hL⟩ : ∃ L, (grpL H st x H.n).length = L := ⟨_, rfl⟩
  have HL : Hid ((grpL H st x H.n).length = L) := hL
  rw [hL] at hl2 hlen ⊢
  clear hL
  have hm1 := fun w => run_mkS L (by omega) w
  have hm2 := fun w => run_mkV L (by omega) w
  have hm3 := fun w => run_mkI L (by omega) w
  go_enter Try.func14, Try.ntmps14
  go_wp2
  clear hm1 hm2 hm3 hl2
  obtain ⟨A, w1, hA, hw1, hb1, hG⟩ : ∃ A w1, w.heap.size + 1 = A ∧ ((((w.alloc (.cells #[.map (some gM)] 30)).alloc (.cells (zeros .i32 L) 21)).alloc (.cells (nils L) 23)).alloc (.cells (zeros .i64 L) 3)).alloc (.cells (zeros .i64 L) 3) = w1 ∧ Below w.heap.size w w1 ∧ GRows H st x RV L A 0 w1 :=
    ⟨_, _, rfl, rfl, (((((Below.refl _ _).alloc (Nat.le_refl _) _).alloc (by simp) _).alloc (by simp; omega) _).alloc (by simp; omega) _).alloc (by simp; omega) _, by
      have := grows_start H st x RV L (w.alloc (.cells #[.map (some gM)] 30))
      simpa using this⟩
  rw [hw1, hA]
  have hAl : w.heap.size ≤ A := by omega
  clear hw1
  have HA : Hid (w.heap.size + 1 = A) := hA
  have nA : gx ≠ A := by omega
  have nA' : A ≠ gx := by omega
  have nB : gx ≠ A + 1 := by omega
  have nB' : A + 1 ≠ gx := by omega
  have nC : gx ≠ A + 2 := by omega
  have nC' : A + 2 ≠ gx := by omega
  have nD : gx ≠ A + 3 := by omega
  have nD' : A + 3 ≠ gx := by omega
  clear hA
  go_loopw [13] (fun i wr => ∃ k : Nat, k ≤ L ∧ i = .int .i64 k ∧ Below w.heap.size w wr ∧ GRows H st x RV L A k wr) (fun i _ => L - (intOf i).toNat)
  case atStart => exact ⟨0, Nat.zero_le _, rfl, hb1, hG⟩
  case round =>
    clear hb1 hG
    obtain ⟨k, hk, rfl, hB, hG⟩ := hrel
    by_cases hlt : k < L
    · have hkl : k < (grpL H st x H.n).length := by rw [HL.out]; exact hlt
      obtain ⟨c0, c1, c2, c3⟩ := HC.out k _ (gAt_some H st x hkl)
      obtain ⟨go, co, hRV, _, _, _⟩ := HRR.out.ops _ (gAt_ops H st x hkl)
      rw [hRV] at c1
      have d0 := (hB.cell (p := ⟨gx, k * 4, none⟩) hgl).trans c0
      have d1 := (hB.cell (p := ⟨gx, k * 4 + 1, none⟩) hgl).trans c1
      have d2 := (hB.cell (p := ⟨gx, k * 4 + 2, none⟩) hgl).trans c2
      have d3 := (hB.cell (p := ⟨gx, k * 4 + 3, none⟩) hgl).trans c3
      clear c0 c1 c2 c3
      have p1 := hG.a.cell hlt
      have f1 := hG.a.frozen k
      have p2 := hG.b.cell hlt
      have f2 := hG.b.frozen k
      have p3 := hG.c.cell hlt
      have f3 := hG.c.frozen k
      have p4 := hG.d.cell hlt
      have f4 := hG.d.frozen k
      have HRV : Hid (RV (gAt H st x k) = .slice (some ⟨go, 0, none⟩) (opsL H st (gAt H st x k) H.n).length co) := hRV
      clear hRV hkl
      go_wp2
      go_roundw
      case rel => exact ⟨k + 1, by omega, by go_num, (((hB.setCell hAl _).setCell (by simp only; omega) _).setCell (by simp only; omega) _).setCell (by simp only; omega) _, hG.next hlt HRV.out⟩
      case measure => simp [intOf]; omega
    · have hkL : k = L := by omega
      subst hkL
      go_wp2
      exact bodyPost_ret (v := .tuple #[.slice (some ⟨A, 0, none⟩) k k, .slice (some ⟨A + 1, 0, none⟩) k k, .slice (some ⟨A + 2, 0, none⟩) k k, .slice (some ⟨A + 3, 0, none⟩) k k]) (by simp [results, Try.results14, go_sem]) rfl ⟨A, hAl, rfl, hB, hG⟩
end Go.Proofs.Qxb6603687a
