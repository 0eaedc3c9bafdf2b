/-
  newCausalOrder (31): the walk.
-/
import Derived.Test.Qxb6603687aNco2
import Derived.WalkKit
import Derived.WalkSpells
import Derived.Deep.RegionHeld3
import Derived.Deep.DrawnRows
import Derived.Deep.AppendLies
import Derived.Deep.QuietTactic
import Derived.BigQuiet
import Derived.Maps.RangeWalk
namespace Go.Proofs.Qxb6603687a
open Go.RowKit Go.Maps
set_option linter.unusedVariables false

theorem law3 : Keyed Try.prog 3 := int_keyed Try.underlying3
theorem law9 : Keyed Try.prog 9 := string_keyed Try.underlying9
theorem zero21 (w : World) : (zeroValue 21).run Try.prog w = .ok (.int .i32 0) w := by kernel_rfl
theorem IsOps.at_ {w : World} {ad : Option Addr} {cap : Nat} {H : Hist} (h : IsOps w (.slice ad H.n cap) H) (h0 : 0 < H.n) : ∃ b off, ad = some ⟨b, off, none⟩ ∧ OpsIn w b off H := by
  rcases h with ⟨_, _, _, e⟩ | ⟨b, off, c, e, h⟩
  · omega
  · simp at e
    exact ⟨b, off, e.1, h⟩
theorem IsOps.form {w : World} {v : Value} {H : Hist} (h : IsOps w v H) : ∃ ad cap, v = .slice ad H.n cap := by
  rcases h with ⟨ad, cap, rfl, e⟩ | ⟨b, off, c, rfl, h⟩
  · exact ⟨ad, cap, by rw [e]⟩
  · exact ⟨_, _, rfl⟩
/-- Every number fits its kind. -/
structure HistOk (H : Hist) : Prop where
  s : ∀ k, k < H.n → (Lit.int .i64 (H.s k)).wf = true
  o : ∀ k, k < H.n → (Lit.int .u8 (H.o k)).wf = true
  v : ∀ k, k < H.n → (Lit.int .i64 (H.v k)).wf = true
  x : ∀ k, k < H.n → (H.x k).size ≤ maxLen

attribute [local go_sem ↓] Go.wp_at_zero Go.wp_at_succ
set_option maxRecDepth 100000 in
set_option maxHeartbeats 4000000 in
theorem nco_any (ad : Option Addr) (cap : Nat) (H : Hist) (w : World) (hn : H.n ≤ 4096) (hok : HistOk H) (hin : IsOps w (.slice ad H.n cap) H) :
    Calls Try.prog 31 #[.slice ad H.n cap] w fun e w' => NcoPost H w e w' := by
  have hmm := @run_makeMap Try.prog
  go_enter Try.func31, Try.ntmps31
  go_wp2
  refine six_region' (n := H.n) ?_ hn rfl (by show 33 ≤ 170; omega) ?_
  · refine ⟨rfl, topo_of (by kernel_rfl), ?_, ?_, ⟨_, rfl, rfl, rfl, rfl, ?_⟩, ⟨_, rfl, rfl, rfl, rfl, _, Array.mem_of_getElem? (i := 0) rfl, rfl, rfl⟩, ⟨_, rfl, rfl, rfl, rfl, _, Array.mem_of_getElem? (i := 0) rfl, rfl, rfl⟩⟩
    · intro m hm
      match m, hm with
      | 0, _ => exact ⟨_, rfl, rfl, rfl, rfl⟩
      | 1, _ => exact ⟨_, rfl, rfl, rfl, rfl⟩
      | 2, _ => exact ⟨_, rfl, rfl, rfl, rfl⟩
      | 3, _ => exact ⟨_, rfl, rfl, rfl, rfl⟩
      | 4, _ => exact ⟨_, rfl, rfl, rfl, rfl⟩
      | 5, _ => exact ⟨_, rfl, rfl, rfl, rfl⟩
    · intro m hm
      match m, hm with
      | 0, _ => exact ⟨_, rfl, rfl, rfl, rfl, _, Array.mem_of_getElem? (i := 0) rfl, rfl, rfl⟩
      | 1, _ => exact ⟨_, rfl, rfl, rfl, rfl, _, Array.mem_of_getElem? (i := 0) rfl, rfl, rfl⟩
      | 2, _ => exact ⟨_, rfl, rfl, rfl, rfl, _, Array.mem_of_getElem? (i := 0) rfl, rfl, rfl⟩
      | 3, _ => exact ⟨_, rfl, rfl, rfl, rfl, _, Array.mem_of_getElem? (i := 0) rfl, rfl, rfl⟩
      | 4, _ => exact ⟨_, rfl, rfl, rfl, rfl, _, Array.mem_of_getElem? (i := 0) rfl, rfl, rfl⟩
      | 5, _ => exact ⟨_, rfl, rfl, rfl, rfl, _, Array.mem_of_getElem? (i := 0) rfl, rfl, rfl⟩
    · intro m hm
      match m, hm with
      | 0, _ => exact ⟨_, Array.mem_of_getElem? (i := 0) rfl, rfl, rfl⟩
      | 1, _ => exact ⟨_, Array.mem_of_getElem? (i := 1) rfl, rfl, rfl⟩
      | 2, _ => exact ⟨_, Array.mem_of_getElem? (i := 2) rfl, rfl, rfl⟩
      | 3, _ => exact ⟨_, Array.mem_of_getElem? (i := 3) rfl, rfl, rfl⟩
      | 4, _ => exact ⟨_, Array.mem_of_getElem? (i := 4) rfl, rfl, rfl⟩
      | 5, _ => exact ⟨_, Array.mem_of_getElem? (i := 5) rfl, rfl, rfl⟩
  · intro g0 g1 g2 g3 g4 g5 gO w1 h6
    go_frame
    go_wp2
    clear hmm
    obtain ⟨gS, wz, hgS, hwz, hB, hH⟩ : ∃ gS wz, w1.heap.size = gS ∧ (w1.alloc (.map #[] 0)).alloc (.map #[] 0) = wz ∧ BkOk w.heap.size ⟨g0, g1, g2, g3, g4, g5, gO, gS, gS + 1⟩ ∧ Head1 H w ⟨g0, g1, g2, g3, g4, g5, gO, gS, gS + 1⟩ 0 (.slice none 0 0) [] (.slice none 0 0) [] wz :=
      ⟨_, _, rfl, rfl, head1_start h6⟩
    clear h6
    rw [hwz, hgS]
    clear hwz hgS w1
    go_loopw [6, 7, 37] (fun v6 v7 i wr => ∃ (k : Nat) (a6 : Option Addr) (c6 : Nat) (x6 : List Int) (a7 : Option Addr) (c7 : Nat) (x7 : List Int), k ≤ H.n ∧ i = .int .i64 k ∧ v6 = .slice a6 x6.length c6 ∧ v7 = .slice a7 x7.length c7 ∧ Head1 H w ⟨g0, g1, g2, g3, g4, g5, gO, gS, gS + 1⟩ k (.slice a6 x6.length c6) x6 (.slice a7 x7.length c7) x7 wr) (fun _ _ i _ => H.n - (intOf i).toNat)
    case atStart => exact ⟨0, none, 0, [], none, 0, [], Nat.zero_le _, rfl, rfl, rfl, hH⟩
    case round =>
      obtain ⟨k, a6, c6, x6, a7, c7, x7, hk, rfl, rfl, rfl, cW, hst, htab⟩ := hrel
      have hl6 : x6.length ≤ 4096 := by rw [htab.l6]; have := nb_le H.s k; omega
      have hl7 : x7.length ≤ 4096 := by rw [htab.l7]; have := nb_le H.s k; omega
      clear hH
      by_cases hlt : k < H.n
      · obtain ⟨b, off, rfl, hops⟩ := hin.at_ (by omega)
        have hA := hops.below hst.below
        have c0 := hA.c0 k hlt
        have a1 := hA.c1 k hlt
        have a2 := hA.c2 k hlt
        have a3 := hA.c3 k hlt
        clear hA
        by_cases hm : cnt H.s (H.s k) k = 0
        · have hlook := siteMap_miss H.s k hm
          have hkey := keyOf_int_mk (P := Try.prog) Try.underlying3 (hok.s k hlt)
          obtain ⟨i21, hi, hz0, hz1, hz2⟩ := info_parts info21
          have hgp : gS + 1 < wr.heap.size := hst.mapW.lt
          have st1 := hst.grow (World.grownBy_alloc wr (.cells (opCells H k) 69) none)
          have hop1 := Blk.new wr 69 (opCells H k)
          have hl67 : x6.length ≤ x7.length := by rw [htab.l6, htab.l7]; exact Nat.le_refl _
          have hl76 : x7.length ≤ x6.length := by rw [htab.l6, htab.l7]; exact Nat.le_refl _
          have hf6 : some wr.heap.size ≠ (Value.slice a6 x6.length c6).ownBlock := fun e => by have := (World.ownsRow.lt hst.o6 _ e.symm).2; omega
          have hf7 : some wr.heap.size ≠ (Value.slice a7 x7.length c7).ownBlock := fun e => by have := (World.ownsRow.lt hst.o7 _ e.symm).2; omega
          have hx7 : (x7 ++ [0])[x6.length]? = some 0 := by rw [show x6.length = x7.length from by omega]; simp
          go_wp2_with (first
            | (at_lookup; refine wpList_look_miss _ rfl _ _ 88 rfl 3 21 law3 Try.underlying88 (zero21 _) gS k (nb H.s k) _ rfl (st1.mapS) _ _ rfl hkey hlook ?_)
            | (at_mapUpdate; refine wpList_store_fn _ rfl _ _ _ 88 rfl 3 21 law3 Try.underlying88 gS k (nb H.s k) _ rfl (st1.mapS) (by unfold maxLen; omega) (.int .i64 (H.s k)) (.int .i32 (x6.length : Int)) _ rfl rfl hkey ?_; intro w2 hm2 hg2; have st2 := st1.stepS hB hg2 hm2; have hop2 := hop1.kept hg2 (by simp; omega); clear hm2 hg2 st1 hop1)
            | (at_builtin; refine wpList_append_lies _ rfl (.tmp 58) (.tmp 59) 23 rfl (gS + 1 + 1) 21 i21 (.int .i32 0) 1 4 Try.underlying23 hi hz0 hz1 hz2 rfl (by omega) (.slice a6 x6.length c6) x6.length _ rfl (World.ownsRow.alloc st2.o6 _) ⟨w2.heap.size, 0, none⟩ 1 1 [.int .i32 (-1)] rfl rfl (cell_one_new _ _ _) (ints_oneCell .i32 [-1]) (by omega) (by unfold maxLen; omega) (by omega) (by have : gS + 1 < w2.heap.size := st2.mapW.lt; simp; omega) (w2.heap.size + 1) (by simp) ?_; intro g6 d6 w3 ho3 hg3 hat3 hlt3; have st3 := (st2.grow (World.grownBy_alloc _ _ _)).app6 hB hg3 ho3 hat3 (by simp); have hop3 := (hop2.alloc _).kept hg3 hf6; have hgp6 : g6 ≠ wr.heap.size := hat3.elim (fun e h => hf6 (by rw [e, h])) (fun e => by have := hop2.lt; omega); clear ho3 hg3 hat3 hlt3 st2 hop2)
            | (at_builtin; refine wpList_append_lies _ rfl (.tmp 61) (.tmp 62) 23 rfl (gS + 1 + 1) 21 i21 (.int .i32 0) 1 4 Try.underlying23 hi hz0 hz1 hz2 rfl (by omega) (.slice a7 x7.length c7) x7.length _ rfl (World.ownsRow.alloc st3.o7 _) ⟨w3.heap.size, 0, none⟩ 1 1 [.int .i32 0] rfl rfl (cell_one_new _ _ _) (ints_oneCell .i32 [0]) (by omega) (by unfold maxLen; omega) (by omega) (by have : gS + 1 < w3.heap.size := st3.mapW.lt; simp; omega) (w3.heap.size + 1) (by simp) ?_; intro g7 d7 w4 ho4 hg4 hat4 hlt4; have st4 := (st3.grow (World.grownBy_alloc _ _ _)).app7 hB hg4 ho4 hat4 (by simp); have hop4 := (hop3.alloc _).kept hg4 hf7; have hgp7 : g7 ≠ wr.heap.size := hat4.elim (fun e h => hf7 (by rw [e, h])) (fun e => by have := hop3.lt; omega); clear ho4 hg4 hat4 hlt4 st3 hop3; have p7 := OwnI.cell st4.o7 (by simp) hx7; have q7 := OwnI.frozen st4.o7 (by simp) x6.length; clear hx7))
          obtain ⟨wt, t, m6, m7, gp, y6, y7, hwt, ht, hm6, hm7, hgpe, hmid⟩ : ∃ wt t m6 m7 gp y6 y7, w4.setCell ⟨g7, x6.length, none⟩ (.int .i32 1) = wt ∧ x6.length = t ∧ t + 1 = m6 ∧ x7.length + 1 = m7 ∧ wr.heap.size = gp ∧ Mid H w ⟨g0, g1, g2, g3, g4, g5, gO, gS, gS + 1⟩ k t g6 m6 d6 g7 m7 d7 gp cW y6 y7 wt := ⟨_, _, _, _, _, _, _, rfl, rfl, rfl, rfl, rfl, mid_new hB hm htab st4 hop4 hgp6 hgp7 hgp⟩
          rw [hwt, ht, hm6, hm7, hgpe]
          clear hm hwt ht hm6 hm7 hgpe hgp st4 hop4 hgp6 hgp7 p7 q7 hf6 hf7 hl67 hl76 hl6 hl7 htab hst hlook hkey hi hz0 hz1 hz2 w4
          have hlast := lastB_lt H.s (H.s k) k
          have hcnt := cnt_le H.s (H.s k) k
          have z1 : wt.cell? ⟨gO, 1, none⟩ = some (.slice (some ⟨g0, 0, none⟩) H.n H.n) := hmid.st.box.cellIs rfl
          have z2 : wt.cell? ⟨gO, 2, none⟩ = some (.slice (some ⟨g1, 0, none⟩) H.n H.n) := hmid.st.box.cellIs rfl
          have z3 : wt.cell? ⟨gO, 3, none⟩ = some (.slice (some ⟨g2, 0, none⟩) H.n H.n) := hmid.st.box.cellIs rfl
          have p6 := hmid.p6
          have p7 := hmid.p7
          have r0 : wt.cell? ⟨g0, k, none⟩ = some (.int .i32 (fS H k k)) := hmid.st.r0.cell hlt
          have r1 : wt.cell? ⟨g1, k, none⟩ = some (.int .i32 (fP H k k)) := hmid.st.r1.cell hlt
          have r2 : wt.cell? ⟨g2, k, none⟩ = some (.int .i32 (fV H k k)) := hmid.st.r2.cell hlt
          have f0 : wt.frozen? ⟨g0, k, none⟩ = false := hmid.st.r0.frozen k
          have f1 : wt.frozen? ⟨g1, k, none⟩ = false := hmid.st.r1.frozen k
          have f2 : wt.frozen? ⟨g2, k, none⟩ = false := hmid.st.r2.frozen k
          have d01 : g0 ≠ g1 := hB.d01
          have d02 : g0 ≠ g2 := hB.d02
          have d12 : g1 ≠ g2 := hB.d12
          have l0 : g0 < gO := hB.l0
          have l1 : g1 < gO := hB.l1
          have l2 : g2 < gO := hB.l2
          have lS : gO < gS := hB.oS
          have u6 : gS + 1 < g6 := hmid.up6
          have u7 : gS + 1 < g7 := hmid.up7
          have dO0 : gO ≠ g0 := by omega
          have dO1 : gO ≠ g1 := by omega
          have dO2 : gO ≠ g2 := by omega
          have d60 : g6 ≠ g0 := by omega
          have d61 : g6 ≠ g1 := by omega
          have d62 : g6 ≠ g2 := by omega
          have d70 : g7 ≠ g0 := by omega
          have d71 : g7 ≠ g1 := by omega
          have d72 : g7 ≠ g2 := by omega
          have dO0' : g0 ≠ gO := by omega
          have dO1' : g1 ≠ gO := by omega
          have dO2' : g2 ≠ gO := by omega
          have d60' : g0 ≠ g6 := by omega
          have d61' : g1 ≠ g6 := by omega
          have d62' : g2 ≠ g6 := by omega
          have d70' : g0 ≠ g7 := by omega
          have d71' : g1 ≠ g7 := by omega
          have d72' : g2 ≠ g7 := by omega
          have d01' : g1 ≠ g0 := d01.symm
          have d02' : g2 ≠ g0 := d02.symm
          have d12' : g2 ≠ g1 := d12.symm
          have n6 : g6 ≠ gp := hmid.n6
          have np : gS + 1 < gp := hmid.np
          have n6' : gp ≠ g6 := n6.symm
          have dp0 : gp ≠ g0 := by omega
          have dp1 : gp ≠ g1 := by omega
          have dp2 : gp ≠ g2 := by omega
          have dp0' : g0 ≠ gp := by omega
          have dp1' : g1 ≠ gp := by omega
          have dp2' : g2 ≠ gp := by omega
          have c1 : wt.cell? ⟨gp, 1, none⟩ = some (.int .u8 (H.o k)) := hmid.op.cellIs rfl
          have c3 : wt.cell? ⟨gp, 3, none⟩ = some (.string (H.x k)) := hmid.op.cellIs rfl
          have f6 := OwnI.frozen hmid.st.o6 hmid.l6 t
          have e0 : (0 : Int) ≤ (k : Int) := by omega
          have e1 : (k : Int) < (H.n : Int) := by omega
          have e3 : (0 : Int) ≤ (t : Int) := by omega
          have e4 : (t : Int) < (m6 : Int) := by have := hmid.lt6; omega
          have e5 : (t : Int) < (m7 : Int) := by have := hmid.lt7; omega
          go_region_held3 (fun w' => w'.cell? ⟨gO, 1, none⟩ = some (.slice (some ⟨g0, 0, none⟩) H.n H.n) ∧ w'.cell? ⟨gO, 2, none⟩ = some (.slice (some ⟨g1, 0, none⟩) H.n H.n) ∧ w'.cell? ⟨gO, 3, none⟩ = some (.slice (some ⟨g2, 0, none⟩) H.n H.n) ∧ w'.cell? ⟨g7, t, none⟩ = some (.int .i32 ((cnt H.s (H.s k) k : Int) + 1)) ∧ w'.cell? ⟨g6, t, none⟩ = some (.int .i32 (lastB H.s (H.s k) k))) (go_keep) (fail)
          have hlate := hmid.late hB hlt
          have hlen : Hid (m6 = (y6.set t (k : Int)).length ∧ m7 = (y7.set t ((cnt H.s (H.s k) k : Int) + 1)).length) := ⟨hlate.l6, hlate.l7⟩
          by_cases ho : H.o k = 119
          · have ho' : (H.o k == 119) = true := by simp [ho]
            have HO : Hid (H.o k = 119) := ho
            clear ho
            have hkey := Go.WideMaps.keyOf_string_mk (P := Try.prog) Try.underlying9 (hok.x k hlt)
            go_wp2_with (at_mapUpdate; refine wpList_store_fn _ rfl _ _ _ 89 rfl 9 21 law9 Try.underlying89 (gS + 1) k cW _ rfl (by exact hlate.st.mapW) (by unfold maxLen; omega) (.string (H.x k)) (.int .i32 (k : Int)) _ rfl rfl hkey ?_; intro w6 hm6 hg6; have hend := hlate.write hB HO.out hm6 hg6; clear hm6 hg6 hlate)
            go_roundw
            case rel => exact ⟨k + 1, _, _, _, _, _, _, by omega, by go_num, by rw [hlen.out.1], by rw [hlen.out.2], hend⟩
            case measure => simp [intOf]; omega
          · have ho' : (H.o k == 119) = false := by simp [ho]
            have hend := hlate.read ho
            clear ho hlate
            go_wp2
            go_roundw
            case rel => exact ⟨k + 1, _, _, _, _, _, _, by omega, by go_num, by rw [hlen.out.1], by rw [hlen.out.2], hend⟩
            case measure => simp [intOf]; omega
        · have hlook := siteMap_hit H.s k hm
          have hkey := keyOf_int_mk (P := Try.prog) Try.underlying3 (hok.s k hlt)
          obtain ⟨j, hj, hsj⟩ := met H.s k hm
          have hsn : sn H.s k < nb H.s k := by rw [← sn_same H.s hsj]; exact sn_lt H.s hj
          have ha7 : x7[sn H.s k]? = some (cnt H.s (H.s k) k : Int) := by rw [← sn_same H.s hsj, htab.a7 j hj, hsj]
          clear hsj
          obtain ⟨g6, d6, e6, u6, _⟩ := OwnI.form hst.o6 (by rw [htab.l6]; omega)
          obtain ⟨g7, d7, e7, u7, _⟩ := OwnI.form hst.o7 (by rw [htab.l7]; omega)
          simp only [Value.slice.injEq, true_and] at e6 e7
          obtain ⟨rfl, rfl⟩ := e6
          obtain ⟨rfl, rfl⟩ := e7
          obtain ⟨t, ht⟩ : ∃ t, sn H.s k = t := ⟨_, rfl⟩
          rw [ht] at hlook ha7 hsn
          have ht6 : t < x6.length := by rw [htab.l6]; exact hsn
          have ht7 : t < x7.length := by rw [htab.l7]; exact hsn
          have HT : Hid (t = sn H.s k) := ht.symm
          clear ht
          have hgp : gS + 1 < wr.heap.size := hst.mapW.lt
          have hgp6 : g6 ≠ wr.heap.size := fun e => by have := (World.ownsRow.lt hst.o6 g6 rfl).2; omega
          have hgp7 : g7 ≠ wr.heap.size := fun e => by have := (World.ownsRow.lt hst.o7 g7 rfl).2; omega
          have st1 := hst.grow (World.grownBy_alloc wr (.cells (opCells H k) 69) none)
          have hop1 := Blk.new wr 69 (opCells H k)
          have p7 : (wr.alloc (.cells #[.int .i64 (H.s k), .int .u8 (H.o k), .int .i64 (H.v k), .string (H.x k)] 69)).cell? ⟨g7, t, none⟩ = some (.int .i32 (cnt H.s (H.s k) k : Int)) := OwnI.cell st1.o7 rfl ha7
          have q7 : (wr.alloc (.cells #[.int .i64 (H.s k), .int .u8 (H.o k), .int .i64 (H.v k), .string (H.x k)] 69)).frozen? ⟨g7, t, none⟩ = false := OwnI.frozen st1.o7 rfl t
          have hcnt := cnt_le H.s (H.s k) k
          go_wp2_with (first | (at_lookup; refine wpList_look_hit _ rfl _ _ 88 rfl 3 21 law3 Try.underlying88 (zero21 _) gS k (nb H.s k) _ rfl (st1.mapS) _ _ rfl hkey (.int .i32 (t : Int)) hlook ?_))
          obtain ⟨wt, m6, m7, gp, hwt, hm6, hm7, hgpe, hmid⟩ : ∃ wt m6 m7 gp, (wr.alloc (.cells #[.int .i64 (H.s k), .int .u8 (H.o k), .int .i64 (H.v k), .string (H.x k)] 69)).setCell ⟨g7, t, none⟩ (.int .i32 ((cnt H.s (H.s k) k : Int) + 1)) = wt ∧ x6.length = m6 ∧ x7.length = m7 ∧ wr.heap.size = gp ∧ Mid H w ⟨g0, g1, g2, g3, g4, g5, gO, gS, gS + 1⟩ k t g6 m6 c6 g7 m7 c7 gp cW x6 x7 wt := ⟨_, _, _, _, rfl, rfl, rfl, rfl, mid_old hB hm htab st1 HT.out hop1 hgp6 hgp7 hgp⟩
          rw [World.setCell_alloc_past _ _ _ _ (World.ownsRow.lt hst.o7 g7 rfl).2] at hwt
          rw [hwt, hm6, hm7, hgpe]
          clear hm HT hwt hm6 hm7 hgpe hgp st1 hop1 hgp6 hgp7 p7 q7 hl6 hl7 htab hst hlook hkey ha7 hsn ht6 ht7 hcnt u6 u7
          have hlast := lastB_lt H.s (H.s k) k
          have hcnt := cnt_le H.s (H.s k) k
          have z1 : wt.cell? ⟨gO, 1, none⟩ = some (.slice (some ⟨g0, 0, none⟩) H.n H.n) := hmid.st.box.cellIs rfl
          have z2 : wt.cell? ⟨gO, 2, none⟩ = some (.slice (some ⟨g1, 0, none⟩) H.n H.n) := hmid.st.box.cellIs rfl
          have z3 : wt.cell? ⟨gO, 3, none⟩ = some (.slice (some ⟨g2, 0, none⟩) H.n H.n) := hmid.st.box.cellIs rfl
          have p6 := hmid.p6
          have p7 := hmid.p7
          have r0 : wt.cell? ⟨g0, k, none⟩ = some (.int .i32 (fS H k k)) := hmid.st.r0.cell hlt
          have r1 : wt.cell? ⟨g1, k, none⟩ = some (.int .i32 (fP H k k)) := hmid.st.r1.cell hlt
          have r2 : wt.cell? ⟨g2, k, none⟩ = some (.int .i32 (fV H k k)) := hmid.st.r2.cell hlt
          have f0 : wt.frozen? ⟨g0, k, none⟩ = false := hmid.st.r0.frozen k
          have f1 : wt.frozen? ⟨g1, k, none⟩ = false := hmid.st.r1.frozen k
          have f2 : wt.frozen? ⟨g2, k, none⟩ = false := hmid.st.r2.frozen k
          have d01 : g0 ≠ g1 := hB.d01
          have d02 : g0 ≠ g2 := hB.d02
          have d12 : g1 ≠ g2 := hB.d12
          have l0 : g0 < gO := hB.l0
          have l1 : g1 < gO := hB.l1
          have l2 : g2 < gO := hB.l2
          have lS : gO < gS := hB.oS
          have u6 : gS + 1 < g6 := hmid.up6
          have u7 : gS + 1 < g7 := hmid.up7
          have dO0 : gO ≠ g0 := by omega
          have dO1 : gO ≠ g1 := by omega
          have dO2 : gO ≠ g2 := by omega
          have d60 : g6 ≠ g0 := by omega
          have d61 : g6 ≠ g1 := by omega
          have d62 : g6 ≠ g2 := by omega
          have d70 : g7 ≠ g0 := by omega
          have d71 : g7 ≠ g1 := by omega
          have d72 : g7 ≠ g2 := by omega
          have dO0' : g0 ≠ gO := by omega
          have dO1' : g1 ≠ gO := by omega
          have dO2' : g2 ≠ gO := by omega
          have d60' : g0 ≠ g6 := by omega
          have d61' : g1 ≠ g6 := by omega
          have d62' : g2 ≠ g6 := by omega
          have d70' : g0 ≠ g7 := by omega
          have d71' : g1 ≠ g7 := by omega
          have d72' : g2 ≠ g7 := by omega
          have d01' : g1 ≠ g0 := d01.symm
          have d02' : g2 ≠ g0 := d02.symm
          have d12' : g2 ≠ g1 := d12.symm
          have n6 : g6 ≠ gp := hmid.n6
          have np : gS + 1 < gp := hmid.np
          have n6' : gp ≠ g6 := n6.symm
          have dp0 : gp ≠ g0 := by omega
          have dp1 : gp ≠ g1 := by omega
          have dp2 : gp ≠ g2 := by omega
          have dp0' : g0 ≠ gp := by omega
          have dp1' : g1 ≠ gp := by omega
          have dp2' : g2 ≠ gp := by omega
          have c1 : wt.cell? ⟨gp, 1, none⟩ = some (.int .u8 (H.o k)) := hmid.op.cellIs rfl
          have c3 : wt.cell? ⟨gp, 3, none⟩ = some (.string (H.x k)) := hmid.op.cellIs rfl
          have f6 := OwnI.frozen hmid.st.o6 hmid.l6 t
          have e0 : (0 : Int) ≤ (k : Int) := by omega
          have e1 : (k : Int) < (H.n : Int) := by omega
          have e3 : (0 : Int) ≤ (t : Int) := by omega
          have e4 : (t : Int) < (m6 : Int) := by have := hmid.lt6; omega
          have e5 : (t : Int) < (m7 : Int) := by have := hmid.lt7; omega
          go_region_held3 (fun w' => w'.cell? ⟨gO, 1, none⟩ = some (.slice (some ⟨g0, 0, none⟩) H.n H.n) ∧ w'.cell? ⟨gO, 2, none⟩ = some (.slice (some ⟨g1, 0, none⟩) H.n H.n) ∧ w'.cell? ⟨gO, 3, none⟩ = some (.slice (some ⟨g2, 0, none⟩) H.n H.n) ∧ w'.cell? ⟨g7, t, none⟩ = some (.int .i32 ((cnt H.s (H.s k) k : Int) + 1)) ∧ w'.cell? ⟨g6, t, none⟩ = some (.int .i32 (lastB H.s (H.s k) k))) (go_keep) (fail)
          have hlate := hmid.late hB hlt
          have hlen : Hid (m6 = (x6.set t (k : Int)).length ∧ m7 = (x7.set t ((cnt H.s (H.s k) k : Int) + 1)).length) := ⟨hlate.l6, hlate.l7⟩
          by_cases ho : H.o k = 119
          · have ho' : (H.o k == 119) = true := by simp [ho]
            have HO : Hid (H.o k = 119) := ho
            clear ho
            have hkey := Go.WideMaps.keyOf_string_mk (P := Try.prog) Try.underlying9 (hok.x k hlt)
            go_wp2_with (at_mapUpdate; refine wpList_store_fn _ rfl _ _ _ 89 rfl 9 21 law9 Try.underlying89 (gS + 1) k cW _ rfl (by exact hlate.st.mapW) (by unfold maxLen; omega) (.string (H.x k)) (.int .i32 (k : Int)) _ rfl rfl hkey ?_; intro w6 hm6 hg6; have hend := hlate.write hB HO.out hm6 hg6; clear hm6 hg6 hlate)
            go_roundw
            case rel => exact ⟨k + 1, _, _, _, _, _, _, by omega, by go_num, by rw [hlen.out.1], by rw [hlen.out.2], hend⟩
            case measure => simp [intOf]; omega
          · have ho' : (H.o k == 119) = false := by simp [ho]
            have hend := hlate.read ho
            clear ho hlate
            go_wp2
            go_roundw
            case rel => exact ⟨k + 1, _, _, _, _, _, _, by omega, by go_num, by rw [hlen.out.1], by rw [hlen.out.2], hend⟩
            case measure => simp [intOf]; omega
      · have hkn : k = H.n := by omega
        subst hkn
        have z0 : wr.cell? ⟨gO, 0, none⟩ = some (.int .i64 0) := hst.box.cellIs rfl
        have zf : wr.frozen? ⟨gO, 0, none⟩ = false := hst.box.frozen 0
        obtain ⟨c2, hst2⟩ := Head1.second hB ⟨cW, hst, htab⟩
        clear hst htab
        go_wp2
        obtain ⟨wy, hwy, hst3⟩ : ∃ wy, wr.setCell ⟨gO, 0, none⟩ (.int .i64 (x6.length : Int)) = wy ∧ St2 H w ⟨g0, g1, g2, g3, g4, g5, gO, gS, gS + 1⟩ wy (nb H.s H.n : Int) (fF H 0) (fR H 0) c2 := ⟨_, rfl, hst2⟩
        rw [hwy]
        clear hwy hst2 z0 zf hl6 hl7
        go_loopw [118] (fun i ws => ∃ k : Nat, k ≤ H.n ∧ i = .int .i64 k ∧ St2 H w ⟨g0, g1, g2, g3, g4, g5, gO, gS, gS + 1⟩ ws (nb H.s H.n : Int) (fF H k) (fR H k) c2) (fun i _ => H.n - (intOf i).toNat)
        case atStart => exact ⟨0, Nat.zero_le _, rfl, hst3⟩
        case round =>
          clear hst3
          obtain ⟨k, hk, rfl, hst⟩ := hrel
          by_cases hlt : k < H.n
          · obtain ⟨b, off, rfl, hops⟩ := hin.at_ (by omega)
            have hA := hops.below hst.below
            have a0 := hA.c0 k hlt
            have a1 := hA.c1 k hlt
            have a2 := hA.c2 k hlt
            have a3 := hA.c3 k hlt
            have hbN : b < w.heap.size := hops.lt (by omega)
            have z4 : wr.cell? ⟨gO, 4, none⟩ = some (.slice (some ⟨g3, 0, none⟩) H.n H.n) := hst.box.cellIs rfl
            have z6 : wr.cell? ⟨gO, 6, none⟩ = some (.slice (some ⟨g5, 0, none⟩) H.n H.n) := hst.box.cellIs rfl
            have r3 : wr.cell? ⟨g3, k, none⟩ = some (.int .i32 (fF H k k)) := hst.r3.cell hlt
            have f3 : wr.frozen? ⟨g3, k, none⟩ = false := hst.r3.frozen k
            have hgp : gS + 1 < wr.heap.size := hst.mapW.lt
            have hO : gO < wr.heap.size := hst.box.lt
            have h3 : g3 < wr.heap.size := hst.r3.lt
            have h5 : g5 < wr.heap.size := hst.r5.lt
            have hbw : b < wr.heap.size := Nat.lt_of_lt_of_le hbN hst.below.size
            have l3 : g3 < gO := hB.l3
            have l5 : g5 < gO := hB.l5
            have lS : gO < gS := hB.oS
            have n3 : w.heap.size ≤ g3 := hB.n3
            have n5 : w.heap.size ≤ g5 := hB.n5
            have d35 : g3 ≠ g5 := hB.d35
            have hkey := Go.WideMaps.keyOf_string_mk (P := Try.prog) Try.underlying9 (hok.x k hlt)
            have st1 := (hst.row3 hB hlt (-1) (f' := fun i => if i = k then -1 else fF H k i) (fun i _ => rfl)).grow (World.grownBy_alloc _ (.cells #[.int .i64 (H.s k), .int .u8 (H.o k), .int .i64 (H.v k), .string (H.x k)] 69) none)
            have hlw := lastW_lt H.o (ys H) (ys H k) H.n
            by_cases hw : lastW H.o (ys H) (ys H k) H.n < 0
            · have hlook : writeMap H.o (ys H) H.n (.string (ys H k)) = none := if_pos hw
              go_wp2_with (first | (at_lookup; refine wpList_look_miss _ rfl _ _ 89 rfl 9 21 law9 Try.underlying89 (zero21 _) (gS + 1) H.n c2 _ rfl (by exact st1.mapW) _ _ rfl hkey hlook ?_))
              obtain ⟨wt, hwt, st2⟩ : ∃ wt, (wr.setCell ⟨g3, k, none⟩ (.int .i32 (-1))).alloc (.cells #[.int .i64 (H.s k), .int .u8 (H.o k), .int .i64 (H.v k), .string (H.x k)] 69) = wt ∧ St2 H w ⟨g0, g1, g2, g3, g4, g5, gO, gS, gS + 1⟩ wt (nb H.s H.n : Int) (fun i => if i = k then -1 else fF H k i) (fR H k) c2 := ⟨_, rfl, st1⟩
              rw [hwt]
              clear hwt st1 hst a0 a1 a2 a3 z4 z6 r3 f3 hA
              have hend := st2.miss (fromOf_neg hw)
              clear st2
              go_quiet (fail)
              go_wp2
              go_roundw
              case rel => exact ⟨k + 1, by omega, by go_num, hend.grow (grownBy_drewN _ _)⟩
              case measure => simp [intOf]; omega
            · obtain ⟨m, hm⟩ : ∃ m : Nat, lastW H.o (ys H) (ys H k) H.n = (m : Int) := ⟨(lastW H.o (ys H) (ys H k) H.n).toNat, by omega⟩
              have hmn : m < H.n := by omega
              have hlook : writeMap H.o (ys H) H.n (.string (ys H k)) = some (.int .i32 (m : Int)) := by rw [← hm]; exact if_neg hw
              have HM : Hid (lastW H.o (ys H) (ys H k) H.n = (m : Int)) := hm
              clear hm hw hlw
              go_wp2_with (first | (at_lookup; refine wpList_look_hit _ rfl _ _ 89 rfl 9 21 law9 Try.underlying89 (zero21 _) (gS + 1) H.n c2 _ rfl (by exact st1.mapW) _ _ rfl hkey (.int .i32 (m : Int)) hlook ?_))
              have hop0 := Blk.new (wr.setCell ⟨g3, k, none⟩ (.int .i32 (-1))) 69 (opCells H k)
              have hsz : (wr.setCell ⟨g3, k, none⟩ (.int .i32 (-1))).heap.size = wr.heap.size := by simp [World.setCell]
              rw [hsz] at hop0
              clear hsz
              obtain ⟨wt, gp, hwt, hgpe, st2, hop⟩ : ∃ wt gp, (wr.setCell ⟨g3, k, none⟩ (.int .i32 (-1))).alloc (.cells #[.int .i64 (H.s k), .int .u8 (H.o k), .int .i64 (H.v k), .string (H.x k)] 69) = wt ∧ wr.heap.size = gp ∧ St2 H w ⟨g0, g1, g2, g3, g4, g5, gO, gS, gS + 1⟩ wt (nb H.s H.n : Int) (fun i => if i = k then -1 else fF H k i) (fR H k) c2 ∧ Blk wt gp 69 (opCells H k) := ⟨_, _, rfl, rfl, st1, hop0⟩
              rw [hwt, hgpe]
              clear hwt hgpe hop0 st1 hst a0 a1 a2 a3 z4 z6 r3 f3 hA hkey hlook hO h3 h5 hbw hgp
              have hA := hops.below st2.below
              have a2 := hA.c2 m hmn
              have e1 : wt.cell? ⟨gp, 1, none⟩ = some (.int .u8 (H.o k)) := hop.cellIs rfl
              have e2 : wt.cell? ⟨gp, 2, none⟩ = some (.int .i64 (H.v k)) := hop.cellIs rfl
              have z4 : wt.cell? ⟨gO, 4, none⟩ = some (.slice (some ⟨g3, 0, none⟩) H.n H.n) := st2.box.cellIs rfl
              have z6 : wt.cell? ⟨gO, 6, none⟩ = some (.slice (some ⟨g5, 0, none⟩) H.n H.n) := st2.box.cellIs rfl
              have r3 : wt.cell? ⟨g3, k, none⟩ = some (.int .i32 (if k = k then -1 else fF H k k)) := st2.r3.cell hlt
              have r5 : wt.cell? ⟨g5, m, none⟩ = some (.int .i32 (fR H k m)) := st2.r5.cell hmn
              have f3 : wt.frozen? ⟨g3, k, none⟩ = false := st2.r3.frozen k
              have f5 : wt.frozen? ⟨g5, m, none⟩ = false := st2.r5.frozen m
              have i0 : (0 : Int) ≤ (m : Int) := by omega
              have i1 : (m : Int) < (H.n : Int) := by omega
              have hrd := reads_le H (m : Int) k
              have hfr : Hid (fR H k m = (reads H (m : Int) k : Int)) := rfl
              have q0 : 0 ≤ fR H k m := by rw [hfr.out]; omega
              have q1 : fR H k m ≤ 4096 := by rw [hfr.out]; omega
              clear hA
              by_cases ho : H.o k = 114
              · have ho' : (H.o k == 114) = true := by simp [ho]
                have HO : Hid (H.o k = 114) := ho
                clear ho
                by_cases hv : H.v m = H.v k
                · have hv' : (H.v m == H.v k) = true := by simp [hv]
                  have hfrom : Hid (fromOf H k = (m : Int)) := fromOf_yes HM.out HO.out hv
                  clear hv
                  go_quiet (fail)
                  go_wp2
                  go_roundw
                  case rel => exact ⟨k + 1, by omega, by go_num, (st2.grow (grownBy_drewN _ _)).hit hB hlt hmn hfrom.out⟩
                  case measure => simp [intOf]; omega
                · have hv' : (H.v m == H.v k) = false := by simp [hv]
                  have hend := st2.miss (fromOf_var HM.out hv)
                  clear hv
                  go_quiet (fail)
                  go_wp2
                  go_roundw
                  case rel => exact ⟨k + 1, by omega, by go_num, hend.grow (grownBy_drewN _ _)⟩
                  case measure => simp [intOf]; omega
              · have ho' : (H.o k == 114) = false := by simp [ho]
                have hend := st2.miss (fromOf_kind ho)
                clear ho
                go_quiet (fail)
                go_wp2
                go_roundw
                case rel => exact ⟨k + 1, by omega, by go_num, hend.grow (grownBy_drewN _ _)⟩
                case measure => simp [intOf]; omega
          · have hkn : k = H.n := by omega
            subst hkn
            have hend := hst.ordered hB
            go_wp2
            go_ret
            exact ncoPost_mk rfl hend
end Go.Proofs.Qxb6603687a
