/-
  writesOf (28).
-/
import Derived.Test.Qxb6603687aWTidy
import Derived.BigRegion
import Derived.Deep.CutBlock
import Derived.Deep.RegionHeld3
import Derived.Deep.DrawnRows
import Derived.Deep.AppendLies
import Derived.OpenShut
namespace Go.Proofs.Qxb6603687a
open Go.RowKit Go.Maps
set_option linter.unusedVariables false

theorem zero70 (w : World) : (zeroValue 70).run Try.prog w = .ok (.slice none 0 0) w := by kernel_rfl
theorem law3w : Keyed Try.prog 3 := int_keyed Try.underlying3
/-- In world w the map gM reads v at key x. -/
def Looks (gM : Nat) (x : Int) (v : Value) (w : World) : Prop := (Instr.lookup 28 (.map (some gM)) (.int .i64 x) false).run Try.prog w = .ok v w
theorem looks_of {w : World} {gM n c : Nat} {GL : Int → List Nat} {GV : Int → Value} (h : MapFn w Try.prog 3 gM n c (wMap GL GV)) {x : Int} (hx : (Lit.int .i64 x).wf = true) (hG : GL x ≠ []) : Looks gM x (GV x) w := by
  have := h.look law3w Try.underlying28 (zero70 w) (key := .int .i64 x) (l := .int .i64 x) (by simp [keyOf, mapKey, Try.underlying3, hx])
  rw [show wMap GL GV (.int .i64 x) = some (GV x) from if_neg hG] at this
  exact this
theorem own_slice {w : World} {base : Nat} {e : TypeId} {size : Nat} {v : Value} {n : Nat} {xs : List Value} (h : w.ownsRow base e size v n xs) : ∃ rd rc, v = .slice rd n rc := by
  rcases h.2 with ⟨h1, h2⟩ | ⟨g, cap, cur, h1, _⟩
  · exact ⟨none, 0, by rw [h1, h2]⟩
  · exact ⟨_, cap, h1⟩
theorem zero3 (w : World) : (zeroValue 3).run Try.prog w = .ok (.int .i64 0) w := by kernel_rfl
/-- 'append(v, x...)', not laid open. -/
def appS (ts : Array TypeId) (t : TypeId) (xs : Array Value) := Builtin.append_ ts t xs
theorem appS_of (ts : Array TypeId) (t : TypeId) (xs : Array Value) : Builtin.append_ ts t xs = appS ts t xs := rfl
theorem info73 : (Try.prog.info? 73).map (fun i => (i.zero, i.size, i.bytes)) = some (some (.agg #[.int .i32 0, .slice none 0 0, .slice none 0 0, .int .i64 0]), 4, 64) := by kernel_rfl
/-- Behind 'if !ok': the group is there. -/
def WCut (H : Hist) (st : Nat → Int) (w0 : World) (base N gM gS k gp : Nat) (w : World) : Prop :=
  ∃ GV RV T, WMid H st w0 base N gM gS k GV RV T w ∧ T gp = none ∧ Blk w gp 69 #[.int .i64 (H.s k), .int .u8 (H.o k), .int .i64 (H.v k), .string (H.x k)]
def WPost (H : Hist) (st : Nat → Int) (w : World) (e : Ending) (w' : World) : Prop :=
  ∃ gM N gS base, e = .returned (.tuple #[.map (some gM), .slice (some ⟨N, 0, none⟩) H.n H.n]) ∧ WBk w base N gM gS ∧ WHead H st w base N gM gS H.n w'
attribute [local go_sem ↓] appS_of
attribute [local go_sem ↓] Go.wp_at_zero Go.wp_at_succ
set_option maxRecDepth 100000 in
set_option maxHeartbeats 1000000 in
theorem writesOf_any (ad sd : Option Addr) (cap gO nS sc : Nat) (H : Hist) (st : Nat → Int) (w : World) (hn : H.n ≤ 4096) (hin : IsOps w (.slice ad H.n cap) H) (hO : w.cell? ⟨gO, 1, none⟩ = some (.slice sd nS sc)) (hs : Ints w sd .i32 nS st) (hS : nS ≤ 65536) (hcov : Covered H nS) (hk : KeyOk H st) :
    Calls Try.prog 28 #[.slice ad H.n cap, .pointer (some ⟨gO, 0, none⟩)] w fun e w' => WPost H st w e w' := by
  have hmm := @run_makeMap Try.prog
  have hmk := fun w => run_mkS H.n (by omega) w
  go_enter Try.func28, Try.ntmps28
  go_wp2
  obtain ⟨gM, N, gS, base, w1, e1, e2, e3, hbs, e4, hB, h0⟩ : ∃ gM N gS base w1, w.heap.size = gM ∧ gM + 1 = N ∧ N + 1 = gS ∧ base = gS + 1 ∧ ((w.alloc (.map #[] 0)).alloc (.cells (zeros .i32 H.n) 21)).alloc (.map #[] 0) = w1 ∧ WBk w base N gM gS ∧ WHead H st w base N gM gS 0 w1 := ⟨_, _, _, _, _, rfl, rfl, rfl, rfl, rfl, wbk_start w, whead_start H st w⟩
  rw [e4, e1, e2, e3]
  clear hmm hmk e2 e3 e4
  go_loopw [21] (fun i wr => ∃ k : Nat, k ≤ H.n ∧ i = .int .i64 k ∧ WHead H st w base N gM gS k wr) (fun i _ => H.n - (intOf i).toNat)
  case atStart => exact ⟨0, Nat.zero_le _, rfl, h0⟩
  case round =>
    clear h0
    obtain ⟨k, hkl, rfl, hW⟩ := hrel
    obtain ⟨GV, RV, T, htd, hst⟩ := whead_tidy hW
    have HT : Hid (Tidy H st k GV RV) := htd
    clear htd hW
    by_cases hlt : k < H.n
    · obtain ⟨b, off, hae, hlb, c0, c1, c2, c3⟩ := hin.op hlt
      cases hae
      have c0' := (hst.below.cell (p := ⟨b, off + k * 4, none⟩) hlb).trans c0
      have c1' := (hst.below.cell (p := ⟨b, off + k * 4 + 1, none⟩) hlb).trans c1
      have c2' := (hst.below.cell (p := ⟨b, off + k * 4 + 2, none⟩) hlb).trans c2
      have c3' := (hst.below.cell (p := ⟨b, off + k * 4 + 3, none⟩) hlb).trans c3
      clear c0 c1 c2 c3
      by_cases ho : H.o k = 119
      · have ho' : (H.o k != 119) = false := by simp [ho]
        have HO : Hid (H.o k = 119) := ho
        clear ho
        go_wp2
        obtain ⟨gp, w2, hgp, hw2, hst2, hop⟩ : ∃ gp w2, wr.heap.size = gp ∧ wr.alloc (.cells #[.int .i64 (H.s k), .int .u8 (H.o k), .int .i64 (H.v k), .string (H.x k)] 69) = w2 ∧ WSt H st w base N gM gS (fun x => grpL H st x k) (fun g => opsL H st g k) (nv H st k) k k (wMap (fun x => grpL H st x k) GV) (sMap H st k) (rkUp H st k) GV RV T w2 ∧ Blk w2 gp 69 #[.int .i64 (H.s k), .int .u8 (H.o k), .int .i64 (H.v k), .string (H.x k)] := ⟨_, _, rfl, rfl, hst.same (World.grownBy_alloc _ _ _), Blk.new _ _ _⟩
        have hTg : T gp = none := by
          cases h : T gp with
          | none => rfl
          | some t => have := (hst.tagLt gp t h).2; omega
        have hSg : gS < gp ∧ gM < gp := by
          obtain ⟨_, h1⟩ := hst.mapS
          have h2 := h1.lt
          have h3 := hst.mapM.lt
          omega
        rw [hw2, hgp]
        clear hw2 hst c0' c1' c2' c3'
        have hkS : k < nS := by
          apply Classical.byContradiction
          intro h
          exact hcov k (by omega) hlt HO.out
        obtain ⟨sb, so, hse, hsl, d1⟩ := hs.at_ hkS
        cases hse
        have hOl := cell_lt hO
        have d1' := (hst2.below.cell (p := ⟨sb, so + k, none⟩) hsl).trans d1
        have o1' := (hst2.below.cell (p := ⟨gO, 1, none⟩) hOl).trans hO
        have p2 := hop.cellIs (j := 2) rfl
        have hsz := hst2.below.size
        have hwS := hk.s k hlt HO.out
        have hbS := bounds_i64 hwS
        have hwr : IntKind.i64.wrap (st k) = st k := by rw [IntKind.wrap_i64]; omega
        have j0 : (0 : Int) ≤ (k : Int) := by omega
        have j1 : (k : Int) < (nS : Int) := by omega
        have n1 := World.new_ne w2 ⟨gp, 2, none⟩ p2
        have n2 := World.new_ne w2 ⟨gO, 1, none⟩ o1'
        have n3 := World.new_ne w2 ⟨sb, so + k, none⟩ d1'
        go_region_held3 (fun w' => w'.cell? ⟨gp, 2, none⟩ = some (.int .i64 (H.v k)) ∧ w'.cell? ⟨gO, 1, none⟩ = some (.slice (some ⟨sb, so, none⟩) nS sc) ∧ w'.cell? ⟨sb, so + k, none⟩ = some (.int .i32 (st k))) (go_keep) (fail)
        obtain ⟨gk, w3, hgk, hw3, hst3, hop3, hkb⟩ : ∃ gk w3, w2.heap.size = gk ∧ (w2.alloc (.cells #[.int .i64 (H.v k), .int .i64 (st k)] 85)).drew = w3 ∧ WSt H st w base N gM gS (fun x => grpL H st x k) (fun g => opsL H st g k) (nv H st k) k k (wMap (fun x => grpL H st x k) GV) (sMap H st k) (rkUp H st k) GV RV T w3 ∧ Blk w3 gp 69 #[.int .i64 (H.s k), .int .u8 (H.o k), .int .i64 (H.v k), .string (H.x k)] ∧ Blk w3 gk 85 #[.int .i64 (H.v k), .int .i64 (st k)] := ⟨_, _, rfl, rfl, (hst2.same (World.grownBy_alloc _ _ _)).same (grownBy_drew _), (hop.alloc _).drew, (Blk.new _ _ _).drew⟩
        rw [hw3, hgk]
        clear hw3 d1' o1' p2 n1 n2 n3
        have q0 := hkb.cellIs (j := 0) rfl
        have q1 := hkb.cellIs (j := 1) rfl
        obtain ⟨cS, hmS⟩ := hst3.mapS
        have hkey := key_of (hk.v k hlt) hwS
        obtain ⟨kk, ok, hrun9, hok, hno⟩ : ∃ (kk : Int) (ok : Bool), (Instr.lookup 84 (.map (some gS)) (.agg #[.int .i64 (H.v k), .int .i64 (st k)]) true).run Try.prog w3 = .ok (.tuple #[.int .i64 kk, .bool ok]) w3 ∧ (ok = true → gf H st k < k ∧ kk = (rk H st k : Int)) ∧ (ok = false → gf H st k = k) := by
          by_cases hnew : gf H st k = k
          · exact ⟨_, false, hmS.look_miss law85 Try.underlying84 (zero3 _) hkey (sMap_new hk hlt HO.out hnew), fun h => by simp at h, fun _ => hnew⟩
          · have hg : gf H st k < k := by have := gf_le H st k; omega
            exact ⟨_, true, hmS.look_hit law85 Try.underlying84 (zero3 _) hkey (sMap_old hk hlt HO.out hg), fun _ => ⟨hg, rfl⟩, fun h => by simp at h⟩
        have HOK : Hid ((ok = true → gf H st k < k ∧ kk = (rk H st k : Int)) ∧ (ok = false → gf H st k = k)) := ⟨hok, hno⟩
        clear hok hno
        go_upto_if 47 with fail
        go_cut [12] from 22 to 97 (fun a wx => a = .int .i64 (rk H st k : Int) ∧ WCut H st w base N gM gS k gp wx)
        case first =>
          clear hrun9
          cases ok with
          | true =>
            obtain ⟨h1, h2⟩ := HOK.out.1 rfl
            clear HOK
            go_wp2
            go_meet
            exact ⟨by first | rfl | rw [h2] | (rw [← h2]), GV, RV, T, wmid_old HO.out h1 hst3, hTg, hop3⟩
          | false =>
            have hnew := HOK.out.2 rfl
            clear HOK
            clear hop hst2 hgk
            have hrow := hst3.row (H.v k)
            obtain ⟨rd, rc, hGx⟩ := own_slice hrow
            have hgl := grpL_le H st (H.v k) k
            have hlk : Hid (∀ x, MapFn x Try.prog 3 gM k (nv H st k) (wMap (fun x => grpL H st x k) GV) → (Instr.lookup 28 (.map (some gM)) (.int .i64 (H.v k)) false).run Try.prog x = .ok (.slice rd (grpL H st (H.v k) k).length rc) x) := fun x hx => by
              have := hx.look law3w Try.underlying28 (zero70 x) (key := .int .i64 (H.v k)) (l := .int .i64 (H.v k)) (by simp [keyOf, mapKey, Try.underlying3, hk.v k hlt])
              rw [← hGx]
              by_cases e : grpL H st (H.v k) k = []
              · rw [HT.out.row _ e]
                simpa [wMap, e] using this
              · simpa [wMap, e] using this
            have hl3 := hlk.out _ hst3.mapM
            have p2 := hop3.cellIs (j := 2) rfl
            obtain ⟨w4, hrun4, hm4, hg4⟩ := hmS.store law85 Try.underlying84 (by simp [maxLen]; omega) (v := .int .i64 ((grpL H st (H.v k) k).length : Int)) hkey
            have hrun4' : (Instr.mapUpdate 84 (.map (some gS)) (.agg #[.int .i64 (H.v k), .int .i64 (st k)]) (.int .i64 ((grpL H st (H.v k) k).length : Int))).run Try.prog w3 = .ok () w4 := hrun4
            clear hrun4
            have hst4 := hst3.putS hB hg4 hm4
            rw [← sMap_next HO.out hnew] at hst4
            have hop4 := hop3.kept hg4 (fun e => by have := Option.some.inj e; omega)
            have hSz := hop4.lt
            have HC : Hid (WSt H st w base N gM gS (fun x => grpL H st x k) (fun g => opsL H st g k) (nv H st k) k (k + 1) (wMap (fun x => grpL H st x k) GV) (sMap H st (k + 1)) (rkUp H st k) GV RV T w4 ∧ Blk w4 gp 69 #[.int .i64 (H.s k), .int .u8 (H.o k), .int .i64 (H.v k), .string (H.x k)]) := ⟨hst4, hop4⟩
            have d4 := (hst4.below.cell (p := ⟨sb, so + k, none⟩) hsl).trans d1
            have o4 := (hst4.below.cell (p := ⟨gO, 1, none⟩) hOl).trans hO
            have p4 := hop4.cellIs (j := 2) rfl
            have HP : Hid (w4.cell? ⟨gp, 2, none⟩ = some (.int .i64 (H.v k)) ∧ w4.cell? ⟨gO, 1, none⟩ = some (.slice (some ⟨sb, so, none⟩) nS sc) ∧ w4.cell? ⟨sb, so + k, none⟩ = some (.int .i32 (st k))) := ⟨p4, o4, d4⟩
            have hbase : base ≤ w4.heap.size := by omega
            clear d4 o4 p4 hst3 hop3 hst4 hop4 hm4 hg4 hmS hrow
            go_upto_region 13 with fail
            obtain ⟨i73, hi73, hz0, hz1, hz2⟩ := info_parts info73
            obtain ⟨g, cap5, w5, hA, hown1, hgrow, hat, hlt5⟩ := run_append_lies (P := Try.prog) (w4.alloc (.cells #[.int .i32 (st k), .slice none 0 0, .slice none 0 0, .int .i64 0] 73)).drew 70 70 base 73 i73 _ 4 64 Try.underlying70 hi73 hz0 hz1 hz2 rfl (by omega) (.slice rd (grpL H st (H.v k) k).length rc) (grpL H st (H.v k) k).length _ (((hGx ▸ HC.out.1.row (H.v k)).alloc _).drew)
                ⟨w4.heap.size, 0, none⟩ 1 1 [.int .i32 (st k), .slice none 0 0, .slice none 0 0, .int .i64 0] (by rfl) (World.news_of_block (cs := #[.int .i32 (st k), .slice none 0 0, .slice none 0 0, .int .i64 0]) (t := 73) (fr := (0, 0)) (heap_alloc_new w4 _)) (by simp [Value.oneCell'])
                (by omega) (by simp [maxLen]; omega) (by omega) (by simp; omega) (w4.heap.size + 1) (by simp)
            have hA' : (appS #[70, 70] 70 #[.slice rd (grpL H st (H.v k) k).length rc, .slice (some ⟨w4.heap.size, 0, none⟩) 1 1]).run Try.prog (w4.alloc (.cells #[.int .i32 (st k), .slice none 0 0, .slice none 0 0, .int .i64 0] 73)).drew = .ok (.slice (some ⟨g, 0, none⟩) ((grpL H st (H.v k) k).length + 1) cap5) w5 := hA
            have hpr : some gp ≠ (Value.slice rd (grpL H st (H.v k) k).length rc).ownBlock := fun e => by
              have := HC.out.1.tagR (H.v k) gp (by rw [hGx]; exact e.symm)
              rw [hTg] at this
              cases this
            have hmr : some gM ≠ (Value.slice rd (grpL H st (H.v k) k).length rc).ownBlock := fun e => by
              have := HC.out.1.tagLt gM _ (HC.out.1.tagR (H.v k) gM (by rw [hGx]; exact e.symm))
              have := hB.mb
              omega
            have hop5 := ((HC.out.2.alloc (.cells #[.int .i32 (st k), .slice none 0 0, .slice none 0 0, .int .i64 0] 73)).drew).kept hgrow hpr
            have hmap5 := (HC.out.1.mapM.alloc (.cells #[.int .i32 (st k), .slice none 0 0, .slice none 0 0, .int .i64 0] 73)).drew.kept hgrow hmr
            obtain ⟨w6, hrun6, hm6, hg6⟩ := hmap5.store law3w Try.underlying28 (by simp [maxLen]; omega) (key := .int .i64 (H.v k)) (l := .int .i64 (H.v k)) (v := .slice (some ⟨g, 0, none⟩) ((grpL H st (H.v k) k).length + 1) cap5) (by simp [keyOf, mapKey, Try.underlying3, hk.v k hlt])
            have hl4 := hlk.out _ HC.out.1.mapM.drew
            have hl5 := hlk.out _ (HC.out.1.mapM.alloc (.cells #[.int .i32 (st k), .slice none 0 0, .slice none 0 0, .int .i64 0] 73)).drew
            obtain ⟨p4, o4, d4⟩ := HP.out
            have n1 := World.new_ne w4 ⟨gp, 2, none⟩ p4
            have n2 := World.new_ne w4 ⟨gO, 1, none⟩ o4
            have n3 := World.new_ne w4 ⟨sb, so + k, none⟩ d4
            have p5 := hop5.cellIs (j := 2) rfl
            have hst5 := (HC.out.1.same (World.grownBy_alloc w4 (.cells #[.int .i32 (st k), .slice none 0 0, .slice none 0 0, .int .i64 0] 73) none)).same (grownBy_drew _)
            have hgr : (w4.alloc (.cells #[.int .i32 (st k), .slice none 0 0, .slice none 0 0, .int .i64 0] 73)).drew.grownBy w5 (GV (H.v k)).ownBlock := by
              rw [hGx]
              exact hgrow
            have hat' : (GV (H.v k)).ownBlock = some g ∨ (w4.alloc (.cells #[.int .i32 (st k), .slice none 0 0, .slice none 0 0, .int .i64 0] 73)).drew.heap.size ≤ g := by
              rw [hGx]
              rcases hat with h | h
              · exact .inl h
              · right
                simp
                omega
            have hfin := wmid_new hB HO.out hnew HT.out hst5 hown1 hgr hat' hlt5 (by simp; omega) hm6 hg6
            have hTn : (fun b => if b = g then some (Sum.inl (H.v k)) else T b) gp = none := by
              show (if gp = g then some (Sum.inl (H.v k)) else T gp) = none
              have hne : gp ≠ g := fun e => by
                rcases hat with h | h
                · rw [← e] at h
                  exact hpr h.symm
                · omega
              rw [if_neg hne]
              exact hTg
            have HF : Hid (WCut H st w base N gM gS k gp w6) := ⟨_, _, _, hfin, hTn, hop5.kept hg6 (fun e => by have := Option.some.inj e; omega)⟩
            clear hfin hTn hst5 hgr hat' hm6 hg6 hop5 hmap5 hA hown1 hgrow hat hlt5 hpr hmr hi73 hz0 hz1 hz2
            go_region
            go_wp2
            go_meet
            exact ⟨by rw [rk_new HO.out hnew], HF.out⟩
        case rest =>
          clear hst3 hop3 hkb hTg hrun9 hSg HOK hmS hst2 hop hkey d1 hOl hsz hsl hgk hgp HT q0 q1 hwr hwS hbS
          obtain ⟨rfl, GV, RV, T, hM, hTg, hop3⟩ := hcut
          have hrow := hM.row (H.v k)
          have hops := hM.ops (gf H st k)
          have hhere := grp_here H st HO.out
          have hrkl : rk H st k < (grpL H st (H.v k) (k + 1)).length := (List.getElem?_eq_some_iff.1 hhere).1
          have hgl := grpL_le H st (H.v k) (k + 1)
          have hol := opsL_le H st (gf H st k) k
          obtain ⟨gx, cx, hGV, hgxb, hgxl⟩ := World.ownsRow.form hrow (by omega)
          obtain ⟨rd, rc, hRV⟩ := own_slice hops
          have hne0 : grpL H st (H.v k) (k + 1) ≠ [] := fun e => by rw [e] at hrkl; simp at hrkl
          have hTx : T gx = some (.inl (H.v k)) := hM.tagR _ _ (by rw [hGV]; rfl)
          have hxr : some gx ≠ (Value.slice rd (opsL H st (gf H st k) k).length rc).ownBlock := fun e => by
            have := hM.tagO (gf H st k) gx (by rw [hRV]; exact e.symm)
            rw [hTx] at this
            cases this
          have hpr : some gp ≠ (Value.slice rd (opsL H st (gf H st k) k).length rc).ownBlock := fun e => by
            have := hM.tagO (gf H st k) gp (by rw [hRV]; exact e.symm)
            rw [hTg] at this
            cases this
          have hmr : some gM ≠ (Value.slice rd (opsL H st (gf H st k) k).length rc).ownBlock := fun e => by
            have := hM.tagLt gM _ (hM.tagO (gf H st k) gM (by rw [hRV]; exact e.symm))
            have := hB.mb
            omega
          have hxm : gM ≠ gx := by have := hB.mb; omega
          have hxp : gp ≠ gx := fun e => by rw [← e, hTg] at hTx; cases hTx
          have hpl := hop3.lt
          have hbase : base ≤ wc.heap.size := by omega
          rw [hGV] at hrow
          rw [hRV] at hops
          have hcell := (World.ownsRow.cellAt hrow (rk H st k * 4 + 1) (by omega)).trans (rowC_at st RV _ hhere).2.1
          have hfz := World.ownsRow.frozenAt hrow (rk H st k * 4 + 1)
          rw [hRV] at hcell
          have p2 := hop3.cellIs (j := 2) rfl
          have j0 : (0 : Int) ≤ (rk H st k : Int) := by omega
          have j1 : (rk H st k : Int) < ((grpL H st (H.v k) (k + 1)).length : Int) := by omega
          have hwk : IntKind.i32.wrap (k : Int) = (k : Int) := by rw [IntKind.wrap_i32]; omega
          have hwx : IntKind.i32.wrap (rk H st k : Int) = (rk H st k : Int) := by rw [IntKind.wrap_i32]; omega
          have hmapM := hM.mapM
          have HL1 : Hid (∀ x, MapFn x Try.prog 3 gM (k + 1) (nv H st (k + 1)) (wMap (fun x => grpL H st x (k + 1)) GV) → (Instr.lookup 28 (.map (some gM)) (.int .i64 (H.v k)) false).run Try.prog x = .ok (.slice (some ⟨gx, 0, none⟩) (grpL H st (H.v k) (k + 1)).length cx) x) := fun x hx => by
            have := looks_of hx (hk.v k hlt) hne0
            rw [hGV] at this
            exact this
          obtain ⟨i21, hi21, hz0, hz1, hz2⟩ := info_parts info21w
          have HI : Hid (i21.zero = some (.int .i32 0) ∧ i21.size = 1 ∧ i21.bytes = 4 ∧ Try.prog.info? 21 = some i21) := ⟨hz0, hz1, hz2, hi21⟩
          clear hi21 hz0 hz1 hz2
          have n1 := World.new_ne wc ⟨gp, 2, none⟩ p2
          have n2 := World.new_ne wc ⟨gx, rk H st k * 4 + 1, none⟩ hcell
          have HM : Hid (WMid H st w base N gM gS k GV RV T wc) := hM
          have HG : Hid (GV (H.v k) = .slice (some ⟨gx, 0, none⟩) (grpL H st (H.v k) (k + 1)).length cx ∧ RV (gf H st k) = .slice rd (opsL H st (gf H st k) k).length rc) := ⟨hGV, hRV⟩
          have HMM : Hid (MapFn wc Try.prog 3 gM (k + 1) (nv H st (k + 1)) (wMap (fun x => grpL H st x (k + 1)) GV)) := hmapM
          have HOPS : Hid (wc.ownsRow base 21 1 (.slice rd (opsL H st (gf H st k) k).length rc) (opsL H st (gf H st k) k).length ((opsL H st (gf H st k) k).map fun i : Nat => Value.int .i32 (i : Int))) := hops
          have HX : Hid (some gx ≠ (Value.slice rd (opsL H st (gf H st k) k).length rc).ownBlock ∧ some gp ≠ (Value.slice rd (opsL H st (gf H st k) k).length rc).ownBlock ∧ some gM ≠ (Value.slice rd (opsL H st (gf H st k) k).length rc).ownBlock) := ⟨hxr, hpr, hmr⟩
          clear hM hGV hRV hmapM hops hrow hhere hTx hne0 hop3 hxr hpr hmr
          go_upto_region 14 with fail
          obtain ⟨g, cap5, w5, hA, hown1, hgrow, hat, hlt5⟩ := run_append_lies (P := Try.prog) (wc.alloc (.cells #[.int .i32 (k : Int)] 21)).drew 23 23 base 21 i21 _ 1 4 Try.underlying23 HI.out.2.2.2 HI.out.1 HI.out.2.1 HI.out.2.2.1 rfl (by omega) (.slice rd (opsL H st (gf H st k) k).length rc) (opsL H st (gf H st k) k).length _ ((HOPS.out.alloc _).drew)
                ⟨wc.heap.size, 0, none⟩ 1 1 [.int .i32 (k : Int)] (by rfl) (World.news_of_block (cs := #[.int .i32 (k : Int)]) (t := 21) (fr := (0, 0)) (heap_alloc_new wc _)) (by simp [Value.oneCell'])
                (by omega) (by simp [maxLen]; omega) (by omega) (by simp; omega) (wc.heap.size + 1) (by simp)
          have hmap5 := (HMM.out.alloc (.cells #[.int .i32 (k : Int)] 21)).drew.kept hgrow HX.out.2.2
          have hl1 := HL1.out _ HMM.out.drew
          have hl2 := HL1.out _ (HMM.out.alloc (.cells #[.int .i32 (k : Int)] 21)).drew
          have hl5 := HL1.out _ hmap5
          have p5 : w5.cell? ⟨gp, 2, none⟩ = some (.int .i64 (H.v k)) := by
            rw [hgrow.cell_far _ (by simp; omega) HX.out.2.1]
            go_keep
          have q5 : w5.cell? ⟨gx, rk H st k * 4 + 1, none⟩ = some (.slice rd (opsL H st (gf H st k) k).length rc) := by
            rw [hgrow.cell_far _ (by simp; omega) HX.out.1]
            go_keep
          have r5 : w5.frozen? ⟨gx, rk H st k * 4 + 1, none⟩ = false := by
            rw [hgrow.frozen_far _ (by simp; omega) HX.out.1]
            exact ((World.grownBy_alloc wc (.cells #[.int .i32 (k : Int)] 21) none).frozen_far ⟨gx, rk H st k * 4 + 1, none⟩ hgxl (by simp)).trans hfz
          have hA' : (appS #[23, 23] 23 #[.slice rd (opsL H st (gf H st k) k).length rc, .slice (some ⟨wc.heap.size, 0, none⟩) 1 1]).run Try.prog (wc.alloc (.cells #[.int .i32 (k : Int)] 21)).drew = .ok (.slice (some ⟨g, 0, none⟩) ((opsL H st (gf H st k) k).length + 1) cap5) w5 := hA
          have HGR : Hid ((wc.alloc (.cells #[.int .i32 (k : Int)] 21)).drew.grownBy w5 (Value.slice rd (opsL H st (gf H st k) k).length rc).ownBlock ∧ ((Value.slice rd (opsL H st (gf H st k) k).length rc).ownBlock = some g ∨ g = wc.heap.size + 1) ∧ g < w5.heap.size) := ⟨hgrow, hat, hlt5⟩
          clear hA hgrow hat hlt5
          go_region
          have hM1 : WMid H st w base N gM gS k GV RV T (wc.alloc (.cells #[.int .i32 (k : Int)] 21)).drew := (WSt.same HM.out (World.grownBy_alloc _ _ _)).same (grownBy_drew _)
          have hgr : (wc.alloc (.cells #[.int .i32 (k : Int)] 21)).drew.grownBy w5 (RV (gf H st k)).ownBlock := by
            rw [HG.out.2]
            exact HGR.out.1
          have hat' : (RV (gf H st k)).ownBlock = some g ∨ (wc.alloc (.cells #[.int .i32 (k : Int)] 21)).drew.heap.size ≤ g := by
            rw [HG.out.2]
            rcases HGR.out.2.1 with h | h
            · exact .inl h
            · right
              simp
              omega
          have hb1 : base ≤ (wc.alloc (.cells #[.int .i32 (k : Int)] 21)).drew.heap.size := by simp; omega
          have hfin := WMid.next hB hM1 HO.out hlt HG.out.1 hown1 hgr hat' HGR.out.2.2 hb1 (World.grownBy.refl _ _)
          have hG := WSt.gain hB hM1 HG.out.1 (grp_here H st HO.out) (fun y j hy => grp_only H st HO.out y j hy) hown1 hgr hat' HGR.out.2.2 hb1
          have s1 := hG.rank.cell hlt
          have s2 := hG.rank.frozen k
          obtain ⟨wy, hwy⟩ : ∃ wy, w5.setCell ⟨gx, rk H st k * 4 + 1, none⟩ (.slice (some ⟨g, 0, none⟩) ((opsL H st (gf H st k) k).length + 1) cap5) = wy := ⟨_, rfl⟩
          rw [hwy] at s1 s2 hfin ⊢
          clear hG hM1 hgr hat' hwy hA' hl1 hl2 hl5 p5 q5 r5 hown1 hmap5 hcell hfz p2
          go_wp2
          go_roundw
          case rel => exact ⟨k + 1, by omega, by go_num, hfin⟩
          case measure => simp [intOf]; omega
      · have ho' : (H.o k != 119) = true := by simp [ho]
        go_wp2
        go_roundw
        case rel => exact ⟨k + 1, by omega, by go_num, whead_skip ho (hst.same (World.grownBy_alloc _ _ _))⟩
        case measure => simp [intOf]; omega
    · have hkn : k = H.n := by omega
      subst hkn
      go_wp2
      exact bodyPost_ret (v := .tuple #[.map (some gM), .slice (some ⟨N, 0, none⟩) H.n H.n]) (by simp [results, Try.results28, go_sem]) rfl ⟨gM, N, gS, base, rfl, hB, ⟨GV, RV, T, hst⟩⟩
end Go.Proofs.Qxb6603687a
