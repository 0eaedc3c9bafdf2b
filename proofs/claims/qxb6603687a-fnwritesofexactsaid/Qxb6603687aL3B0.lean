/-
  FnWritesOfExact (3): the loop that fills groupFirst (block 0).
-/
import Derived.Test.Qxb6603687aL3Blk
import Derived.WalkKit
import Derived.WalkSpells
import Derived.Deep.QuietTactic
import Derived.BigQuiet
namespace Go.Proofs.Qxb6603687a
open Go.RowKit Go.Maps
set_option linter.unusedVariables false

set_option maxRecDepth 100000 in
set_option maxHeartbeats 8000000 in
theorem block0 {K : Act → World → Prop} {Q' : Exit → Act → World → Prop} {u2 u3 u4 u6 u7 u10 u11 u12 u13 u14 u15 u16 u17 u18 u19 u20 u21 u22 u23 u24 u25 u26 u27 u28 u29 u30 u31 u32 u33 u34 u35 u36 u37 u38 u39 u40 u41 u42 u43 u44 u45 u46 u47 u48 u49 u50 u51 u52 u53 u54 u55 u56 u57 u58 u59 u60 u61 u62 u63 u64 u65 u66 u67 u68 u69 u70 u71 u72 u73 u74 u75 u76 u77 u78 u79 u80 u81 u82 u83 u84 u85 u86 u87 u88 u89 u90 u91 u92 u93 u94 u95 u96 u97 u98 u99 u100 u101 u102 u103 u104 u105 u106 u107 u108 u109 u110 u111 u112 u113 u114 u115 u116 u117 u118 u119 u120 u121 u122 u123 u124 u125 u126 u127 u128 u129 u130 u131 u132 u133 u134 u135 u136 u137 u138 u139 u140 u141 u142 u143 u144 u145 u146 u147 u148 u149 u150 u151 u152 u153 u154 u155 u156 u157 u158 u159 u160 u161 u162 u163 u164 u165 u166 u167 u168 u169 u170 u171 u172 u173 u174 u175 u176 u177 u178 u179 u180 u181 u182 u183 u184 u185 u186 u187 u188 u189 u190 u191 u192 u193 u194 u195 u196 u197 u198 u199 u200 u201 u202 u203 u204 u205 u206 u207 u208 u209 u210 u211 u212 u213 u214 u215 u216 u217 u218 u219 u220 u221 u222 u223 u224 u225 u226 u227 u228 u229 u230 u231 u232 u233 u234 u235 u236 u237 u238 u239 u240 u241 u242 u243 u244 u245 u246 u247 u248 u249 u250 u251 u252 u253 u254 u255 u256 u257 u258 u259 u260 u261 u262 u263 u264 u265 u266 u267 u268 u269 u270 u271 u272 u273 u274 u275 u276 u277 u278 u279 u280 u281 u282 u283 u284 u285 u286 u287 u288 u289 u290 u291 u292 u293 u294 u295 u296 u297 u298 u299 u300 u301 u302 u303 u304 u305 u306 u307 u308 u309 u310 u311 u312 u313 u314 u315 u316 u317 u318 u319 u320 u321 u322 u323 u324 u325 u326 u327 u328 u329 u330 u331 u332 u333 u334 u335 u336 u337 u338 u339 u340 u341 u342 u343 u344 u345 u346 u347 u348 : Value}
    (H : Hist) (st : Nat → Int) (nS : Nat) (aH aS : Option Addr) (gZ B gM N G : Nat) (GV : Int → Value) (RV : Nat → Value) (wS w1 : World) (hn : H.n ≤ 4096) (hS : nS ≤ 65536) (hSn : Snap H st nS aH aS gZ B gM N GV RV wS) (hcov : Covered H nS) (hGl : wS.heap.size ≤ G) (hbG : Below wS.heap.size wS w1) (hrG : RowFn w1 G 3 .i64 H.n (gF H st 0))
    (hK : ∀ (v9 v10 v69 v70 v71 v72 v73 v74 v75 v76 v77 v78 v79 v80 v81 v82 v83 v84 v85 v86 v87 v88 v89 v90 v91 v92 v93 v94 v95 v96 v97 v98 v99 v100 v101 v102 v103 v104 v105 v106 v107 v108 v109 v110 v111 v112 v113 v114 v115 v116 v117 v118 v119 v120 v121 v122 v123 v124 v125 : Value) (wr : World), Below wS.heap.size wS wr → RowFn wr G 3 .i64 H.n (gfv H st) → K ⟨#[.slice aH H.n H.n, .slice aS nS nS, u2, u3, u4, .int .i64 (H.n : Int), u6, u7, .slice (some ⟨G, 0, none⟩) H.n H.n, v9, v10, u11, u12, u13, u14, u15, u16, u17, u18, u19, u20, u21, u22, u23, u24, u25, u26, u27, u28, u29, u30, u31, u32, u33, u34, u35, u36, u37, u38, u39, u40, u41, u42, u43, u44, u45, u46, u47, u48, u49, u50, u51, u52, u53, u54, u55, u56, u57, u58, u59, u60, u61, u62, u63, u64, u65, u66, u67, u68, v69, v70, v71, v72, v73, v74, v75, v76, v77, v78, v79, v80, v81, v82, v83, v84, v85, v86, v87, v88, v89, v90, v91, v92, v93, v94, v95, v96, v97, v98, v99, v100, v101, v102, v103, v104, v105, v106, v107, v108, v109, v110, v111, v112, v113, v114, v115, v116, v117, v118, v119, v120, v121, v122, v123, v124, v125, u126, u127, u128, u129, u130, u131, u132, u133, u134, u135, u136, u137, u138, u139, u140, u141, u142, u143, u144, u145, u146, u147, u148, u149, u150, u151, u152, u153, u154, u155, u156, u157, u158, u159, u160, u161, u162, u163, u164, u165, u166, u167, u168, u169, u170, u171, u172, u173, u174, u175, u176, u177, u178, u179, u180, u181, u182, u183, u184, u185, u186, u187, u188, u189, u190, u191, u192, u193, u194, u195, u196, u197, u198, u199, u200, u201, u202, u203, u204, u205, u206, u207, u208, u209, u210, u211, u212, u213, u214, u215, u216, u217, u218, u219, u220, u221, u222, u223, u224, u225, u226, u227, u228, u229, u230, u231, u232, u233, u234, u235, u236, u237, u238, u239, u240, u241, u242, u243, u244, u245, u246, u247, u248, u249, u250, u251, u252, u253, u254, u255, u256, u257, u258, u259, u260, u261, u262, u263, u264, u265, u266, u267, u268, u269, u270, u271, u272, u273, u274, u275, u276, u277, u278, u279, u280, u281, u282, u283, u284, u285, u286, u287, u288, u289, u290, u291, u292, u293, u294, u295, u296, u297, u298, u299, u300, u301, u302, u303, u304, u305, u306, u307, u308, u309, u310, u311, u312, u313, u314, u315, u316, u317, u318, u319, u320, u321, u322, u323, u324, u325, u326, u327, u328, u329, u330, u331, u332, u333, u334, u335, u336, u337, u338, u339, u340, u341, u342, u343, u344, u345, u346, u347, u348], []⟩ wr) :
    Code.wp Try.prog (((Try.f3.body).bind (blkIn 0)).getD .skip) (Exit.then K Q') ⟨#[.slice aH H.n H.n, .slice aS nS nS, u2, u3, u4, .int .i64 (H.n : Int), u6, u7, .slice (some ⟨G, 0, none⟩) H.n H.n, .int .i64 0, u10, u11, u12, u13, u14, u15, u16, u17, u18, u19, u20, u21, u22, u23, u24, u25, u26, u27, u28, u29, u30, u31, u32, u33, u34, u35, u36, u37, u38, u39, u40, u41, u42, u43, u44, u45, u46, u47, u48, u49, u50, u51, u52, u53, u54, u55, u56, u57, u58, u59, u60, u61, u62, u63, u64, u65, u66, u67, u68, u69, u70, u71, u72, u73, u74, u75, u76, u77, u78, u79, u80, u81, u82, u83, u84, u85, u86, u87, u88, u89, u90, u91, u92, u93, u94, u95, u96, u97, u98, u99, u100, u101, u102, u103, u104, u105, u106, u107, u108, u109, u110, u111, u112, u113, u114, u115, u116, u117, u118, u119, u120, u121, u122, u123, u124, u125, u126, u127, u128, u129, u130, u131, u132, u133, u134, u135, u136, u137, u138, u139, u140, u141, u142, u143, u144, u145, u146, u147, u148, u149, u150, u151, u152, u153, u154, u155, u156, u157, u158, u159, u160, u161, u162, u163, u164, u165, u166, u167, u168, u169, u170, u171, u172, u173, u174, u175, u176, u177, u178, u179, u180, u181, u182, u183, u184, u185, u186, u187, u188, u189, u190, u191, u192, u193, u194, u195, u196, u197, u198, u199, u200, u201, u202, u203, u204, u205, u206, u207, u208, u209, u210, u211, u212, u213, u214, u215, u216, u217, u218, u219, u220, u221, u222, u223, u224, u225, u226, u227, u228, u229, u230, u231, u232, u233, u234, u235, u236, u237, u238, u239, u240, u241, u242, u243, u244, u245, u246, u247, u248, u249, u250, u251, u252, u253, u254, u255, u256, u257, u258, u259, u260, u261, u262, u263, u264, u265, u266, u267, u268, u269, u270, u271, u272, u273, u274, u275, u276, u277, u278, u279, u280, u281, u282, u283, u284, u285, u286, u287, u288, u289, u290, u291, u292, u293, u294, u295, u296, u297, u298, u299, u300, u301, u302, u303, u304, u305, u306, u307, u308, u309, u310, u311, u312, u313, u314, u315, u316, u317, u318, u319, u320, u321, u322, u323, u324, u325, u326, u327, u328, u329, u330, u331, u332, u333, u334, u335, u336, u337, u338, u339, u340, u341, u342, u343, u344, u345, u346, u347, u348], []⟩ w1 := by
  have HK : Hid (∀ (v9 v10 v69 v70 v71 v72 v73 v74 v75 v76 v77 v78 v79 v80 v81 v82 v83 v84 v85 v86 v87 v88 v89 v90 v91 v92 v93 v94 v95 v96 v97 v98 v99 v100 v101 v102 v103 v104 v105 v106 v107 v108 v109 v110 v111 v112 v113 v114 v115 v116 v117 v118 v119 v120 v121 v122 v123 v124 v125 : Value) (wr : World), Below wS.heap.size wS wr → RowFn wr G 3 .i64 H.n (gfv H st) → K ⟨#[.slice aH H.n H.n, .slice aS nS nS, u2, u3, u4, .int .i64 (H.n : Int), u6, u7, .slice (some ⟨G, 0, none⟩) H.n H.n, v9, v10, u11, u12, u13, u14, u15, u16, u17, u18, u19, u20, u21, u22, u23, u24, u25, u26, u27, u28, u29, u30, u31, u32, u33, u34, u35, u36, u37, u38, u39, u40, u41, u42, u43, u44, u45, u46, u47, u48, u49, u50, u51, u52, u53, u54, u55, u56, u57, u58, u59, u60, u61, u62, u63, u64, u65, u66, u67, u68, v69, v70, v71, v72, v73, v74, v75, v76, v77, v78, v79, v80, v81, v82, v83, v84, v85, v86, v87, v88, v89, v90, v91, v92, v93, v94, v95, v96, v97, v98, v99, v100, v101, v102, v103, v104, v105, v106, v107, v108, v109, v110, v111, v112, v113, v114, v115, v116, v117, v118, v119, v120, v121, v122, v123, v124, v125, u126, u127, u128, u129, u130, u131, u132, u133, u134, u135, u136, u137, u138, u139, u140, u141, u142, u143, u144, u145, u146, u147, u148, u149, u150, u151, u152, u153, u154, u155, u156, u157, u158, u159, u160, u161, u162, u163, u164, u165, u166, u167, u168, u169, u170, u171, u172, u173, u174, u175, u176, u177, u178, u179, u180, u181, u182, u183, u184, u185, u186, u187, u188, u189, u190, u191, u192, u193, u194, u195, u196, u197, u198, u199, u200, u201, u202, u203, u204, u205, u206, u207, u208, u209, u210, u211, u212, u213, u214, u215, u216, u217, u218, u219, u220, u221, u222, u223, u224, u225, u226, u227, u228, u229, u230, u231, u232, u233, u234, u235, u236, u237, u238, u239, u240, u241, u242, u243, u244, u245, u246, u247, u248, u249, u250, u251, u252, u253, u254, u255, u256, u257, u258, u259, u260, u261, u262, u263, u264, u265, u266, u267, u268, u269, u270, u271, u272, u273, u274, u275, u276, u277, u278, u279, u280, u281, u282, u283, u284, u285, u286, u287, u288, u289, u290, u291, u292, u293, u294, u295, u296, u297, u298, u299, u300, u301, u302, u303, u304, u305, u306, u307, u308, u309, u310, u311, u312, u313, u314, u315, u316, u317, u318, u319, u320, u321, u322, u323, u324, u325, u326, u327, u328, u329, u330, u331, u332, u333, u334, u335, u336, u337, u338, u339, u340, u341, u342, u343, u344, u345, u346, u347, u348], []⟩ wr) := hK
  clear hK
  have HSn : Hid (Snap H st nS aH aS gZ B gM N GV RV wS) := hSn
  have HCov : Hid (Covered H nS) := hcov
  clear hSn hcov
  conv => arg 2; whnf
  go_wp2
  go_loopw [9] (fun i wr => ∃ k : Nat, k ≤ H.n ∧ i = .int .i64 k ∧ Below wS.heap.size wS wr ∧ RowFn wr G 3 .i64 H.n (gF H st k)) (fun i _ => H.n - (intOf i).toNat)
  case atStart => exact ⟨0, Nat.zero_le _, rfl, hbG, hrG⟩
  case round =>
    clear hbG hrG
    obtain ⟨k, hk, rfl, hB, hr⟩ := hrel
    by_cases hlt : k < H.n
    · obtain ⟨b, off, hae, c1, c2⟩ := HSn.out.op hlt
      cases hae
      have hbl := cell_lt c1
      have d1 := (hB.cell (p := ⟨b, off + k * 4 + 1, none⟩) hbl).trans c1
      have nb1 : b ≠ G := by simp only at hbl; omega
      have nb2 : G ≠ b := nb1.symm
      have p1 := hr.cell hlt
      have f1 := hr.frozen k
      by_cases ho : H.o k = 119
      · have ho' : (H.o k != 119) = false := by simp [ho]
        have HO : Hid (H.o k = 119) := ho
        clear ho c1
        go_wp2
        obtain ⟨wx, hwx, hBx, hrx⟩ : ∃ wx, (wr.setCell ⟨G, k, none⟩ (.int .i64 (-1))).setCell ⟨G, k, none⟩ (.int .i64 (k : Int)) = wx ∧ Below wS.heap.size wS wx ∧ RowFn wx G 3 .i64 H.n (fun x => if x = k then (k : Int) else gF H st k x) :=
          ⟨_, rfl, (hB.setCell hGl _).setCell hGl _, (hr.set hlt (-1) (f' := fun i => if i = k then -1 else gF H st k i) (fun i _ => rfl)).set hlt _ (fun i _ => by by_cases e : i = k <;> simp [e])⟩
        rw [hwx]
        clear hwx hB hr d1 p1 f1
        go_loopw [10] (fun j wr => ∃ m : Nat, m ≤ k ∧ j = .int .i64 m ∧ Below wS.heap.size wS wr ∧ RowFn wr G 3 .i64 H.n (fun x => if x = k then (k : Int) else gF H st k x) ∧ ∀ i, i < m → ¬ (H.o i = 119 ∧ H.v i = H.v k ∧ st i = st k)) (fun j _ => k - (intOf j).toNat)
        case atStart => exact ⟨0, Nat.zero_le _, rfl, hBx, hrx, fun i hi => by omega⟩
        case round =>
          clear hBx hrx
          obtain ⟨m, hm, rfl, hB, hr, hno⟩ := hrel
          have HN : Hid (∀ i, i < m → ¬ (H.o i = 119 ∧ H.v i = H.v k ∧ st i = st k)) := hno
          clear hno
          by_cases hmk : m < k
          · have hmn : m < H.n := by omega
            obtain ⟨b', off', hae, e1, e2⟩ := HSn.out.op hmn
            cases hae
            have d2 := (hB.cell (p := ⟨b, off + k * 4 + 2, none⟩) hbl).trans c2
            have g1 := (hB.cell (p := ⟨b, off + m * 4 + 1, none⟩) hbl).trans e1
            have g2 := (hB.cell (p := ⟨b, off + m * 4 + 2, none⟩) hbl).trans e2
            clear e1 e2
            have i0 : (0 : Int) ≤ (m : Int) := by omega
            have i1 : (m : Int) < (H.n : Int) := by omega
            have i2 : (0 : Int) ≤ (k : Int) := by omega
            have i3 : (k : Int) < (H.n : Int) := by omega
            by_cases h1 : H.o m = 119
            · have h1' : (H.o m == 119) = true := by simp [h1]
              by_cases h2 : H.v m = H.v k
              · have h2' : (H.v m == H.v k) = true := by simp [h2]
                have hkS : k < nS := HCov.out.lt hlt HO.out
                have hmS : m < nS := HCov.out.lt hmn h1
                obtain ⟨sb, so, hae, s1⟩ := HSn.out.site hkS
                cases hae
                obtain ⟨sb', so', hae, s2⟩ := HSn.out.site hmS
                cases hae
                have hsl := cell_lt s1
                have t1 := (hB.cell (p := ⟨sb, so + k, none⟩) hsl).trans s1
                have t2 := (hB.cell (p := ⟨sb, so + m, none⟩) hsl).trans s2
                clear s1 s2
                have i4 : (m : Int) < (nS : Int) := by omega
                have i5 : (k : Int) < (nS : Int) := by omega
                by_cases h3 : st m = st k
                · have h3' : (st m == st k) = true := by simp [h3]
                  have HH : Hid (gfv H st k = (m : Int)) := gfv_hit HO.out hmk ⟨h1, h2, h3⟩ HN.out
                  clear h1 h2 h3
                  have p1 := hr.cell hlt
                  have f1 := hr.frozen k
                  go_wp2
                  go_quiet (fail)
                  go_wp2
                  go_roundw
                  case rel => exact ⟨k + 1, by omega, by go_num, (below_drewN hB _).setCell hGl _, (hr.drewN' _).set hlt _ (fun i _ => by rw [gF_next, HH.out]; by_cases e : i = k <;> simp [e])⟩
                  case measure => simp [intOf]; omega
                · have h3' : (st m == st k) = false := by simp [h3]
                  clear h1 h2
                  go_wp2
                  go_quiet (fail)
                  go_wp2
                  go_roundw
                  case rel => exact ⟨m + 1, by omega, by go_num, below_drewN hB _, hr.drewN' _, fun i hi hc => by by_cases e : i = m; (subst e; exact h3 hc.2.2); exact HN.out i (by omega) hc⟩
                  case measure => simp [intOf]; omega
              · have h2' : (H.v m == H.v k) = false := by simp [h2]
                clear h1
                go_wp2
                go_quiet (fail)
                go_wp2
                go_roundw
                case rel => exact ⟨m + 1, by omega, by go_num, below_drewN hB _, hr.drewN' _, fun i hi hc => by by_cases e : i = m; (subst e; exact h2 hc.2.1); exact HN.out i (by omega) hc⟩
                case measure => simp [intOf]; omega
            · have h1' : (H.o m == 119) = false := by simp [h1]
              go_wp2
              go_quiet (fail)
              go_wp2
              go_roundw
              case rel => exact ⟨m + 1, by omega, by go_num, below_drewN hB _, hr.drewN' _, fun i hi hc => by by_cases e : i = m; (subst e; exact h1 hc.1); exact HN.out i (by omega) hc⟩
              case measure => simp [intOf]; omega
          · go_wp2
            go_roundw
            case rel => exact ⟨k + 1, by omega, by go_num, hB, hr.congr (fun i _ => by rw [gF_next, gfv_first HO.out (fun j hj => HN.out j (by omega))])⟩
            case measure => simp [intOf]; omega
      · have ho' : (H.o k != 119) = true := by simp [ho]
        have HG : Hid (gfv H st k = -1) := gfv_no H st ho
        clear ho c1
        go_wp2
        go_roundw
        case rel => exact ⟨k + 1, by omega, by go_num, hB.setCell hGl _, hr.set hlt _ (fun i _ => by rw [gF_next, HG.out])⟩
        case measure => simp [intOf]; omega
    · have hkn : k = H.n := by omega
      subst hkn
      go_wp2
      exact HK.out _ _ _ _ _ _ _ _ _ _ _ _ _ _ _ _ _ _ _ _ _ _ _ _ _ _ _ _ _ _ _ _ _ _ _ _ _ _ _ _ _ _ _ _ _ _ _ _ _ _ _ _ _ _ _ _ _ _ _ _ hB (hr.congr (fun j hj => gF_all H st hj))
end Go.Proofs.Qxb6603687a
