/-
  FnWritesOfExact (3): the loop that checks the ranks (block 4).
-/
import Derived.Test.Qxb6603687aL3Blk
import Derived.WalkKit
import Derived.WalkSpells
import Derived.Deep.QuietTactic
import Derived.BigQuiet
namespace Go.Proofs.Qxb6603687a
open Go.RowKit Go.Maps
set_option linter.unusedVariables false

set_option maxRecDepth 100000 in
set_option maxHeartbeats 8000000 in
theorem block4 {K : Act → World → Prop} {Q' : Exit → Act → World → Prop} {u2 u3 u4 u6 u9 u10 u12 u13 u14 u15 u16 u17 u18 u19 u20 u21 u22 u23 u24 u25 u26 u27 u28 u29 u30 u31 u32 u33 u34 u35 u36 u37 u38 u39 u40 u41 u42 u43 u44 u45 u46 u47 u48 u49 u50 u51 u52 u53 u54 u55 u56 u57 u58 u59 u60 u61 u62 u63 u64 u65 u66 u67 u68 u69 u70 u71 u72 u73 u74 u75 u76 u77 u78 u79 u80 u81 u82 u83 u84 u85 u86 u87 u88 u89 u90 u91 u92 u93 u94 u95 u96 u97 u98 u99 u100 u101 u102 u103 u104 u105 u106 u107 u108 u109 u110 u111 u112 u113 u114 u115 u116 u117 u118 u119 u120 u121 u122 u123 u124 u125 u126 u127 u128 u129 u130 u131 u132 u133 u134 u135 u136 u137 u138 u139 u140 u141 u142 u143 u144 u145 u146 u147 u148 u149 u150 u151 u152 u153 u154 u155 u156 u157 u158 u159 u160 u161 u162 u163 u164 u165 u166 u167 u168 u169 u170 u171 u172 u173 u174 u175 u176 u177 u178 u179 u180 u181 u182 u183 u184 u185 u186 u187 u188 u189 u190 u191 u192 u193 u194 u195 u196 u197 u198 u199 u200 u201 u202 u203 u204 u205 u206 u207 u208 u209 u210 u211 u212 u213 u214 u215 u216 u217 u218 u219 u220 u221 u222 u223 u224 u225 u226 u227 u228 u229 u230 u231 u232 u233 u234 u235 u236 u237 u238 u239 u240 u241 u242 u243 u244 u245 u246 u247 u248 u249 u250 u251 u252 u253 u254 u255 u256 u257 u258 u259 u260 u261 u262 u263 u264 u265 u266 u267 u268 u269 u270 u271 u272 u273 u274 u275 u276 u277 u278 u279 u280 u281 u282 u283 u284 u285 u286 u287 u288 u289 u290 u291 u292 u293 u294 u295 u296 u297 u298 u299 u300 u301 u302 u303 u304 u305 u306 u307 u308 u309 u310 u311 u312 u313 u314 u315 u316 u317 u318 u319 u320 u321 u322 u323 u324 u325 u326 u327 u328 u329 u330 u331 u332 u333 u334 u335 u336 u337 u338 u339 u340 u341 u342 u343 u344 u345 u346 u347 u348 : Value}
    (H : Hist) (st : Nat → Int) (nS : Nat) (aH aS : Option Addr) (gZ B gM N G : Nat) (GV : Int → Value) (RV : Nat → Value) (w w1 : World) (hn : H.n ≤ 4096) (hLG : LG H st nS aH aS gZ B gM N G GV RV w w1)
    (hK : ∀ (v4 v11 v12 v13 v14 v126 v127 v128 v129 v130 v131 v132 v133 v134 v135 v136 v137 v138 v139 v140 v141 v142 v143 v144 v145 v146 v147 v148 v149 v150 v151 v152 v153 v154 v155 v156 v157 v158 v159 v160 v161 v162 v163 v164 v165 v166 v167 v168 v169 v170 v171 v172 v173 v174 v175 v176 v177 : Value) (wr : World), LG H st nS aH aS gZ B gM N G GV RV w wr → K ⟨#[.slice aH H.n H.n, .slice aS nS nS, u2, u3, v4, .int .i64 (H.n : Int), u6, .slice (some ⟨N, 0, none⟩) H.n H.n, .slice (some ⟨G, 0, none⟩) H.n H.n, u9, u10, v11, v12, v13, v14, u15, u16, u17, u18, u19, u20, u21, u22, u23, u24, u25, u26, u27, u28, u29, u30, u31, u32, u33, u34, u35, u36, u37, u38, u39, u40, u41, u42, u43, u44, u45, u46, u47, u48, u49, u50, u51, u52, u53, u54, u55, u56, u57, u58, u59, u60, u61, u62, u63, u64, u65, u66, u67, u68, u69, u70, u71, u72, u73, u74, u75, u76, u77, u78, u79, u80, u81, u82, u83, u84, u85, u86, u87, u88, u89, u90, u91, u92, u93, u94, u95, u96, u97, u98, u99, u100, u101, u102, u103, u104, u105, u106, u107, u108, u109, u110, u111, u112, u113, u114, u115, u116, u117, u118, u119, u120, u121, u122, u123, u124, u125, v126, v127, v128, v129, v130, v131, v132, v133, v134, v135, v136, v137, v138, v139, v140, v141, v142, v143, v144, v145, v146, v147, v148, v149, v150, v151, v152, v153, v154, v155, v156, v157, v158, v159, v160, v161, v162, v163, v164, v165, v166, v167, v168, v169, v170, v171, v172, v173, v174, v175, v176, v177, u178, u179, u180, u181, u182, u183, u184, u185, u186, u187, u188, u189, u190, u191, u192, u193, u194, u195, u196, u197, u198, u199, u200, u201, u202, u203, u204, u205, u206, u207, u208, u209, u210, u211, u212, u213, u214, u215, u216, u217, u218, u219, u220, u221, u222, u223, u224, u225, u226, u227, u228, u229, u230, u231, u232, u233, u234, u235, u236, u237, u238, u239, u240, u241, u242, u243, u244, u245, u246, u247, u248, u249, u250, u251, u252, u253, u254, u255, u256, u257, u258, u259, u260, u261, u262, u263, u264, u265, u266, u267, u268, u269, u270, u271, u272, u273, u274, u275, u276, u277, u278, u279, u280, u281, u282, u283, u284, u285, u286, u287, u288, u289, u290, u291, u292, u293, u294, u295, u296, u297, u298, u299, u300, u301, u302, u303, u304, u305, u306, u307, u308, u309, u310, u311, u312, u313, u314, u315, u316, u317, u318, u319, u320, u321, u322, u323, u324, u325, u326, u327, u328, u329, u330, u331, u332, u333, u334, u335, u336, u337, u338, u339, u340, u341, u342, u343, u344, u345, u346, u347, u348], []⟩ wr) :
    Code.wp Try.prog (((Try.f3.body).bind (blkIn 4)).getD .skip) (Exit.then K Q') ⟨#[.slice aH H.n H.n, .slice aS nS nS, u2, u3, u4, .int .i64 (H.n : Int), u6, .slice (some ⟨N, 0, none⟩) H.n H.n, .slice (some ⟨G, 0, none⟩) H.n H.n, u9, u10, .int .i64 0, u12, u13, u14, u15, u16, u17, u18, u19, u20, u21, u22, u23, u24, u25, u26, u27, u28, u29, u30, u31, u32, u33, u34, u35, u36, u37, u38, u39, u40, u41, u42, u43, u44, u45, u46, u47, u48, u49, u50, u51, u52, u53, u54, u55, u56, u57, u58, u59, u60, u61, u62, u63, u64, u65, u66, u67, u68, u69, u70, u71, u72, u73, u74, u75, u76, u77, u78, u79, u80, u81, u82, u83, u84, u85, u86, u87, u88, u89, u90, u91, u92, u93, u94, u95, u96, u97, u98, u99, u100, u101, u102, u103, u104, u105, u106, u107, u108, u109, u110, u111, u112, u113, u114, u115, u116, u117, u118, u119, u120, u121, u122, u123, u124, u125, u126, u127, u128, u129, u130, u131, u132, u133, u134, u135, u136, u137, u138, u139, u140, u141, u142, u143, u144, u145, u146, u147, u148, u149, u150, u151, u152, u153, u154, u155, u156, u157, u158, u159, u160, u161, u162, u163, u164, u165, u166, u167, u168, u169, u170, u171, u172, u173, u174, u175, u176, u177, u178, u179, u180, u181, u182, u183, u184, u185, u186, u187, u188, u189, u190, u191, u192, u193, u194, u195, u196, u197, u198, u199, u200, u201, u202, u203, u204, u205, u206, u207, u208, u209, u210, u211, u212, u213, u214, u215, u216, u217, u218, u219, u220, u221, u222, u223, u224, u225, u226, u227, u228, u229, u230, u231, u232, u233, u234, u235, u236, u237, u238, u239, u240, u241, u242, u243, u244, u245, u246, u247, u248, u249, u250, u251, u252, u253, u254, u255, u256, u257, u258, u259, u260, u261, u262, u263, u264, u265, u266, u267, u268, u269, u270, u271, u272, u273, u274, u275, u276, u277, u278, u279, u280, u281, u282, u283, u284, u285, u286, u287, u288, u289, u290, u291, u292, u293, u294, u295, u296, u297, u298, u299, u300, u301, u302, u303, u304, u305, u306, u307, u308, u309, u310, u311, u312, u313, u314, u315, u316, u317, u318, u319, u320, u321, u322, u323, u324, u325, u326, u327, u328, u329, u330, u331, u332, u333, u334, u335, u336, u337, u338, u339, u340, u341, u342, u343, u344, u345, u346, u347, u348], []⟩ w1 := by
  have HK : Hid (∀ (v4 v11 v12 v13 v14 v126 v127 v128 v129 v130 v131 v132 v133 v134 v135 v136 v137 v138 v139 v140 v141 v142 v143 v144 v145 v146 v147 v148 v149 v150 v151 v152 v153 v154 v155 v156 v157 v158 v159 v160 v161 v162 v163 v164 v165 v166 v167 v168 v169 v170 v171 v172 v173 v174 v175 v176 v177 : Value) (wr : World), LG H st nS aH aS gZ B gM N G GV RV w wr → K ⟨#[.slice aH H.n H.n, .slice aS nS nS, u2, u3, v4, .int .i64 (H.n : Int), u6, .slice (some ⟨N, 0, none⟩) H.n H.n, .slice (some ⟨G, 0, none⟩) H.n H.n, u9, u10, v11, v12, v13, v14, u15, u16, u17, u18, u19, u20, u21, u22, u23, u24, u25, u26, u27, u28, u29, u30, u31, u32, u33, u34, u35, u36, u37, u38, u39, u40, u41, u42, u43, u44, u45, u46, u47, u48, u49, u50, u51, u52, u53, u54, u55, u56, u57, u58, u59, u60, u61, u62, u63, u64, u65, u66, u67, u68, u69, u70, u71, u72, u73, u74, u75, u76, u77, u78, u79, u80, u81, u82, u83, u84, u85, u86, u87, u88, u89, u90, u91, u92, u93, u94, u95, u96, u97, u98, u99, u100, u101, u102, u103, u104, u105, u106, u107, u108, u109, u110, u111, u112, u113, u114, u115, u116, u117, u118, u119, u120, u121, u122, u123, u124, u125, v126, v127, v128, v129, v130, v131, v132, v133, v134, v135, v136, v137, v138, v139, v140, v141, v142, v143, v144, v145, v146, v147, v148, v149, v150, v151, v152, v153, v154, v155, v156, v157, v158, v159, v160, v161, v162, v163, v164, v165, v166, v167, v168, v169, v170, v171, v172, v173, v174, v175, v176, v177, u178, u179, u180, u181, u182, u183, u184, u185, u186, u187, u188, u189, u190, u191, u192, u193, u194, u195, u196, u197, u198, u199, u200, u201, u202, u203, u204, u205, u206, u207, u208, u209, u210, u211, u212, u213, u214, u215, u216, u217, u218, u219, u220, u221, u222, u223, u224, u225, u226, u227, u228, u229, u230, u231, u232, u233, u234, u235, u236, u237, u238, u239, u240, u241, u242, u243, u244, u245, u246, u247, u248, u249, u250, u251, u252, u253, u254, u255, u256, u257, u258, u259, u260, u261, u262, u263, u264, u265, u266, u267, u268, u269, u270, u271, u272, u273, u274, u275, u276, u277, u278, u279, u280, u281, u282, u283, u284, u285, u286, u287, u288, u289, u290, u291, u292, u293, u294, u295, u296, u297, u298, u299, u300, u301, u302, u303, u304, u305, u306, u307, u308, u309, u310, u311, u312, u313, u314, u315, u316, u317, u318, u319, u320, u321, u322, u323, u324, u325, u326, u327, u328, u329, u330, u331, u332, u333, u334, u335, u336, u337, u338, u339, u340, u341, u342, u343, u344, u345, u346, u347, u348], []⟩ wr) := hK
  clear hK
  conv => arg 2; whnf
  go_wp2
  go_loopw [11] (fun i wr => ∃ k : Nat, k ≤ H.n ∧ i = .int .i64 k ∧ LG H st nS aH aS gZ B gM N G GV RV w wr) (fun i _ => H.n - (intOf i).toNat)
  case atStart => exact ⟨0, Nat.zero_le _, rfl, hLG⟩
  case round =>
    clear hLG
    obtain ⟨k, hk, rfl, hLG⟩ := hrel
    by_cases hlt : k < H.n
    · have p1 := hLG.gf.cell hlt
      have p2 : wr.cell? ⟨N, k, none⟩ = some (.int .i32 (rk H st k : Int)) := hLG.snap.res.rank.cell hlt
      have hrk := rk_le H st k
      by_cases ho : H.o k = 119
      · rw [gfv_is H st ho] at p1
        have hgl := gf_le H st k
        have HO : Hid (H.o k = 119) := ho
        obtain ⟨g, hg⟩ : ∃ g, gf H st k = g := ⟨_, rfl⟩
        rw [hg] at p1 hgl
        have HGf : Hid (gf H st k = g) := hg
        have HRk : Hid (rk H st k = (grpL H st (H.v k) g).length) := by rw [Hid, rk_is ho, hg]
        clear ho hg
        go_wp2
        clear p1 p2
        go_loopw [13, 14] (fun c j wr => ∃ m : Nat, m ≤ g ∧ j = .int .i64 m ∧ c = .int .i64 ((grpL H st (H.v k) m).length : Int) ∧ LG H st nS aH aS gZ B gM N G GV RV w wr) (fun _ j _ => g - (intOf j).toNat)
        case atStart => exact ⟨0, Nat.zero_le _, rfl, rfl, hLG⟩
        case round =>
          clear hLG
          obtain ⟨m, hm, rfl, rfl, hLG⟩ := hrel
          have hcb := grpL_le H st (H.v k) m
          by_cases hmg : m < g
          · have hmn : m < H.n := by omega
            have p1 := hLG.gf.cell hmn
            obtain ⟨b, off, hae, e1, e2⟩ := hLG.snap.op hmn
            cases hae
            obtain ⟨b', off', hae, e3, e4⟩ := hLG.snap.op hlt
            cases hae
            clear e1 e3
            have i0 : (0 : Int) ≤ (m : Int) := by omega
            have i1 : (m : Int) < (H.n : Int) := by omega
            have i2 : (0 : Int) ≤ (k : Int) := by omega
            have i3 : (k : Int) < (H.n : Int) := by omega
            by_cases h1 : gfv H st m = (m : Int)
            · have h1' : (gfv H st m == (m : Int)) = true := by simp [h1]
              by_cases h2 : H.v m = H.v k
              · have h2' : (H.v m == H.v k) = true := by simp [h2]
                have HC : Hid (((grpL H st (H.v k) (m + 1)).length : Int) = ((grpL H st (H.v k) m).length : Int) + 1) := by rw [Hid, grpL_more H st ((gfv_self H st).1 h1) h2]; simp
                clear h1 h2
                go_wp2
                go_quiet (fail)
                go_wp2
                go_roundw
                case rel => exact ⟨m + 1, by omega, by go_num, by rw [HC.out], hLG.drewN _⟩
                case measure => simp [intOf]; omega
              · have h2' : (H.v m == H.v k) = false := by simp [h2]
                have HC : Hid ((grpL H st (H.v k) (m + 1)).length = (grpL H st (H.v k) m).length) := by rw [Hid, grpL_same H st (fun e => h2 e.2)]
                clear h1 h2
                go_wp2
                go_quiet (fail)
                go_wp2
                go_roundw
                case rel => exact ⟨m + 1, by omega, by go_num, by rw [HC.out], hLG.drewN _⟩
                case measure => simp [intOf]; omega
            · have h1' : (gfv H st m == (m : Int)) = false := by simp [h1]
              have HC : Hid ((grpL H st (H.v k) (m + 1)).length = (grpL H st (H.v k) m).length) := by rw [Hid, grpL_same H st (fun e => h1 ((gfv_self H st).2 e.1))]
              clear h1
              go_wp2
              go_quiet (fail)
              go_wp2
              go_roundw
              case rel => exact ⟨m + 1, by omega, by go_num, by rw [HC.out], hLG.drewN _⟩
              case measure => simp [intOf]; omega
          · have hme : m = g := by omega
            subst hme
            have p2 : wr.cell? ⟨N, k, none⟩ = some (.int .i32 (rk H st k : Int)) := hLG.snap.res.rank.cell hlt
            rw [HRk.out] at p2
            go_wp2
            go_roundw
            case rel => exact ⟨k + 1, by omega, by go_num, hLG⟩
            case measure => simp [intOf]; omega
      · rw [gfv_no H st ho] at p1
        rw [rk_no ho] at p2
        clear ho
        go_wp2
        go_roundw
        case rel => exact ⟨k + 1, by omega, by go_num, hLG⟩
        case measure => simp [intOf]; omega
    · have hkn : k = H.n := by omega
      subst hkn
      go_wp2
      exact HK.out _ _ _ _ _ _ _ _ _ _ _ _ _ _ _ _ _ _ _ _ _ _ _ _ _ _ _ _ _ _ _ _ _ _ _ _ _ _ _ _ _ _ _ _ _ _ _ _ _ _ _ _ _ _ _ _ _ _ hLG
end Go.Proofs.Qxb6603687a
