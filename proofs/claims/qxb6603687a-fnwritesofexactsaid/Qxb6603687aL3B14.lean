/-
  FnWritesOfExact (3): the loop over the writes of a group (block 14).
-/
import Derived.Test.Qxb6603687aL3Blk
import Derived.WalkKit
import Derived.WalkSpells
import Derived.Deep.QuietTactic
import Derived.BigQuiet
namespace Go.Proofs.Qxb6603687a
open Go.RowKit Go.Maps
set_option linter.unusedVariables false

set_option maxRecDepth 100000 in
set_option maxHeartbeats 8000000 in
theorem block14 {K : Act → World → Prop} {Q' : Exit → Act → World → Prop} {u0 u1 u2 u3 u4 u6 u7 u9 u10 u11 u12 u13 u14 u15 u16 u17 u18 u19 u21 u22 u27 u28 u29 u30 u31 u32 u33 u34 u35 u36 u37 u38 u39 u40 u41 u42 u43 u44 u45 u46 u47 u48 u49 u50 u51 u52 u53 u54 u55 u56 u57 u58 u59 u60 u61 u62 u63 u64 u65 u66 u67 u68 u69 u70 u71 u72 u73 u74 u75 u76 u77 u78 u79 u80 u81 u82 u83 u84 u85 u86 u87 u88 u89 u90 u91 u92 u93 u94 u95 u96 u97 u98 u99 u100 u101 u102 u103 u104 u105 u106 u107 u108 u109 u110 u111 u112 u113 u114 u115 u116 u117 u118 u119 u120 u121 u122 u123 u124 u125 u126 u127 u128 u129 u130 u131 u132 u133 u134 u135 u136 u137 u138 u139 u140 u141 u142 u143 u144 u145 u146 u147 u148 u149 u150 u151 u152 u153 u154 u155 u156 u157 u158 u159 u160 u161 u162 u163 u164 u165 u166 u167 u168 u169 u170 u171 u172 u173 u174 u175 u176 u177 u178 u179 u180 u181 u182 u183 u184 u185 u186 u187 u188 u189 u190 u191 u192 u193 u194 u195 u196 u197 u198 u199 u200 u201 u202 u203 u204 u205 u206 u207 u208 u209 u210 u211 u212 u213 u214 u215 u216 u217 u218 u219 u220 u221 u222 u223 u224 u225 u226 u227 u228 u229 u230 u231 u232 u233 u234 u235 u236 u237 u238 u239 u240 u241 u242 u243 u244 u245 u246 u247 u248 u249 u250 u251 u252 u253 u254 u255 u256 u257 u258 u259 u260 u261 u262 u263 u264 u265 u266 u267 u268 u269 u270 u271 u272 u273 u274 u275 u276 u277 u278 u279 u280 u281 u282 u283 u284 u285 u286 u287 u288 u289 u290 u291 u292 u293 u294 u295 u296 u297 u298 u299 u300 u301 u302 u303 u304 u305 u306 u307 u308 u309 u310 u311 u312 u313 u314 u315 u316 u317 u318 u319 u320 u321 u322 u323 u324 u325 u326 u327 u328 u329 u330 u331 u332 u333 u334 u335 u336 u337 u338 u339 u340 u341 u342 u343 u344 u345 u346 u347 u348 : Value}
    (H : Hist) (st : Nat → Int) (nS : Nat) (aH aS : Option Addr) (gZ B gM N G : Nat) (GV : Int → Value) (RV : Nat → Value) (x : Int) (t kk L A : Nat) (w w1 : World) (hn : H.n ≤ 4096) (htn : t < H.n) (hkL : kk < L) (hLb : L ≤ H.n) (hkg : gAt H st x kk = t) (hops : opsL H st t H.n ≠ []) (hLG : LG H st nS aH aS gZ B gM N G GV RV w w1) (hGr : GRows H st x RV L A L w1)
    (hK : ∀ (v4 v26 v300 v301 v302 v303 v304 v305 v306 v307 v308 v309 v310 v311 v312 v313 v314 v315 v316 v317 v318 v319 v320 v321 v322 v323 v324 v325 v326 v327 v328 v329 v330 v331 : Value) (wr : World), LG H st nS aH aS gZ B gM N G GV RV w wr → GRows H st x RV L A L wr → K ⟨#[u0, u1, u2, u3, v4, .int .i64 (H.n : Int), u6, u7, .slice (some ⟨G, 0, none⟩) H.n H.n, u9, u10, u11, u12, u13, u14, u15, u16, u17, u18, u19, .slice (some ⟨A + 1, 0, none⟩) L L, u21, u22, .int .i64 (kk : Int), .int .i64 (t : Int), .int .i64 ((opsL H st t H.n).length : Int), v26, u27, u28, u29, u30, u31, u32, u33, u34, u35, u36, u37, u38, u39, u40, u41, u42, u43, u44, u45, u46, u47, u48, u49, u50, u51, u52, u53, u54, u55, u56, u57, u58, u59, u60, u61, u62, u63, u64, u65, u66, u67, u68, u69, u70, u71, u72, u73, u74, u75, u76, u77, u78, u79, u80, u81, u82, u83, u84, u85, u86, u87, u88, u89, u90, u91, u92, u93, u94, u95, u96, u97, u98, u99, u100, u101, u102, u103, u104, u105, u106, u107, u108, u109, u110, u111, u112, u113, u114, u115, u116, u117, u118, u119, u120, u121, u122, u123, u124, u125, u126, u127, u128, u129, u130, u131, u132, u133, u134, u135, u136, u137, u138, u139, u140, u141, u142, u143, u144, u145, u146, u147, u148, u149, u150, u151, u152, u153, u154, u155, u156, u157, u158, u159, u160, u161, u162, u163, u164, u165, u166, u167, u168, u169, u170, u171, u172, u173, u174, u175, u176, u177, u178, u179, u180, u181, u182, u183, u184, u185, u186, u187, u188, u189, u190, u191, u192, u193, u194, u195, u196, u197, u198, u199, u200, u201, u202, u203, u204, u205, u206, u207, u208, u209, u210, u211, u212, u213, u214, u215, u216, u217, u218, u219, u220, u221, u222, u223, u224, u225, u226, u227, u228, u229, u230, u231, u232, u233, u234, u235, u236, u237, u238, u239, u240, u241, u242, u243, u244, u245, u246, u247, u248, u249, u250, u251, u252, u253, u254, u255, u256, u257, u258, u259, u260, u261, u262, u263, u264, u265, u266, u267, u268, u269, u270, u271, u272, u273, u274, u275, u276, u277, u278, u279, u280, u281, u282, u283, u284, u285, u286, u287, u288, u289, u290, u291, u292, u293, u294, u295, u296, u297, u298, u299, v300, v301, v302, v303, v304, v305, v306, v307, v308, v309, v310, v311, v312, v313, v314, v315, v316, v317, v318, v319, v320, v321, v322, v323, v324, v325, v326, v327, v328, v329, v330, v331, u332, u333, u334, u335, u336, u337, u338, u339, u340, u341, u342, u343, u344, u345, u346, u347, u348], []⟩ wr) :
    Code.wp Try.prog (((Try.f3.body).bind (blkIn 14)).getD .skip) (Exit.then K Q') ⟨#[u0, u1, u2, u3, u4, .int .i64 (H.n : Int), u6, u7, .slice (some ⟨G, 0, none⟩) H.n H.n, u9, u10, u11, u12, u13, u14, u15, u16, u17, u18, u19, .slice (some ⟨A + 1, 0, none⟩) L L, u21, u22, .int .i64 (kk : Int), .int .i64 (t : Int), .int .i64 0, .int .i64 (t : Int), u27, u28, u29, u30, u31, u32, u33, u34, u35, u36, u37, u38, u39, u40, u41, u42, u43, u44, u45, u46, u47, u48, u49, u50, u51, u52, u53, u54, u55, u56, u57, u58, u59, u60, u61, u62, u63, u64, u65, u66, u67, u68, u69, u70, u71, u72, u73, u74, u75, u76, u77, u78, u79, u80, u81, u82, u83, u84, u85, u86, u87, u88, u89, u90, u91, u92, u93, u94, u95, u96, u97, u98, u99, u100, u101, u102, u103, u104, u105, u106, u107, u108, u109, u110, u111, u112, u113, u114, u115, u116, u117, u118, u119, u120, u121, u122, u123, u124, u125, u126, u127, u128, u129, u130, u131, u132, u133, u134, u135, u136, u137, u138, u139, u140, u141, u142, u143, u144, u145, u146, u147, u148, u149, u150, u151, u152, u153, u154, u155, u156, u157, u158, u159, u160, u161, u162, u163, u164, u165, u166, u167, u168, u169, u170, u171, u172, u173, u174, u175, u176, u177, u178, u179, u180, u181, u182, u183, u184, u185, u186, u187, u188, u189, u190, u191, u192, u193, u194, u195, u196, u197, u198, u199, u200, u201, u202, u203, u204, u205, u206, u207, u208, u209, u210, u211, u212, u213, u214, u215, u216, u217, u218, u219, u220, u221, u222, u223, u224, u225, u226, u227, u228, u229, u230, u231, u232, u233, u234, u235, u236, u237, u238, u239, u240, u241, u242, u243, u244, u245, u246, u247, u248, u249, u250, u251, u252, u253, u254, u255, u256, u257, u258, u259, u260, u261, u262, u263, u264, u265, u266, u267, u268, u269, u270, u271, u272, u273, u274, u275, u276, u277, u278, u279, u280, u281, u282, u283, u284, u285, u286, u287, u288, u289, u290, u291, u292, u293, u294, u295, u296, u297, u298, u299, u300, u301, u302, u303, u304, u305, u306, u307, u308, u309, u310, u311, u312, u313, u314, u315, u316, u317, u318, u319, u320, u321, u322, u323, u324, u325, u326, u327, u328, u329, u330, u331, u332, u333, u334, u335, u336, u337, u338, u339, u340, u341, u342, u343, u344, u345, u346, u347, u348], []⟩ w1 := by
  have HK : Hid (∀ (v4 v26 v300 v301 v302 v303 v304 v305 v306 v307 v308 v309 v310 v311 v312 v313 v314 v315 v316 v317 v318 v319 v320 v321 v322 v323 v324 v325 v326 v327 v328 v329 v330 v331 : Value) (wr : World), LG H st nS aH aS gZ B gM N G GV RV w wr → GRows H st x RV L A L wr → K ⟨#[u0, u1, u2, u3, v4, .int .i64 (H.n : Int), u6, u7, .slice (some ⟨G, 0, none⟩) H.n H.n, u9, u10, u11, u12, u13, u14, u15, u16, u17, u18, u19, .slice (some ⟨A + 1, 0, none⟩) L L, u21, u22, .int .i64 (kk : Int), .int .i64 (t : Int), .int .i64 ((opsL H st t H.n).length : Int), v26, u27, u28, u29, u30, u31, u32, u33, u34, u35, u36, u37, u38, u39, u40, u41, u42, u43, u44, u45, u46, u47, u48, u49, u50, u51, u52, u53, u54, u55, u56, u57, u58, u59, u60, u61, u62, u63, u64, u65, u66, u67, u68, u69, u70, u71, u72, u73, u74, u75, u76, u77, u78, u79, u80, u81, u82, u83, u84, u85, u86, u87, u88, u89, u90, u91, u92, u93, u94, u95, u96, u97, u98, u99, u100, u101, u102, u103, u104, u105, u106, u107, u108, u109, u110, u111, u112, u113, u114, u115, u116, u117, u118, u119, u120, u121, u122, u123, u124, u125, u126, u127, u128, u129, u130, u131, u132, u133, u134, u135, u136, u137, u138, u139, u140, u141, u142, u143, u144, u145, u146, u147, u148, u149, u150, u151, u152, u153, u154, u155, u156, u157, u158, u159, u160, u161, u162, u163, u164, u165, u166, u167, u168, u169, u170, u171, u172, u173, u174, u175, u176, u177, u178, u179, u180, u181, u182, u183, u184, u185, u186, u187, u188, u189, u190, u191, u192, u193, u194, u195, u196, u197, u198, u199, u200, u201, u202, u203, u204, u205, u206, u207, u208, u209, u210, u211, u212, u213, u214, u215, u216, u217, u218, u219, u220, u221, u222, u223, u224, u225, u226, u227, u228, u229, u230, u231, u232, u233, u234, u235, u236, u237, u238, u239, u240, u241, u242, u243, u244, u245, u246, u247, u248, u249, u250, u251, u252, u253, u254, u255, u256, u257, u258, u259, u260, u261, u262, u263, u264, u265, u266, u267, u268, u269, u270, u271, u272, u273, u274, u275, u276, u277, u278, u279, u280, u281, u282, u283, u284, u285, u286, u287, u288, u289, u290, u291, u292, u293, u294, u295, u296, u297, u298, u299, v300, v301, v302, v303, v304, v305, v306, v307, v308, v309, v310, v311, v312, v313, v314, v315, v316, v317, v318, v319, v320, v321, v322, v323, v324, v325, v326, v327, v328, v329, v330, v331, u332, u333, u334, u335, u336, u337, u338, u339, u340, u341, u342, u343, u344, u345, u346, u347, u348], []⟩ wr) := hK
  have HKg : Hid (gAt H st x kk = t) := hkg
  have HOps : Hid (opsL H st t H.n ≠ []) := hops
  clear hK hkg hops
  conv => arg 2; whnf
  go_wp2
  go_loopw [25, 26] (fun c j wr => ∃ q : Nat, t ≤ q ∧ q ≤ H.n ∧ j = .int .i64 q ∧ c = .int .i64 ((opsL H st t q).length : Int) ∧ LG H st nS aH aS gZ B gM N G GV RV w wr ∧ GRows H st x RV L A L wr) (fun _ j _ => H.n - (intOf j).toNat)
  case atStart => exact ⟨t, Nat.le_refl _, by omega, rfl, by rw [opsL_nil H st t t (Nat.le_refl _)]; rfl, hLG, hGr⟩
  case round =>
    clear hLG hGr
    obtain ⟨q, htq, hqn, rfl, rfl, hLG, hGr⟩ := hrel
    have hcb := opsL_le H st t q
    by_cases hql : q < H.n
    · have p1 := hLG.gf.cell hql
      by_cases h1 : gfv H st q = (t : Int)
      · have h1' : (gfv H st q == (t : Int)) = true := by simp [h1]
        obtain ⟨go, co, hRV, _, hgl, hcs⟩ := hLG.snap.res.ops t HOps.out
        have hat := opsL_at H st h1 H.n hql
        have hcl := (List.getElem?_eq_some_iff.1 hat).1
        have u1 := hcs _ _ hat
        have r2 : wr.cell? ⟨A + 1, kk, none⟩ = some (.slice (some ⟨go, 0, none⟩) (opsL H st t H.n).length co) := by
          rw [hGr.b.cell hkL]
          simp [upV, hkL, HKg.out, hRV]
        have HMore : Hid (((opsL H st t (q + 1)).length : Int) = ((opsL H st t q).length : Int) + 1) := by rw [Hid, opsL_more H st h1]; simp
        clear hRV hcs hat h1
        go_wp2
        go_roundw
        case rel => exact ⟨q + 1, by omega, by omega, by go_num, by rw [HMore.out], hLG, hGr⟩
        case measure => simp [intOf]; omega
      · have h1' : (gfv H st q == (t : Int)) = false := by simp [h1]
        have HSame : Hid ((opsL H st t (q + 1)).length = (opsL H st t q).length) := by rw [Hid, opsL_same H st h1]
        clear h1
        go_wp2
        go_roundw
        case rel => exact ⟨q + 1, by omega, by omega, by go_num, by rw [HSame.out], hLG, hGr⟩
        case measure => simp [intOf]; omega
    · have hqe : q = H.n := by omega
      subst hqe
      go_wp2
      exact HK.out _ _ _ _ _ _ _ _ _ _ _ _ _ _ _ _ _ _ _ _ _ _ _ _ _ _ _ _ _ _ _ _ _ _ _ hLG hGr
end Go.Proofs.Qxb6603687a
