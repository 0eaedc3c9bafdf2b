/-
  FnWritesOfExact (3): the loop over the groups of a variable (block 12).
-/
import Derived.Test.Qxb6603687aL3B14
import Derived.Deep.CutBlock
import Derived.WalkKit
import Derived.WalkSpells
import Derived.Deep.QuietTactic
import Derived.BigQuiet
namespace Go.Proofs.Qxb6603687a
open Go.RowKit Go.Maps
set_option linter.unusedVariables false

set_option maxRecDepth 100000 in
set_option maxHeartbeats 8000000 in
theorem block12 {K : Act → World → Prop} {Q' : Exit → Act → World → Prop} {u2 u3 u4 u6 u7 u9 u10 u11 u12 u13 u14 u15 u17 u18 u25 u26 u27 u28 u29 u30 u31 u32 u33 u34 u35 u36 u37 u38 u39 u40 u41 u42 u43 u44 u45 u46 u47 u48 u49 u50 u51 u52 u53 u54 u55 u56 u57 u58 u59 u60 u61 u62 u63 u64 u65 u66 u67 u68 u69 u70 u71 u72 u73 u74 u75 u76 u77 u78 u79 u80 u81 u82 u83 u84 u85 u86 u87 u88 u89 u90 u91 u92 u93 u94 u95 u96 u97 u98 u99 u100 u101 u102 u103 u104 u105 u106 u107 u108 u109 u110 u111 u112 u113 u114 u115 u116 u117 u118 u119 u120 u121 u122 u123 u124 u125 u126 u127 u128 u129 u130 u131 u132 u133 u134 u135 u136 u137 u138 u139 u140 u141 u142 u143 u144 u145 u146 u147 u148 u149 u150 u151 u152 u153 u154 u155 u156 u157 u158 u159 u160 u161 u162 u163 u164 u165 u166 u167 u168 u169 u170 u171 u172 u173 u174 u175 u176 u177 u178 u179 u180 u181 u182 u183 u184 u185 u186 u187 u188 u189 u190 u191 u192 u193 u194 u195 u196 u197 u198 u199 u200 u201 u202 u203 u204 u205 u206 u207 u208 u209 u210 u211 u212 u213 u214 u215 u216 u217 u218 u219 u220 u221 u222 u223 u224 u225 u226 u227 u228 u229 u230 u231 u232 u233 u234 u235 u236 u237 u238 u239 u240 u241 u242 u243 u244 u245 u246 u247 u248 u249 u250 u251 u252 u253 u254 u255 u256 u257 u258 u259 u260 u261 u262 u263 u264 u265 u266 u267 u268 u269 u270 u271 u272 u273 u274 u275 u276 u277 u278 u279 u280 u281 u282 u283 u284 u285 u286 u287 u288 u289 u290 u291 u292 u293 u294 u295 u296 u297 u298 u299 u300 u301 u302 u303 u304 u305 u306 u307 u308 u309 u310 u311 u312 u313 u314 u315 u316 u317 u318 u319 u320 u321 u322 u323 u324 u325 u326 u327 u328 u329 u330 u331 u332 u333 u334 u335 u336 u337 u338 u339 u340 u341 u342 u343 u344 u345 u346 u347 u348 : Value}
    (H : Hist) (st : Nat → Int) (nS : Nat) (aS : Option Addr) (gZ B gM N G : Nat) (GV : Int → Value) (RV : Nat → Value) (b off : Nat) (m L A : Nat) (w w1 : World) (hn : H.n ≤ 4096) (hS : nS ≤ 65536) (hlt : m < H.n) (hL : (grpL H st (H.v m) H.n).length = L) (hgn : grpL H st (H.v m) m = []) (hcov : Covered H nS) (hLG : LG H st nS (some ⟨b, off, none⟩) aS gZ B gM N G GV RV w w1) (hGr : GRows H st (H.v m) RV L A L w1)
    (hK : ∀ (v4 v24 v25 v26 v248 v249 v250 v251 v252 v253 v254 v255 v256 v257 v258 v259 v260 v261 v262 v263 v264 v265 v266 v267 v268 v269 v270 v271 v272 v273 v274 v275 v276 v277 v278 v279 v280 v281 v282 v283 v284 v285 v286 v287 v288 v289 v290 v291 v292 v293 v294 v295 v296 v297 v298 v299 v300 v301 v302 v303 v304 v305 v306 v307 v308 v309 v310 v311 v312 v313 v314 v315 v316 v317 v318 v319 v320 v321 v322 v323 v324 v325 v326 v327 v328 v329 v330 v331 v332 v333 v334 v335 v336 v337 v338 v339 v340 : Value) (wr : World), LG H st nS (some ⟨b, off, none⟩) aS gZ B gM N G GV RV w wr → K ⟨#[.slice (some ⟨b, off, none⟩) H.n H.n, .slice aS nS nS, u2, u3, v4, .int .i64 (H.n : Int), u6, u7, .slice (some ⟨G, 0, none⟩) H.n H.n, u9, u10, u11, u12, u13, u14, u15, .int .i64 (m : Int), u17, u18, .slice (some ⟨A, 0, none⟩) L L, .slice (some ⟨A + 1, 0, none⟩) L L, .slice (some ⟨A + 2, 0, none⟩) L L, .slice (some ⟨A + 3, 0, none⟩) L L, .int .i64 (L : Int), v24, v25, v26, u27, u28, u29, u30, u31, u32, u33, u34, u35, u36, u37, u38, u39, u40, u41, u42, u43, u44, u45, u46, u47, u48, u49, u50, u51, u52, u53, u54, u55, u56, u57, u58, u59, u60, u61, u62, u63, u64, u65, u66, u67, u68, u69, u70, u71, u72, u73, u74, u75, u76, u77, u78, u79, u80, u81, u82, u83, u84, u85, u86, u87, u88, u89, u90, u91, u92, u93, u94, u95, u96, u97, u98, u99, u100, u101, u102, u103, u104, u105, u106, u107, u108, u109, u110, u111, u112, u113, u114, u115, u116, u117, u118, u119, u120, u121, u122, u123, u124, u125, u126, u127, u128, u129, u130, u131, u132, u133, u134, u135, u136, u137, u138, u139, u140, u141, u142, u143, u144, u145, u146, u147, u148, u149, u150, u151, u152, u153, u154, u155, u156, u157, u158, u159, u160, u161, u162, u163, u164, u165, u166, u167, u168, u169, u170, u171, u172, u173, u174, u175, u176, u177, u178, u179, u180, u181, u182, u183, u184, u185, u186, u187, u188, u189, u190, u191, u192, u193, u194, u195, u196, u197, u198, u199, u200, u201, u202, u203, u204, u205, u206, u207, u208, u209, u210, u211, u212, u213, u214, u215, u216, u217, u218, u219, u220, u221, u222, u223, u224, u225, u226, u227, u228, u229, u230, u231, u232, u233, u234, u235, u236, u237, u238, u239, u240, u241, u242, u243, u244, u245, u246, u247, v248, v249, v250, v251, v252, v253, v254, v255, v256, v257, v258, v259, v260, v261, v262, v263, v264, v265, v266, v267, v268, v269, v270, v271, v272, v273, v274, v275, v276, v277, v278, v279, v280, v281, v282, v283, v284, v285, v286, v287, v288, v289, v290, v291, v292, v293, v294, v295, v296, v297, v298, v299, v300, v301, v302, v303, v304, v305, v306, v307, v308, v309, v310, v311, v312, v313, v314, v315, v316, v317, v318, v319, v320, v321, v322, v323, v324, v325, v326, v327, v328, v329, v330, v331, v332, v333, v334, v335, v336, v337, v338, v339, v340, u341, u342, u343, u344, u345, u346, u347, u348], []⟩ wr) :
    Code.wp Try.prog (((Try.f3.body).bind (blkIn 12)).getD .skip) (Exit.then K Q') ⟨#[.slice (some ⟨b, off, none⟩) H.n H.n, .slice aS nS nS, u2, u3, u4, .int .i64 (H.n : Int), u6, u7, .slice (some ⟨G, 0, none⟩) H.n H.n, u9, u10, u11, u12, u13, u14, u15, .int .i64 (m : Int), u17, u18, .slice (some ⟨A, 0, none⟩) L L, .slice (some ⟨A + 1, 0, none⟩) L L, .slice (some ⟨A + 2, 0, none⟩) L L, .slice (some ⟨A + 3, 0, none⟩) L L, .int .i64 0, .int .i64 (m : Int), u25, u26, u27, u28, u29, u30, u31, u32, u33, u34, u35, u36, u37, u38, u39, u40, u41, u42, u43, u44, u45, u46, u47, u48, u49, u50, u51, u52, u53, u54, u55, u56, u57, u58, u59, u60, u61, u62, u63, u64, u65, u66, u67, u68, u69, u70, u71, u72, u73, u74, u75, u76, u77, u78, u79, u80, u81, u82, u83, u84, u85, u86, u87, u88, u89, u90, u91, u92, u93, u94, u95, u96, u97, u98, u99, u100, u101, u102, u103, u104, u105, u106, u107, u108, u109, u110, u111, u112, u113, u114, u115, u116, u117, u118, u119, u120, u121, u122, u123, u124, u125, u126, u127, u128, u129, u130, u131, u132, u133, u134, u135, u136, u137, u138, u139, u140, u141, u142, u143, u144, u145, u146, u147, u148, u149, u150, u151, u152, u153, u154, u155, u156, u157, u158, u159, u160, u161, u162, u163, u164, u165, u166, u167, u168, u169, u170, u171, u172, u173, u174, u175, u176, u177, u178, u179, u180, u181, u182, u183, u184, u185, u186, u187, u188, u189, u190, u191, u192, u193, u194, u195, u196, u197, u198, u199, u200, u201, u202, u203, u204, u205, u206, u207, u208, u209, u210, u211, u212, u213, u214, u215, u216, u217, u218, u219, u220, u221, u222, u223, u224, u225, u226, u227, u228, u229, u230, u231, u232, u233, u234, u235, u236, u237, u238, u239, u240, u241, u242, u243, u244, u245, u246, u247, u248, u249, u250, u251, u252, u253, u254, u255, u256, u257, u258, u259, u260, u261, u262, u263, u264, u265, u266, u267, u268, u269, u270, u271, u272, u273, u274, u275, u276, u277, u278, u279, u280, u281, u282, u283, u284, u285, u286, u287, u288, u289, u290, u291, u292, u293, u294, u295, u296, u297, u298, u299, u300, u301, u302, u303, u304, u305, u306, u307, u308, u309, u310, u311, u312, u313, u314, u315, u316, u317, u318, u319, u320, u321, u322, u323, u324, u325, u326, u327, u328, u329, u330, u331, u332, u333, u334, u335, u336, u337, u338, u339, u340, u341, u342, u343, u344, u345, u346, u347, u348], []⟩ w1 := by
  have HK : Hid (∀ (v4 v24 v25 v26 v248 v249 v250 v251 v252 v253 v254 v255 v256 v257 v258 v259 v260 v261 v262 v263 v264 v265 v266 v267 v268 v269 v270 v271 v272 v273 v274 v275 v276 v277 v278 v279 v280 v281 v282 v283 v284 v285 v286 v287 v288 v289 v290 v291 v292 v293 v294 v295 v296 v297 v298 v299 v300 v301 v302 v303 v304 v305 v306 v307 v308 v309 v310 v311 v312 v313 v314 v315 v316 v317 v318 v319 v320 v321 v322 v323 v324 v325 v326 v327 v328 v329 v330 v331 v332 v333 v334 v335 v336 v337 v338 v339 v340 : Value) (wr : World), LG H st nS (some ⟨b, off, none⟩) aS gZ B gM N G GV RV w wr → K ⟨#[.slice (some ⟨b, off, none⟩) H.n H.n, .slice aS nS nS, u2, u3, v4, .int .i64 (H.n : Int), u6, u7, .slice (some ⟨G, 0, none⟩) H.n H.n, u9, u10, u11, u12, u13, u14, u15, .int .i64 (m : Int), u17, u18, .slice (some ⟨A, 0, none⟩) L L, .slice (some ⟨A + 1, 0, none⟩) L L, .slice (some ⟨A + 2, 0, none⟩) L L, .slice (some ⟨A + 3, 0, none⟩) L L, .int .i64 (L : Int), v24, v25, v26, u27, u28, u29, u30, u31, u32, u33, u34, u35, u36, u37, u38, u39, u40, u41, u42, u43, u44, u45, u46, u47, u48, u49, u50, u51, u52, u53, u54, u55, u56, u57, u58, u59, u60, u61, u62, u63, u64, u65, u66, u67, u68, u69, u70, u71, u72, u73, u74, u75, u76, u77, u78, u79, u80, u81, u82, u83, u84, u85, u86, u87, u88, u89, u90, u91, u92, u93, u94, u95, u96, u97, u98, u99, u100, u101, u102, u103, u104, u105, u106, u107, u108, u109, u110, u111, u112, u113, u114, u115, u116, u117, u118, u119, u120, u121, u122, u123, u124, u125, u126, u127, u128, u129, u130, u131, u132, u133, u134, u135, u136, u137, u138, u139, u140, u141, u142, u143, u144, u145, u146, u147, u148, u149, u150, u151, u152, u153, u154, u155, u156, u157, u158, u159, u160, u161, u162, u163, u164, u165, u166, u167, u168, u169, u170, u171, u172, u173, u174, u175, u176, u177, u178, u179, u180, u181, u182, u183, u184, u185, u186, u187, u188, u189, u190, u191, u192, u193, u194, u195, u196, u197, u198, u199, u200, u201, u202, u203, u204, u205, u206, u207, u208, u209, u210, u211, u212, u213, u214, u215, u216, u217, u218, u219, u220, u221, u222, u223, u224, u225, u226, u227, u228, u229, u230, u231, u232, u233, u234, u235, u236, u237, u238, u239, u240, u241, u242, u243, u244, u245, u246, u247, v248, v249, v250, v251, v252, v253, v254, v255, v256, v257, v258, v259, v260, v261, v262, v263, v264, v265, v266, v267, v268, v269, v270, v271, v272, v273, v274, v275, v276, v277, v278, v279, v280, v281, v282, v283, v284, v285, v286, v287, v288, v289, v290, v291, v292, v293, v294, v295, v296, v297, v298, v299, v300, v301, v302, v303, v304, v305, v306, v307, v308, v309, v310, v311, v312, v313, v314, v315, v316, v317, v318, v319, v320, v321, v322, v323, v324, v325, v326, v327, v328, v329, v330, v331, v332, v333, v334, v335, v336, v337, v338, v339, v340, u341, u342, u343, u344, u345, u346, u347, u348], []⟩ wr) := hK
  clear hK
  have hLb := grpL_le H st (H.v m) H.n
  rw [hL] at hLb
  have HLen : Hid ((grpL H st (H.v m) H.n).length = L) := hL
  have HGN : Hid (grpL H st (H.v m) m = []) := hgn
  have HCov : Hid (Covered H nS) := hcov
  clear hL hgn hcov
  conv => arg 2; whnf
  go_wp2
  go_loopw [23, 24] (fun kk g wr => ∃ t : Nat, m ≤ t ∧ t ≤ H.n ∧ g = .int .i64 t ∧ kk = .int .i64 ((grpL H st (H.v m) t).length : Int) ∧ LG H st nS (some ⟨b, off, none⟩) aS gZ B gM N G GV RV w wr ∧ GRows H st (H.v m) RV L A L wr) (fun _ g _ => H.n - (intOf g).toNat)
  case atStart => exact ⟨m, Nat.le_refl _, by omega, rfl, by rw [HGN.out]; rfl, hLG, hGr⟩
  case round =>
    clear hLG hGr
    obtain ⟨t, hmt, htn, rfl, rfl, hLG, hGr⟩ := hrel
    have hcb := grpL_le H st (H.v m) t
    by_cases htl : t < H.n
    · have p1 := hLG.gf.cell htl
      obtain ⟨b', off', hae, e1, e2⟩ := hLG.snap.op htl
      cases hae
      obtain ⟨b', off', hae, e3, e4⟩ := hLG.snap.op hlt
      cases hae
      clear e1 e3
      have i0 : (0 : Int) ≤ (t : Int) := by omega
      have i1 : (t : Int) < (H.n : Int) := by omega
      by_cases h1 : gfv H st t = (t : Int)
      · have h1' : (gfv H st t != (t : Int)) = false := by simp [h1]
        have HGt : Hid (isG H st t) := (gfv_self H st).1 h1
        clear h1
        by_cases h2 : H.v t = H.v m
        · have h2' : (H.v t != H.v m) = false := by simp [h2]
          obtain ⟨hkL, hkg⟩ := gAt_here HGt.out h2 htl
          have HMore : Hid (((grpL H st (H.v m) (t + 1)).length : Int) = ((grpL H st (H.v m) t).length : Int) + 1) := by rw [Hid, grpL_more H st HGt.out h2]; simp
          obtain ⟨kk, hkk⟩ : ∃ kk, (grpL H st (H.v m) t).length = kk := ⟨_, rfl⟩
          rw [HLen.out, hkk] at hkL
          rw [hkk] at hkg hcb HMore ⊢
          clear hkk h2
          have HKg : Hid (gAt H st (H.v m) kk = t) := hkg
          clear hkg
          have r1 : wr.cell? ⟨A, kk, none⟩ = some (.int .i32 (st t)) := by rw [hGr.a.cell hkL]; simp [upTo, hkL, HKg.out]
          have r3 : wr.cell? ⟨A + 2, kk, none⟩ = some (.int .i64 0) := by rw [hGr.c.cell hkL]; simp [upTo]
          have r4 : wr.cell? ⟨A + 3, kk, none⟩ = some (.int .i64 0) := by rw [hGr.d.cell hkL]; simp [upTo]
          have htS : t < nS := HCov.out.lt htl HGt.out.1
          obtain ⟨sb, so, hae, s1⟩ := hLG.snap.site htS
          cases hae
          have i4 : (0 : Int) ≤ (kk : Int) := by omega
          have i5 : (kk : Int) < (L : Int) := by omega
          have i6 : (t : Int) < (nS : Int) := by omega
          have hd : (st t != st t) = false := by simp
          have HOps : Hid (opsL H st t H.n ≠ []) := fun e => by
            have := opsL_at H st ((gfv_self H st).2 HGt.out) H.n htl
            rw [e] at this
            simp at this
          go_wp2
          go_quiet (fail)
          go_wp2
          go_quiet (fail)
          go_upto_block 14 with fail
          refine block14 H st nS _ _ gZ B gM N G GV RV (H.v m) t kk L A w _ hn htl hkL hLb HKg.out HOps.out ((hLG.drewN _).drewN _) ((hGr.drewN _).drewN _) ?_
          intros
          rename_i wz hLGz hGrz
          obtain ⟨go, co, hRV, _, hgl, hcs⟩ := hLGz.snap.res.ops t HOps.out
          have r2 : wz.cell? ⟨A + 1, kk, none⟩ = some (.slice (some ⟨go, 0, none⟩) (opsL H st t H.n).length co) := by
            rw [hGrz.b.cell hkL]
            simp [upV, hkL, HKg.out, hRV]
          clear hRV hcs r1 r3 r4 s1 p1 e2 e4 hLG hGr
          go_wp2
          go_roundw
          case rel => exact ⟨t + 1, by omega, by omega, by go_num, by rw [HMore.out], hLGz, hGrz⟩
          case measure => simp [intOf]; omega
        · have h2' : (H.v t != H.v m) = true := by simp [h2]
          have HSame : Hid ((grpL H st (H.v m) (t + 1)).length = (grpL H st (H.v m) t).length) := by rw [Hid, grpL_same H st (fun e => h2 e.2)]
          clear h2
          go_wp2
          go_quiet (fail)
          go_wp2
          go_roundw
          case rel => exact ⟨t + 1, by omega, by omega, by go_num, by rw [HSame.out], hLG.drewN _, hGr.drewN _⟩
          case measure => simp [intOf]; omega
      · have h1' : (gfv H st t != (t : Int)) = true := by simp [h1]
        have HSame : Hid ((grpL H st (H.v m) (t + 1)).length = (grpL H st (H.v m) t).length) := by rw [Hid, grpL_same H st (fun e => h1 ((gfv_self H st).2 e.1))]
        clear h1
        go_wp2
        go_quiet (fail)
        go_wp2
        go_roundw
        case rel => exact ⟨t + 1, by omega, by omega, by go_num, by rw [HSame.out], hLG.drewN _, hGr.drewN _⟩
        case measure => simp [intOf]; omega
    · have hte : t = H.n := by omega
      subst hte
      rw [HLen.out]
      go_wp2
      exact HK.out _ _ _ _ _ _ _ _ _ _ _ _ _ _ _ _ _ _ _ _ _ _ _ _ _ _ _ _ _ _ _ _ _ _ _ _ _ _ _ _ _ _ _ _ _ _ _ _ _ _ _ _ _ _ _ _ _ _ _ _ _ _ _ _ _ _ _ _ _ _ _ _ _ _ _ _ _ _ _ _ _ _ _ _ _ _ _ _ _ _ _ _ _ _ _ _ _ _ hLG
end Go.Proofs.Qxb6603687a
