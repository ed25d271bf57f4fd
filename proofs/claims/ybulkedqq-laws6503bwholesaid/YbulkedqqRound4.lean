import Derived.Test.YbulkedqqPart
namespace Go.Proofs.Ybulkedqq
open Go.RowKit
set_option linter.unusedVariables false
attribute [local go_sem] Go.wp_at_zero Go.wp_at_succ

set_option maxRecDepth 20000 in
set_option maxHeartbeats 4000000 in
theorem round4 (n cap b off k N m c : Nat) (x : Int) (w wr : World) (ao : Option Addr) (Es : List Ent) (hn : n ≤ 4096) (hk : k ≤ n) (hlt : k < n) (hlt' : (k : Int) < (n : Int)) (hbl : b < w.heap.size) (hN : w.heap.size = N) (ck : wr.cell? ⟨b, off + k, none⟩ = some (.int .u8 x)) (hx0 : 0 ≤ x) (hx1 : x ≤ 255) (hszr : N ≤ wr.heap.size) (hml : m ≤ 8192) (HLEN : Hid (m = Es.length)) (HST : Hid (St wr N (.slice ao m c) Es (2 * k) (2 * k) k)) (HBL : Hid (Below N w wr)) (hr : x % 6 = 4) (K : Act → World → Prop) (K0 : Act → World → Prop) (Post : Ending → World → Prop) (sl0 sl1 sl2 sl3 sl4 sl6 sl7 sl8 sl9 sl10 sl11 sl12 sl13 sl14 sl15 sl16 sl17 sl18 sl19 sl20 sl21 sl22 sl23 sl24 sl25 sl26 sl27 sl28 sl29 sl30 sl31 sl32 sl33 sl34 sl35 sl36 sl37 sl38 sl39 sl43 sl44 sl45 sl46 sl47 sl48 sl49 sl50 sl51 sl52 sl53 sl54 sl55 sl56 sl57 sl58 sl59 sl60 sl61 sl62 sl63 sl64 sl65 sl66 sl67 sl68 sl69 sl70 sl71 sl72 sl73 sl74 sl75 sl76 sl77 sl78 sl79 sl80 sl81 sl82 sl83 sl84 sl85 sl86 sl87 sl88 sl89 sl90 sl91 sl92 sl93 sl94 sl95 sl96 sl97 sl98 sl99 sl100 sl101 sl102 sl103 sl104 sl105 sl106 sl107 sl108 sl109 sl110 sl111 sl112 sl113 sl114 sl115 sl116 sl117 sl118 sl119 sl120 sl121 sl122 sl123 sl124 sl125 sl126 sl127 sl128 sl129 sl130 sl131 sl132 sl133 sl134 sl135 sl136 sl137 sl138 sl139 sl140 sl141 sl142 sl143 sl144 sl145 sl146 sl147 sl148 sl149 sl150 sl151 sl152 sl153 sl154 sl155 sl156 sl157 sl158 sl159 sl160 sl161 sl162 sl163 sl164 sl165 sl166 sl167 sl168 sl169 sl170 sl171 sl172 sl173 sl174 sl175 sl176 sl177 sl178 sl179 sl180 sl181 sl182 sl183 sl184 sl185 sl186 sl187 sl188 sl189 sl190 sl191 sl192 sl193 sl194 sl195 sl196 sl197 sl198 sl199 sl200 sl201 sl202 sl203 sl204 sl205 sl206 sl207 sl208 sl209 sl210 sl211 sl212 sl213 sl214 sl215 sl216 sl217 sl218 sl219 sl220 sl221 sl222 sl223 sl224 sl225 sl226 sl227 sl228 sl229 sl230 sl231 sl232 sl233 sl234 sl235 sl236 sl237 sl238 sl239 sl240 sl241 sl242 sl243 sl244 sl245 sl246 sl247 sl248 sl249 sl250 sl251 sl252 sl253 sl254 sl255 sl256 sl257 sl258 sl259 sl260 sl261 sl262 sl263 sl264 sl265 sl266 sl267 sl268 sl269 sl270 sl271 sl272 sl273 sl274 sl275 sl276 sl277 sl278 sl279 sl280 sl281 sl282 sl283 sl284 sl285 sl286 sl287 sl288 sl289 sl290 sl291 sl292 sl293 sl294 sl295 sl296 sl297 sl298 sl299 sl300 sl301 sl302 sl303 sl304 sl305 sl306 sl307 sl308 sl309 sl310 sl311 sl312 sl313 sl314 sl315 sl316 sl317 sl318 sl319 sl320 sl321 sl322 sl323 sl324 sl325 sl326 sl327 sl328 sl329 sl330 sl331 sl332 sl333 sl334 sl335 sl336 sl337 sl338 sl339 sl340 sl341 sl342 sl343 sl344 sl345 sl346 sl347 sl348 sl349 sl350 sl351 sl352 sl353 sl354 sl355 sl356 sl357 sl358 sl359 sl360 sl361 sl362 sl363 sl364 sl365 sl366 sl367 sl368 sl369 sl370 sl371 sl372 sl373 sl374 sl375 : Value) (hK : ∀ (u7 u8 u9 u10 u11 u12 u13 u14 u15 u16 u17 u19 u20 u43 u44 u45 u46 u47 u48 u49 u50 u51 u52 u53 u54 u55 u56 u57 u58 u59 u60 u61 u62 u63 u64 u65 u66 u67 u68 u69 u70 u71 u72 u73 u74 u75 u76 u77 u78 u79 u80 u81 u82 u83 u84 u85 u86 u87 u88 u89 u90 u91 u92 u93 u94 u95 u96 u97 u98 u99 u100 u101 u102 u103 u104 u105 u106 u107 u108 u109 u110 u111 u112 u113 u114 u115 u116 u117 u118 u119 u120 u121 u122 u123 u124 u125 u126 u127 u128 u129 u130 u131 u132 u133 u134 u135 u136 u137 u138 u139 u140 u141 u142 u143 u144 u145 u146 u147 u148 u149 u150 u151 u152 u153 u154 u155 u156 u157 u158 u159 u160 u161 u162 u163 u164 u165 u166 u167 u168 u169 u170 u171 u172 u173 u174 u175 u176 u177 u178 u179 u180 u181 u182 u183 u184 u185 u186 u187 u188 u189 u190 u191 u192 u193 u194 u195 u196 u197 u198 u199 u200 u201 u202 u203 u204 u205 u206 u207 u208 u209 u210 u211 u212 u213 u214 u215 u216 v i : Value) (w' : World), RR w N k v i w' → K ⟨#[sl0, sl1, sl2, sl3, sl4, v, sl6, u7, u8, u9, u10, u11, u12, u13, u14, u15, u16, u17, sl18, u19, u20, sl21, sl22, sl23, sl24, sl25, sl26, sl27, sl28, sl29, sl30, sl31, sl32, sl33, sl34, sl35, sl36, sl37, sl38, sl39, .slice (some ⟨b, off, none⟩) n cap, .int .i64 n, i, u43, u44, u45, u46, u47, u48, u49, u50, u51, u52, u53, u54, u55, u56, u57, u58, u59, u60, u61, u62, u63, u64, u65, u66, u67, u68, u69, u70, u71, u72, u73, u74, u75, u76, u77, u78, u79, u80, u81, u82, u83, u84, u85, u86, u87, u88, u89, u90, u91, u92, u93, u94, u95, u96, u97, u98, u99, u100, u101, u102, u103, u104, u105, u106, u107, u108, u109, u110, u111, u112, u113, u114, u115, u116, u117, u118, u119, u120, u121, u122, u123, u124, u125, u126, u127, u128, u129, u130, u131, u132, u133, u134, u135, u136, u137, u138, u139, u140, u141, u142, u143, u144, u145, u146, u147, u148, u149, u150, u151, u152, u153, u154, u155, u156, u157, u158, u159, u160, u161, u162, u163, u164, u165, u166, u167, u168, u169, u170, u171, u172, u173, u174, u175, u176, u177, u178, u179, u180, u181, u182, u183, u184, u185, u186, u187, u188, u189, u190, u191, u192, u193, u194, u195, u196, u197, u198, u199, u200, u201, u202, u203, u204, u205, u206, u207, u208, u209, u210, u211, u212, u213, u214, u215, u216, sl217, sl218, sl219, sl220, sl221, sl222, sl223, sl224, sl225, sl226, sl227, sl228, sl229, sl230, sl231, sl232, sl233, sl234, sl235, sl236, sl237, sl238, sl239, sl240, sl241, sl242, sl243, sl244, sl245, sl246, sl247, sl248, sl249, sl250, sl251, sl252, sl253, sl254, sl255, sl256, sl257, sl258, sl259, sl260, sl261, sl262, sl263, sl264, sl265, sl266, sl267, sl268, sl269, sl270, sl271, sl272, sl273, sl274, sl275, sl276, sl277, sl278, sl279, sl280, sl281, sl282, sl283, sl284, sl285, sl286, sl287, sl288, sl289, sl290, sl291, sl292, sl293, sl294, sl295, sl296, sl297, sl298, sl299, sl300, sl301, sl302, sl303, sl304, sl305, sl306, sl307, sl308, sl309, sl310, sl311, sl312, sl313, sl314, sl315, sl316, sl317, sl318, sl319, sl320, sl321, sl322, sl323, sl324, sl325, sl326, sl327, sl328, sl329, sl330, sl331, sl332, sl333, sl334, sl335, sl336, sl337, sl338, sl339, sl340, sl341, sl342, sl343, sl344, sl345, sl346, sl347, sl348, sl349, sl350, sl351, sl352, sl353, sl354, sl355, sl356, sl357, sl358, sl359, sl360, sl361, sl362, sl363, sl364, sl365, sl366, sl367, sl368, sl369, sl370, sl371, sl372, sl373, sl374, sl375], []⟩ w') :
    Code.wp Yba.prog (inLoop (inBlk (sq2 (sq1 (sq2 (sq2 (sq2 (Yba.f3.body.getD .skip)))))))) (Exit.then K (Exit.inBlock 0 (Exit.then K0 (bodyPost Yba.prog Yba.f3 Post)))) ⟨#[sl0, sl1, sl2, sl3, sl4, .slice ao m c, sl6, sl7, sl8, sl9, sl10, sl11, sl12, sl13, sl14, sl15, sl16, sl17, sl18, sl19, sl20, sl21, sl22, sl23, sl24, sl25, sl26, sl27, sl28, sl29, sl30, sl31, sl32, sl33, sl34, sl35, sl36, sl37, sl38, sl39, .slice (some ⟨b, off, none⟩) n cap, .int .i64 n, .int .i64 k, sl43, sl44, sl45, sl46, sl47, sl48, sl49, sl50, sl51, sl52, sl53, sl54, sl55, sl56, sl57, sl58, sl59, sl60, sl61, sl62, sl63, sl64, sl65, sl66, sl67, sl68, sl69, sl70, sl71, sl72, sl73, sl74, sl75, sl76, sl77, sl78, sl79, sl80, sl81, sl82, sl83, sl84, sl85, sl86, sl87, sl88, sl89, sl90, sl91, sl92, sl93, sl94, sl95, sl96, sl97, sl98, sl99, sl100, sl101, sl102, sl103, sl104, sl105, sl106, sl107, sl108, sl109, sl110, sl111, sl112, sl113, sl114, sl115, sl116, sl117, sl118, sl119, sl120, sl121, sl122, sl123, sl124, sl125, sl126, sl127, sl128, sl129, sl130, sl131, sl132, sl133, sl134, sl135, sl136, sl137, sl138, sl139, sl140, sl141, sl142, sl143, sl144, sl145, sl146, sl147, sl148, sl149, sl150, sl151, sl152, sl153, sl154, sl155, sl156, sl157, sl158, sl159, sl160, sl161, sl162, sl163, sl164, sl165, sl166, sl167, sl168, sl169, sl170, sl171, sl172, sl173, sl174, sl175, sl176, sl177, sl178, sl179, sl180, sl181, sl182, sl183, sl184, sl185, sl186, sl187, sl188, sl189, sl190, sl191, sl192, sl193, sl194, sl195, sl196, sl197, sl198, sl199, sl200, sl201, sl202, sl203, sl204, sl205, sl206, sl207, sl208, sl209, sl210, sl211, sl212, sl213, sl214, sl215, sl216, sl217, sl218, sl219, sl220, sl221, sl222, sl223, sl224, sl225, sl226, sl227, sl228, sl229, sl230, sl231, sl232, sl233, sl234, sl235, sl236, sl237, sl238, sl239, sl240, sl241, sl242, sl243, sl244, sl245, sl246, sl247, sl248, sl249, sl250, sl251, sl252, sl253, sl254, sl255, sl256, sl257, sl258, sl259, sl260, sl261, sl262, sl263, sl264, sl265, sl266, sl267, sl268, sl269, sl270, sl271, sl272, sl273, sl274, sl275, sl276, sl277, sl278, sl279, sl280, sl281, sl282, sl283, sl284, sl285, sl286, sl287, sl288, sl289, sl290, sl291, sl292, sl293, sl294, sl295, sl296, sl297, sl298, sl299, sl300, sl301, sl302, sl303, sl304, sl305, sl306, sl307, sl308, sl309, sl310, sl311, sl312, sl313, sl314, sl315, sl316, sl317, sl318, sl319, sl320, sl321, sl322, sl323, sl324, sl325, sl326, sl327, sl328, sl329, sl330, sl331, sl332, sl333, sl334, sl335, sl336, sl337, sl338, sl339, sl340, sl341, sl342, sl343, sl344, sl345, sl346, sl347, sl348, sl349, sl350, sl351, sl352, sl353, sl354, sl355, sl356, sl357, sl358, sl359, sl360, sl361, sl362, sl363, sl364, sl365, sl366, sl367, sl368, sl369, sl370, sl371, sl372, sl373, sl374, sl375], []⟩ wr := by
  conv => arg 2; whnf
  have d0 : (x % 6 == 0) = false := by simp [hr]
  have d1 : (x % 6 == 1) = false := by simp [hr]
  have d2 : (x % 6 == 2) = false := by simp [hr]
  have d3 : (x % 6 == 3) = false := by simp [hr]
  have d4 : (x % 6 == 4) = true := by simp [hr]
  clear hr
  go_upto_if 193 with fail
  go_cut [5] (fun v wc => ∃ (Es' : List Ent) (va : Option Addr) (vc : Nat), v = .slice va Es'.length vc ∧ Es' ≠ [] ∧ Es'.length ≤ 8193 ∧ Hid (St wc N v Es' (2 * k + 1) (2 * k + 1) k) ∧ Hid (Below N w wc))
  case first =>
    by_cases hm0 : m = 0
    · have hm0' : ((m : Int) == 0) = true := by simp [hm0]
      clear hm0
      go_wp2_with (first
        | (go_at_call 4; refine (scan_any _).mono ?_; rintro e w1 ⟨pb, s, sv, rfl, hent, hT, htag, hge, hbw⟩; have hpush := push_scan HST.out hszr hbw hent hT htag hge; rw [← HLEN.out] at hpush; have HP : Hid _ := hpush; clear hent hT hpush; unfold pt)
        | (at_builtin; refine app_row row23 N _ m _ rfl HP.out.1 _ 1 _ rfl HP.out.2.1 HP.out.2.2.2.1 (by omega) HP.out.2.2.1 ?_; intro v' w3 ho3 hg3 hv3; obtain ⟨va, vc, rfl⟩ := hv3; have hfin := HP.out.2.2.2.2 _ _ ho3 hg3; have HFIN : Hid _ := hfin; clear hfin ho3 hg3))
      go_meet
      case rel => exact ⟨Es ++ [scanE pb s sv], va, vc, by rw [HLEN.out]; simp, by simp, by have := HLEN.out; simp; omega, HFIN.out.1, HBL.out.trans HFIN.out.2⟩
    · have hm0' : ((m : Int) == 0) = false := by simp [hm0]
      have hne : Es ≠ [] := by rintro rfl; exact hm0 HLEN.out
      clear hm0
      go_wp2_with fail
      go_meet
      case rel => exact ⟨Es, ao, c, by rw [HLEN.out], hne, by have := HLEN.out; omega, St.mono HST.out (by omega) (by omega) (by omega), HBL⟩
  case rest =>
    obtain ⟨Es', va, vc, rfl, hne, hml2, HST2, HBL2⟩ := hcut
    obtain ⟨pre, E0, rfl⟩ := snoc_of hne
    obtain ⟨-, g, cur, rfl, hBg, hrec, hcsz, hcap, hmx, q0, q1, q2, q3⟩ := HST2.out.at (pre := pre) (post := [])
    obtain ⟨ty, pb, sa, sc, ja, jq, na, nq, T, d, rfl, hok, hmem⟩ := HST2.out.open (pre := pre) (post := [])
    have hsml := sml_of HST2.out.2.2.2 hmem hok.2 (by omega) (by omega) (by omega)
    have HSML : Hid (Sml T) := hsml
    have HOK : Hid (EntOK wc d ⟨.iface ty (.pointer (some ⟨pb, 0, none⟩)), .slice sa T.s.length sc, .slice ja T.j.length jq, .slice na T.n.length nq, T⟩) := hok
    have HREC : Hid (Rec wc g 30 cur) := hrec
    obtain ⟨L, hL⟩ : ∃ L, pre.length = L := ⟨_, rfl⟩
    have e1 : (pre ++ [(⟨.iface ty (.pointer (some ⟨pb, 0, none⟩)), .slice sa T.s.length sc, .slice ja T.j.length jq, .slice na T.n.length nq, T⟩ : Ent)]).length = L + 1 := by simp [hL]
    rw [e1] at hml2 hcap HST2 ⊢
    rw [hL] at q0 q1 q2 q3
    simp only at q0 q1 q2 q3
    have t0 := rec_cell hrec _ _ q0
    have t1 := rec_cell hrec _ _ q1
    have t2 := rec_cell hrec _ _ q2
    have t3 := rec_cell hrec _ _ q3
    obtain ⟨Z, hZ⟩ : ∃ Z, wc.heap.size = Z := ⟨_, rfl⟩
    have hgZ : g < Z := by rw [← hZ]; exact hrec.lt
    clear hne hok hmem hsml hrec q0 q1 q2 q3 e1 HST HBL HLEN ck
    have hszc : N ≤ wc.heap.size := by have := HBL2.out.size; omega
    have hpd := push_agg (by rw [hL]; exact HST2.out) hszc hZ rfl HOK.out
    rw [hL] at hpd
    go_upto_region 47 with fail
    obtain ⟨w7, hw7⟩ : ∃ w7, (wc.alloc (.cells #[.iface 43 (.pointer (some ⟨Z + 1, 0, none⟩)), .slice sa T.s.length sc, .slice ja T.j.length jq, .slice na T.n.length nq] 30)).alloc (.cells #[.slice none 0 0, .slice none 0 0, .iface ty (.pointer (some ⟨pb, 0, none⟩))] 47) = w7 := ⟨_, rfl⟩
    simp only [hw7] at hpd
    rw [hw7]
    obtain ⟨hr7, hst7, hbl7, cur7, hg7, _, hc7, hLv⟩ := hpd
    have y0 := rec_cell hr7 0 _ rfl
    have y1 := rec_cell hr7 1 _ rfl
    have y2 := rec_cell hr7 2 _ rfl
    have y3 := rec_cell hr7 3 _ rfl
    have x0 := rec_cell hg7 (L * 4) _ (Array.getElem?_eq_getElem (by omega))
    have x1 := rec_cell hg7 (L * 4 + 1) _ (Array.getElem?_eq_getElem (by omega))
    have x2 := rec_cell hg7 (L * 4 + 2) _ (Array.getElem?_eq_getElem (by omega))
    have x3 := rec_cell hg7 (L * 4 + 3) _ (Array.getElem?_eq_getElem (by omega))
    have f0 := frozen_of_row w7 g (L * 4) _ _ hg7
    have f1 := frozen_of_row w7 g (L * 4 + 1) _ _ hg7
    have f2 := frozen_of_row w7 g (L * 4 + 2) _ _ hg7
    have f3 := frozen_of_row w7 g (L * 4 + 3) _ _ hg7
    have HST7 : Hid _ := hst7
    have HBL7 : Hid _ := hbl7
    clear hw7 hst7 hbl7 hr7 hg7 t0 t1 t2 t3
    go_wp2_with fail
    unfold RR; exact ⟨k + 1, _, by simp, by omega, ⟨_, _, _, rfl⟩, St.mono HST7.out (by omega) (by omega) (by omega), HBL2.out.trans HBL7.out⟩
end Go.Proofs.Ybulkedqq
