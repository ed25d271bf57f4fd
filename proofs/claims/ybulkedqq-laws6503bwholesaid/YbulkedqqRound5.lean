import Derived.Test.YbulkedqqPart
namespace Go.Proofs.Ybulkedqq
open Go.RowKit
set_option linter.unusedVariables false
attribute [local go_sem] Go.wp_at_zero Go.wp_at_succ

set_option maxRecDepth 20000 in
set_option maxHeartbeats 4000000 in
theorem round5 (n cap b off k N m c : Nat) (x : Int) (w wr : World) (ao : Option Addr) (Es : List Ent) (hn : n ≤ 4096) (hk : k ≤ n) (hlt : k < n) (hlt' : (k : Int) < (n : Int)) (hbl : b < w.heap.size) (hN : w.heap.size = N) (ck : wr.cell? ⟨b, off + k, none⟩ = some (.int .u8 x)) (hx0 : 0 ≤ x) (hx1 : x ≤ 255) (hszr : N ≤ wr.heap.size) (hml : m ≤ 8192) (HLEN : Hid (m = Es.length)) (HST : Hid (St wr N (.slice ao m c) Es (2 * k) (2 * k) k)) (HBL : Hid (Below N w wr)) (hr : x % 6 = 5) (K : Act → World → Prop) (K0 : Act → World → Prop) (Post : Ending → World → Prop) (sl0 sl1 sl2 sl3 sl4 sl6 sl7 sl8 sl9 sl10 sl11 sl12 sl13 sl14 sl15 sl16 sl17 sl18 sl19 sl20 sl21 sl22 sl23 sl24 sl25 sl26 sl27 sl28 sl29 sl30 sl31 sl32 sl33 sl34 sl35 sl36 sl37 sl38 sl39 sl43 sl44 sl45 sl46 sl47 sl48 sl49 sl50 sl51 sl52 sl53 sl54 sl55 sl56 sl57 sl58 sl59 sl60 sl61 sl62 sl63 sl64 sl65 sl66 sl67 sl68 sl69 sl70 sl71 sl72 sl73 sl74 sl75 sl76 sl77 sl78 sl79 sl80 sl81 sl82 sl83 sl84 sl85 sl86 sl87 sl88 sl89 sl90 sl91 sl92 sl93 sl94 sl95 sl96 sl97 sl98 sl99 sl100 sl101 sl102 sl103 sl104 sl105 sl106 sl107 sl108 sl109 sl110 sl111 sl112 sl113 sl114 sl115 sl116 sl117 sl118 sl119 sl120 sl121 sl122 sl123 sl124 sl125 sl126 sl127 sl128 sl129 sl130 sl131 sl132 sl133 sl134 sl135 sl136 sl137 sl138 sl139 sl140 sl141 sl142 sl143 sl144 sl145 sl146 sl147 sl148 sl149 sl150 sl151 sl152 sl153 sl154 sl155 sl156 sl157 sl158 sl159 sl160 sl161 sl162 sl163 sl164 sl165 sl166 sl167 sl168 sl169 sl170 sl171 sl172 sl173 sl174 sl175 sl176 sl177 sl178 sl179 sl180 sl181 sl182 sl183 sl184 sl185 sl186 sl187 sl188 sl189 sl190 sl191 sl192 sl193 sl194 sl195 sl196 sl197 sl198 sl199 sl200 sl201 sl202 sl203 sl204 sl205 sl206 sl207 sl208 sl209 sl210 sl211 sl212 sl213 sl214 sl215 sl216 sl217 sl218 sl219 sl220 sl221 sl222 sl223 sl224 sl225 sl226 sl227 sl228 sl229 sl230 sl231 sl232 sl233 sl234 sl235 sl236 sl237 sl238 sl239 sl240 sl241 sl242 sl243 sl244 sl245 sl246 sl247 sl248 sl249 sl250 sl251 sl252 sl253 sl254 sl255 sl256 sl257 sl258 sl259 sl260 sl261 sl262 sl263 sl264 sl265 sl266 sl267 sl268 sl269 sl270 sl271 sl272 sl273 sl274 sl275 sl276 sl277 sl278 sl279 sl280 sl281 sl282 sl283 sl284 sl285 sl286 sl287 sl288 sl289 sl290 sl291 sl292 sl293 sl294 sl295 sl296 sl297 sl298 sl299 sl300 sl301 sl302 sl303 sl304 sl305 sl306 sl307 sl308 sl309 sl310 sl311 sl312 sl313 sl314 sl315 sl316 sl317 sl318 sl319 sl320 sl321 sl322 sl323 sl324 sl325 sl326 sl327 sl328 sl329 sl330 sl331 sl332 sl333 sl334 sl335 sl336 sl337 sl338 sl339 sl340 sl341 sl342 sl343 sl344 sl345 sl346 sl347 sl348 sl349 sl350 sl351 sl352 sl353 sl354 sl355 sl356 sl357 sl358 sl359 sl360 sl361 sl362 sl363 sl364 sl365 sl366 sl367 sl368 sl369 sl370 sl371 sl372 sl373 sl374 sl375 : Value) (hK : ∀ (u7 u8 u9 u10 u11 u12 u13 u14 u15 u16 u17 u19 u20 u43 u44 u45 u46 u47 u48 u49 u50 u51 u52 u53 u54 u55 u56 u57 u58 u59 u60 u61 u62 u63 u64 u65 u66 u67 u68 u69 u70 u71 u72 u73 u74 u75 u76 u77 u78 u79 u80 u81 u82 u83 u84 u85 u86 u87 u88 u89 u90 u91 u92 u93 u94 u95 u96 u97 u98 u99 u100 u101 u102 u103 u104 u105 u106 u107 u108 u109 u110 u111 u112 u113 u114 u115 u116 u117 u118 u119 u120 u121 u122 u123 u124 u125 u126 u127 u128 u129 u130 u131 u132 u133 u134 u135 u136 u137 u138 u139 u140 u141 u142 u143 u144 u145 u146 u147 u148 u149 u150 u151 u152 u153 u154 u155 u156 u157 u158 u159 u160 u161 u162 u163 u164 u165 u166 u167 u168 u169 u170 u171 u172 u173 u174 u175 u176 u177 u178 u179 u180 u181 u182 u183 u184 u185 u186 u187 u188 u189 u190 u191 u192 u193 u194 u195 u196 u197 u198 u199 u200 u201 u202 u203 u204 u205 u206 u207 u208 u209 u210 u211 u212 u213 u214 u215 u216 v i : Value) (w' : World), RR w N k v i w' → K ⟨#[sl0, sl1, sl2, sl3, sl4, v, sl6, u7, u8, u9, u10, u11, u12, u13, u14, u15, u16, u17, sl18, u19, u20, sl21, sl22, sl23, sl24, sl25, sl26, sl27, sl28, sl29, sl30, sl31, sl32, sl33, sl34, sl35, sl36, sl37, sl38, sl39, .slice (some ⟨b, off, none⟩) n cap, .int .i64 n, i, u43, u44, u45, u46, u47, u48, u49, u50, u51, u52, u53, u54, u55, u56, u57, u58, u59, u60, u61, u62, u63, u64, u65, u66, u67, u68, u69, u70, u71, u72, u73, u74, u75, u76, u77, u78, u79, u80, u81, u82, u83, u84, u85, u86, u87, u88, u89, u90, u91, u92, u93, u94, u95, u96, u97, u98, u99, u100, u101, u102, u103, u104, u105, u106, u107, u108, u109, u110, u111, u112, u113, u114, u115, u116, u117, u118, u119, u120, u121, u122, u123, u124, u125, u126, u127, u128, u129, u130, u131, u132, u133, u134, u135, u136, u137, u138, u139, u140, u141, u142, u143, u144, u145, u146, u147, u148, u149, u150, u151, u152, u153, u154, u155, u156, u157, u158, u159, u160, u161, u162, u163, u164, u165, u166, u167, u168, u169, u170, u171, u172, u173, u174, u175, u176, u177, u178, u179, u180, u181, u182, u183, u184, u185, u186, u187, u188, u189, u190, u191, u192, u193, u194, u195, u196, u197, u198, u199, u200, u201, u202, u203, u204, u205, u206, u207, u208, u209, u210, u211, u212, u213, u214, u215, u216, sl217, sl218, sl219, sl220, sl221, sl222, sl223, sl224, sl225, sl226, sl227, sl228, sl229, sl230, sl231, sl232, sl233, sl234, sl235, sl236, sl237, sl238, sl239, sl240, sl241, sl242, sl243, sl244, sl245, sl246, sl247, sl248, sl249, sl250, sl251, sl252, sl253, sl254, sl255, sl256, sl257, sl258, sl259, sl260, sl261, sl262, sl263, sl264, sl265, sl266, sl267, sl268, sl269, sl270, sl271, sl272, sl273, sl274, sl275, sl276, sl277, sl278, sl279, sl280, sl281, sl282, sl283, sl284, sl285, sl286, sl287, sl288, sl289, sl290, sl291, sl292, sl293, sl294, sl295, sl296, sl297, sl298, sl299, sl300, sl301, sl302, sl303, sl304, sl305, sl306, sl307, sl308, sl309, sl310, sl311, sl312, sl313, sl314, sl315, sl316, sl317, sl318, sl319, sl320, sl321, sl322, sl323, sl324, sl325, sl326, sl327, sl328, sl329, sl330, sl331, sl332, sl333, sl334, sl335, sl336, sl337, sl338, sl339, sl340, sl341, sl342, sl343, sl344, sl345, sl346, sl347, sl348, sl349, sl350, sl351, sl352, sl353, sl354, sl355, sl356, sl357, sl358, sl359, sl360, sl361, sl362, sl363, sl364, sl365, sl366, sl367, sl368, sl369, sl370, sl371, sl372, sl373, sl374, sl375], []⟩ w') :
    Code.wp Yba.prog (inLoop (inBlk (sq2 (sq1 (sq2 (sq2 (sq2 (Yba.f3.body.getD .skip)))))))) (Exit.then K (Exit.inBlock 0 (Exit.then K0 (bodyPost Yba.prog Yba.f3 Post)))) ⟨#[sl0, sl1, sl2, sl3, sl4, .slice ao m c, sl6, sl7, sl8, sl9, sl10, sl11, sl12, sl13, sl14, sl15, sl16, sl17, sl18, sl19, sl20, sl21, sl22, sl23, sl24, sl25, sl26, sl27, sl28, sl29, sl30, sl31, sl32, sl33, sl34, sl35, sl36, sl37, sl38, sl39, .slice (some ⟨b, off, none⟩) n cap, .int .i64 n, .int .i64 k, sl43, sl44, sl45, sl46, sl47, sl48, sl49, sl50, sl51, sl52, sl53, sl54, sl55, sl56, sl57, sl58, sl59, sl60, sl61, sl62, sl63, sl64, sl65, sl66, sl67, sl68, sl69, sl70, sl71, sl72, sl73, sl74, sl75, sl76, sl77, sl78, sl79, sl80, sl81, sl82, sl83, sl84, sl85, sl86, sl87, sl88, sl89, sl90, sl91, sl92, sl93, sl94, sl95, sl96, sl97, sl98, sl99, sl100, sl101, sl102, sl103, sl104, sl105, sl106, sl107, sl108, sl109, sl110, sl111, sl112, sl113, sl114, sl115, sl116, sl117, sl118, sl119, sl120, sl121, sl122, sl123, sl124, sl125, sl126, sl127, sl128, sl129, sl130, sl131, sl132, sl133, sl134, sl135, sl136, sl137, sl138, sl139, sl140, sl141, sl142, sl143, sl144, sl145, sl146, sl147, sl148, sl149, sl150, sl151, sl152, sl153, sl154, sl155, sl156, sl157, sl158, sl159, sl160, sl161, sl162, sl163, sl164, sl165, sl166, sl167, sl168, sl169, sl170, sl171, sl172, sl173, sl174, sl175, sl176, sl177, sl178, sl179, sl180, sl181, sl182, sl183, sl184, sl185, sl186, sl187, sl188, sl189, sl190, sl191, sl192, sl193, sl194, sl195, sl196, sl197, sl198, sl199, sl200, sl201, sl202, sl203, sl204, sl205, sl206, sl207, sl208, sl209, sl210, sl211, sl212, sl213, sl214, sl215, sl216, sl217, sl218, sl219, sl220, sl221, sl222, sl223, sl224, sl225, sl226, sl227, sl228, sl229, sl230, sl231, sl232, sl233, sl234, sl235, sl236, sl237, sl238, sl239, sl240, sl241, sl242, sl243, sl244, sl245, sl246, sl247, sl248, sl249, sl250, sl251, sl252, sl253, sl254, sl255, sl256, sl257, sl258, sl259, sl260, sl261, sl262, sl263, sl264, sl265, sl266, sl267, sl268, sl269, sl270, sl271, sl272, sl273, sl274, sl275, sl276, sl277, sl278, sl279, sl280, sl281, sl282, sl283, sl284, sl285, sl286, sl287, sl288, sl289, sl290, sl291, sl292, sl293, sl294, sl295, sl296, sl297, sl298, sl299, sl300, sl301, sl302, sl303, sl304, sl305, sl306, sl307, sl308, sl309, sl310, sl311, sl312, sl313, sl314, sl315, sl316, sl317, sl318, sl319, sl320, sl321, sl322, sl323, sl324, sl325, sl326, sl327, sl328, sl329, sl330, sl331, sl332, sl333, sl334, sl335, sl336, sl337, sl338, sl339, sl340, sl341, sl342, sl343, sl344, sl345, sl346, sl347, sl348, sl349, sl350, sl351, sl352, sl353, sl354, sl355, sl356, sl357, sl358, sl359, sl360, sl361, sl362, sl363, sl364, sl365, sl366, sl367, sl368, sl369, sl370, sl371, sl372, sl373, sl374, sl375], []⟩ wr := by
  conv => arg 2; whnf
  have d0 : (x % 6 == 0) = false := by simp [hr]
  have d1 : (x % 6 == 1) = false := by simp [hr]
  have d2 : (x % 6 == 2) = false := by simp [hr]
  have d3 : (x % 6 == 3) = false := by simp [hr]
  have d4 : (x % 6 == 4) = false := by simp [hr]
  clear hr
  go_upto_if 55 with fail
  go_cut [15] (fun v wc => (∃ j : Nat, v = .int .i64 j ∧ j ≤ 2 ∧ j ≤ m) ∧ wc = wr)
  case first =>
    by_cases hjm : (m : Int) < x / 6 % 3
    · go_wp2_with fail
      go_meet
      case rel => exact ⟨⟨m, rfl, by omega, by omega⟩, rfl⟩
    · go_wp2_with fail
      go_meet
      case rel => exact ⟨⟨(x / 6 % 3).toNat, by simp; omega, by omega, by omega⟩, rfl⟩
  case rest =>
    obtain ⟨⟨j, rfl, hj2, hjm⟩, rfl⟩ := hcut
    obtain ⟨W0, rfl⟩ : ∃ W0, W0 = wc := ⟨_, rfl⟩
    obtain ⟨pre, pop, rfl, hpop⟩ := split_of (Es := Es) (j := j) (by have := HLEN.out; omega)
    obtain ⟨L, hL⟩ : ∃ L, pre.length = L := ⟨_, rfl⟩
    obtain rfl : m = L + j := by have := HLEN.out; simp at this; omega
    have HPOP : Hid (pop.length = j) := hpop
    have HLL : Hid (pre.length = L) := hL
    obtain ⟨Z, hZ⟩ : ∃ Z, W0.heap.size = Z := ⟨_, rfl⟩
    clear hpop hL
    go_upto_region 12 with fail
    obtain ⟨w1, hw1⟩ : ∃ w1, W0.alloc (.cells #[.nilIface, .slice none 0 0, .slice none 0 0, .slice none 0 0] 30) = w1 := ⟨_, rfl⟩
    rw [hw1]
    have hrE1 : Rec w1 Z 30 #[.nilIface, .slice none 0 0, .slice none 0 0, .slice none 0 0] := by rw [← hw1]; exact rec_new' _ _ _ _ hZ
    have hb1 : Below Z W0 w1 := by rw [← hw1]; exact (Below.refl _ W0).alloc (by omega) _
    have hs1 : w1.heap.size = Z + 1 := by rw [← hw1]; simp [hZ]
    clear hw1
    go_upto_region 13 with (at_make; refine make_row row48 Z j rfl _ rfl rfl (by omega) (by omega) ?_; intro v17 w2 ho2 hg2 hv17; obtain ⟨pa, pc, rfl⟩ := hv17)
    have hb2 : Below Z W0 w2 := hb1.trans ((Below.refl _ w1).grown hg2 (by omega) (by simp))
    have hrE2 : Rec w2 Z 30 #[.nilIface, .slice none 0 0, .slice none 0 0, .slice none 0 0] := (hg2.block Z (by omega) (by simp)).trans hrE1
    have HOP2 : Hid (w2.ownsRow Z 25 1 (.slice pa 0 pc) 0 []) := ho2
    have HRE2 : Hid (Rec w2 Z 30 #[.nilIface, .slice none 0 0, .slice none 0 0, .slice none 0 0]) := hrE2
    have HB2 : Hid (Below Z W0 w2) := hb2
    clear ho2 hg2 hrE1 hrE2 hb1 hb2 hs1
    go_cut [66, 67, 68] (fun s l i wc => (∃ sao scap, s = .slice sao j scap ∧ l = .int .i64 j ∧ i = .int .i64 0 ∧ Hid (0 < j → ∃ g, ao = some ⟨g, 0, none⟩ ∧ sao = some ⟨g, L * 4, none⟩)) ∧ wc = w2)
    case first =>
      have hL0 : (0 : Int) ≤ (L : Int) := by omega
      cases ao with
      | none =>
        have hmj : L + j = 0 ∧ c = 0 := by
          rcases HST.out.1.2 with ⟨h1, h2⟩ | ⟨_, _, _, h1, _⟩
          · injection h1 with _ h1 h3; exact ⟨h1, h3⟩
          · cases h1
        obtain ⟨rfl, rfl⟩ : L = 0 ∧ j = 0 := by omega
        obtain ⟨_, rfl⟩ := hmj
        go_wp2_with fail
        go_meet
        case rel => exact ⟨⟨_, _, rfl, rfl, rfl, fun h => absurd h (by omega)⟩, rfl⟩
      | some ad =>
        obtain ⟨g, hg, hcp⟩ : ∃ g, ad = ⟨g, 0, none⟩ ∧ L + j ≤ c := by
          rcases HST.out.1.2 with ⟨h1, h2⟩ | ⟨g, _, _, h1, _, _, h2, _⟩
          · cases h1
          · injection h1 with h1 h3 h4
            injection h1 with h1
            subst h4
            exact ⟨g, h1, by rw [h3]; exact h2⟩
        subst hg
        have hLj : (L : Int) ≤ (L : Int) + (j : Int) := by omega
        have hLc : (L : Int) + (j : Int) ≤ (c : Int) := by omega
        by_cases hcL : c = L
        · subst hcL
          obtain rfl : j = 0 := by omega
          go_wp2_with fail
          go_meet
          case rel => exact ⟨⟨_, _, rfl, rfl, rfl, fun h => absurd h (by omega)⟩, rfl⟩
        · have hcL2 : ¬ L = c := fun h => hcL h.symm
          have hcL3 : ¬ (c : Int) = (L : Int) := by omega
          have hcL4 : ¬ (L : Int) = (c : Int) := by omega
          have hcL5 : ¬ c - L = 0 := by omega
          go_wp2_with fail
          go_meet
          case rel => exact ⟨⟨_, _, rfl, rfl, rfl, fun _ => ⟨g, rfl, rfl⟩⟩, rfl⟩
    case rest =>
      obtain ⟨⟨sao, scap, rfl, rfl, rfl, HSA⟩, rfl⟩ := hcut
      obtain ⟨w2, rfl⟩ : ∃ w2, w2 = wc := ⟨_, rfl⟩
      have hcnt := HST.out.2.2.2
      go_wp2_with fail
      go_loopw [17, 68] (fun v i wr => ∃ (q : Nat) (va : Option Addr) (vc : Nat) (sv jv nv : Value), i = .int .i64 q ∧ q ≤ j ∧ v = .slice va q vc ∧ Hid (Rec wr Z 30 #[.nilIface, sv, jv, nv]) ∧ Hid (EntO wr Z (catAll ((pop.take q).map (·.T)) Pl.nil) sv jv nv) ∧ Hid (wr.ownsRow Z 25 1 (.slice va q vc) q ((pop.take q).map (·.p))) ∧ Hid (Below Z W0 wr)) (fun _ i _ => j - (intOf i).toNat)
      case atStart => exact ⟨0, pa, pc, _, _, _, rfl, by omega, rfl, HRE2, ⟨World.ownsRow_nil _ _ _ _, World.ownsRow_nil _ _ _ _, World.ownsRow_nil _ _ _ _⟩, HOP2, HB2⟩
      case round =>
        obtain ⟨q, va, vc, sv, jv, nv, rfl, hq, rfl, HRE, HEO, HOP, HBZ⟩ := hrel
        clear HRE2 HOP2 HB2
        by_cases hqj : q < j
        · skip
          have hqj' : (q : Int) < (j : Int) := by omega
          obtain ⟨g, rfl, rfl⟩ := HSA.out (by omega)
          obtain ⟨Ec, hEc⟩ : ∃ Ec, pop[q]? = some Ec := ⟨_, List.getElem?_eq_getElem (by have := HPOP.out; omega)⟩
          have hst2 : St W0 N (.slice (some ⟨g, 0, none⟩) (L + j) c) ((pre ++ pop.take q) ++ Ec :: pop.drop (q + 1)) (2 * k) (2 * k) k := by
            rw [List.append_assoc, ← split_at' hEc]; exact HST.out
          obtain ⟨-, g', cur, hg', -, hrec, -, -, -, p0, p1, p2, p3⟩ := hst2.at
          injection hg' with hg'
          injection hg' with hg'
          subst hg'
          obtain ⟨ty, pb, sa, sc, ja, jq, na, nq, T, d, rfl, hok, hmem⟩ := hst2.open
          have HSML : Hid (Sml T) := sml_of hst2.2.2.2 hmem hok.2 (by omega) (by omega) (by omega)
          rw [show (pre ++ pop.take q).length * 4 = L * 4 + q * 4 by have h1 := HLL.out; have h2 := HPOP.out; simp [List.length_take]; omega] at p0 p1 p2 p3
          simp only at p0 p1 p2 p3
          have hrecr : Rec wr g 30 cur := (HBZ.out.block g (by rw [← hZ]; exact hrec.lt)).trans hrec
          have t0 := rec_cell hrecr _ _ p0
          have t1 := rec_cell hrecr _ _ p1
          have t2 := rec_cell hrecr _ _ p2
          have t3 := rec_cell hrecr _ _ p3
          have hkW : Kept W0 wr := Kept.below (by rw [hZ]; exact HBZ.out)
          have hct := cnt_take hcnt q
          obtain ⟨T1, hT1⟩ : ∃ T1, catAll ((pop.take q).map (·.T)) Pl.nil = T1 := ⟨_, rfl⟩
          rw [hT1] at hct
          have HEO1 : Hid (EntO wr Z T1 sv jv nv) := by rw [← hT1]; exact HEO
          have HT1 : Hid (catAll ((pop.take q).map (·.T)) Pl.nil = T1) := hT1
          have HEC : Hid (pop[q]? = some ⟨.iface ty (.pointer (some ⟨pb, 0, none⟩)), .slice sa T.s.length sc, .slice ja T.j.length jq, .slice na T.n.length nq, T⟩) := hEc
          obtain ⟨w3, hw3⟩ : ∃ w3, wr.alloc (.cells #[.iface ty (.pointer (some ⟨pb, 0, none⟩)), .slice sa T.s.length sc, .slice ja T.j.length jq, .slice na T.n.length nq] 30) = w3 := ⟨_, rfl⟩
          have hb3 : Below wr.heap.size wr w3 := by rw [← hw3]; exact (Below.refl _ wr).alloc (Nat.le_refl _) _
          have hk3 : Kept wr w3 := Kept.below hb3
          have hcat := cat_any T1 T .nilIface (.iface ty (.pointer (some ⟨pb, 0, none⟩))) sv jv nv _ _ _ rfl rfl w3 (HEO1.out.row.keep hk3) ((hok.1.keep hkW).keep hk3) (by omega) (by omega) (by omega) HSML.out.1 HSML.out.2.1 HSML.out.2.2.1 HSML.out.2.2.2
          have hZ3 : Rec w3 Z 30 #[.nilIface, sv, jv, nv] := by rw [← hw3]; exact HRE.out.alloc _
          have hY3 : Rec w3 wr.heap.size 30 #[.iface ty (.pointer (some ⟨pb, 0, none⟩)), .slice sa T.s.length sc, .slice ja T.j.length jq, .slice na T.n.length nq] := by rw [← hw3]; exact rec_new _ _ _
          have z0 := rec_cell hZ3 0 _ rfl
          have z1 := rec_cell hZ3 1 _ rfl
          have z2 := rec_cell hZ3 2 _ rfl
          have z3 := rec_cell hZ3 3 _ rfl
          have y0 := rec_cell hY3 0 _ rfl
          have y1 := rec_cell hY3 1 _ rfl
          have y2 := rec_cell hY3 2 _ rfl
          have y3 := rec_cell hY3 3 _ rfl
          have HW3 : Hid (wr.alloc (.cells #[.iface ty (.pointer (some ⟨pb, 0, none⟩)), .slice sa T.s.length sc, .slice ja T.j.length jq, .slice na T.n.length nq] 30) = w3) := hw3
          obtain ⟨Y, hY⟩ : ∃ Y, wr.heap.size = Y := ⟨_, rfl⟩
          rw [hY] at y0 y1 y2 y3
          clear hst2 hrec hrecr hok hmem p0 p1 p2 p3 hct hT1 hEc hw3 hb3 hk3 hkW hZ3 hY3 HEO
          go_upto_region 16 with fail
          rw [HW3.out]
          go_upto_region 17 with (go_at_call 5; refine hcat.mono ?_; rintro e w4 ⟨sv4, jv4, nv4, rfl, ho4, hb4⟩; have hshp := ho4; obtain ⟨hsh1, hsh2, hsh3⟩ := hshp; obtain ⟨xa, xc, rfl⟩ := own_shape hsh1; obtain ⟨ya, yc, rfl⟩ := own_shape hsh2; obtain ⟨za, zc, rfl⟩ := own_shape hsh3; clear hsh1 hsh2 hsh3; have hks := kid_step HRE.out HOP.out HBZ.out (by rw [HW3.out]; exact ho4) (by rw [HW3.out]; exact hb4); rw [hY] at hks; have HKS : Hid _ := hks; have hz4 := hks.1; have v0 := rec_cell hz4 0 _ rfl; have v1 := rec_cell hz4 1 _ rfl; have v2 := rec_cell hz4 2 _ rfl; have v3 := rec_cell hz4 3 _ rfl; have f0 := frozen_of_row w4 Z 0 _ _ hz4; have f1 := frozen_of_row w4 Z 1 _ _ hz4; have f2 := frozen_of_row w4 Z 2 _ _ hz4; have f3 := frozen_of_row w4 Z 3 _ _ hz4; clear hz4 hks ho4 hb4)
          obtain ⟨w5, hw5⟩ : ∃ w5, set4 w4 Z .nilIface (.slice xa (T1.cat T).s.length xc) (.slice ya (T1.cat T).j.length yc) (.slice za (T1.cat T).n.length zc) = w5 := ⟨_, rfl⟩
          rw [hw5] at HKS
          have hs5 : w4.heap.size = w5.heap.size := by rw [← hw5, set4_size]
          rw [hs5] at HKS
          unfold set4 at hw5
          rw [hw5]
          have y0 := rec_cell HKS.out.2.1 0 _ rfl
          obtain ⟨V, hV⟩ : ∃ V, w5.heap.size = V := ⟨_, rfl⟩
          rw [hV] at HKS
          clear hw5 hs5 hcat v0 v1 v2 v3 f0 f1 f2 f3 y1 y2 y3 z0 z1 z2 z3 t0 t1 t2 t3
          go_wp2_with (at_builtin; refine app_row row48 Z _ q _ rfl HKS.out.2.2.1 _ 1 _ rfl HKS.out.2.2.2.1 (by intro u hu; simp only [List.mem_singleton] at hu; subst hu; rfl) (by omega) HKS.out.2.2.2.2.1 ?_; intro v' w7 ho7 hg7 hv7; obtain ⟨va', vc', rfl⟩ := hv7; have hfin := HKS.out.2.2.2.2.2 _ _ ho7 hg7; have HFIN : Hid _ := hfin; have HO7 : Hid _ := ho7; clear hfin ho7 hg7)
          obtain ⟨e1, e2⟩ := take_succ_ent HEC.out
          refine ⟨⟨q + 1, va', vc', _, _, _, by simp, by omega, rfl, HFIN.out.1, ?_, ?_, HFIN.out.2.2⟩, by simp [intOf]; omega⟩
          · rw [e1, HT1.out]; exact HFIN.out.2.1
          · rw [e2]; exact HO7.out
        · obtain rfl : q = j := by omega
          have htk : pop.take q = pop := List.take_of_length_le (by have := HPOP.out; omega)
          rw [htk] at HEO HOP
          obtain ⟨Y, hY⟩ : ∃ Y, wr.heap.size = Y := ⟨_, rfl⟩
          have hns := node_step hY HRE.out HEO.out HOP.out HBZ.out
          have hshp := HEO.out
          obtain ⟨hsh1, hsh2, hsh3⟩ := hshp
          obtain ⟨xa, xc, rfl⟩ := own_shape hsh1
          obtain ⟨ya, yc, rfl⟩ := own_shape hsh2
          obtain ⟨za, zc, rfl⟩ := own_shape hsh3
          obtain ⟨TT, hTT⟩ : ∃ TT, catAll (pop.map (·.T)) Pl.nil = TT := ⟨_, rfl⟩
          have HTT : Hid (catAll (pop.map (·.T)) Pl.nil = TT) := hTT
          rw [hTT] at hns hsh1 hsh2 hsh3 HEO HRE
          obtain ⟨w1, hw1⟩ : ∃ w1, (wr.alloc (.cells #[.int .i64 0] 3)).alloc (.cells #[.slice va q vc, .pointer (some ⟨Y, 0, none⟩)] 52) = w1 := ⟨_, rfl⟩
          simp only [hw1] at hns
          obtain ⟨w2, hw2⟩ : ∃ w2, w1.setCell ⟨Z, 0, none⟩ (.iface 49 (.pointer (some ⟨Y + 1, 0, none⟩))) = w2 := ⟨_, rfl⟩
          simp only [hw2] at hns
          obtain ⟨m1, m2, m3, m4, m5, m6, m7⟩ := hns
          have HM4 : Hid (World.ownsRow (w2.alloc (.cells #[.pointer (some ⟨Y + 1, 0, none⟩)] 49)) Z 49 1 (.slice za TT.n.length zc) TT.n.length (TT.n.map fun p => pt p.1)) := m4
          have HM5 : Hid (RowR (w2.alloc (.cells #[.pointer (some ⟨Y + 1, 0, none⟩)] 49)) 49 1 (.slice (some ⟨Y + 1 + 1, 0, none⟩) 1 1) 1 [.pointer (some ⟨Y + 1, 0, none⟩)]) := m5
          have HM6 : Hid (Z ≤ (w2.alloc (.cells #[.pointer (some ⟨Y + 1, 0, none⟩)] 49)).heap.size) := m6
          have HM7 : Hid _ := m7
          have HM2 : Hid (Rec w2 Z 30 #[.iface 49 (.pointer (some ⟨Y + 1, 0, none⟩)), .slice xa TT.s.length xc, .slice ya TT.j.length yc, .slice za TT.n.length zc]) := m2
          have z0 := rec_cell m1 0 _ rfl
          have f0 := frozen_of_row w1 Z 0 _ _ m1
          have HW1 : Hid ((wr.alloc (.cells #[.int .i64 0] 3)).alloc (.cells #[.slice va q vc, .pointer (some ⟨Y, 0, none⟩)] 52) = w1) := hw1
          have HW2 : Hid (w1.setCell ⟨Z, 0, none⟩ (.iface 49 (.pointer (some ⟨Y + 1, 0, none⟩))) = w2) := hw2
          clear m1 m2 m4 m5 m6 m7 hsh1 hsh2 hsh3 hTT hw1 hw2 htk
          go_upto_region 20 with fail
          rw [HW1.out]
          go_upto_region 21 with fail
          rw [HW2.out]
          have u3 := rec_cell HM2.out 3 _ rfl
          clear z0 f0
          have hTn : TT.n.length ≤ 100000 := by
            have h1 := (cnt_take hcnt q).2.2
            rw [List.take_of_length_le (by have := HPOP.out; omega), HTT.out] at h1
            omega
          have hTb : TT.n.length + 1 ≤ 1000000000 := by omega
          have hZY : Z ≤ Y := by have := HBZ.out.size; omega
          go_upto_region 22 with (at_builtin; refine app_row row28 Z (.slice za TT.n.length zc) TT.n.length (TT.n.map fun p => pt p.1) rfl HM4.out (.slice (some ⟨Y + 1 + 1, 0, none⟩) 1 1) 1 [.pointer (some ⟨Y + 1, 0, none⟩)] rfl HM5.out (by intro u hu; simp only [List.mem_singleton] at hu; subst hu; rfl) hTb HM6.out ?_; intro v' w4 ho4 hg4 hv4; obtain ⟨va4, vc4, rfl⟩ := hv4; have hfin := HM7.out _ _ ho4 hg4; have hz4 := hfin.1; have v3 := rec_cell hz4 3 _ rfl; have f3 := frozen_of_row w4 Z 3 _ _ hz4; have HZ5 : Hid _ := hfin.2.1; have HP : Hid _ := node_push HST.out hszr HLL.out HPOP.out hj2 hZ hZY HTT.out hfin.2; clear hfin ho4 hg4 hz4)
          obtain ⟨w5, hw5⟩ : ∃ w5, w4.setCell ⟨Z, 3, none⟩ (.slice va4 (TT.n.length + 1) vc4) = w5 := ⟨_, rfl⟩
          rw [hw5] at HP HZ5
          rw [hw5]
          have w50 := rec_cell HZ5.out 0 _ rfl
          have w51 := rec_cell HZ5.out 1 _ rfl
          have w52 := rec_cell HZ5.out 2 _ rfl
          have w53 := rec_cell HZ5.out 3 _ rfl
          have hwL : IntKind.i64.wrap (L : Int) = (L : Int) := wrapL L (by omega)
          have hLb : L + 1 ≤ 1000000000 := by omega
          have hL0 : (0 : Int) ≤ (L : Int) := by omega
          clear hw5 v3 f3 u3
          cases ao with
          | none =>
            have hmj : L + q = 0 ∧ c = 0 := by
              rcases HST.out.1.2 with ⟨h1, h2⟩ | ⟨_, _, _, h1, _⟩
              · injection h1 with _ h1 h3; exact ⟨h1, h3⟩
              · cases h1
            obtain ⟨rfl, rfl⟩ : L = 0 ∧ q = 0 := by omega
            obtain ⟨_, rfl⟩ := hmj
            have hw0 : IntKind.i64.wrap (0 : Int) = 0 := by simpa using wrapL 0 (by omega)
            go_region_law (refine app_step row23 rfl (.tmp 99) (.tmp 101) rfl N (.slice none 0 0) 0 _ (by rfl) HP.out.1 (.slice (some ⟨w5.heap.size, 0, none⟩) 1 1) _ (by rfl) HP.out.2.1 HP.out.2.2.2.1 (by decide) HP.out.2.2.1 ?_; intro g6 c6 w6 ho6 hg6; have hfin := HP.out.2.2.2.2 _ _ ho6 hg6; have HFIN : Hid _ := hfin; clear hfin ho6 hg6)
            all_goals
              go_wp2_with fail
              unfold RR; exact ⟨k + 1, _, by simp, by omega, ⟨_, _, _, rfl⟩, St.mono HFIN.out.1 (by omega) (by omega) (by omega), HBL.out.trans HFIN.out.2⟩
          | some ad =>
            obtain ⟨g, hg, hcp⟩ : ∃ g, ad = ⟨g, 0, none⟩ ∧ L + q ≤ c := by
              rcases HST.out.1.2 with ⟨h1, h2⟩ | ⟨g, _, _, h1, _, _, h2, _⟩
              · cases h1
              · injection h1 with h1 h3 h4
                injection h1 with h1
                subst h4
                exact ⟨g, h1, by rw [h3]; exact h2⟩
            subst hg
            have hLc : (L : Int) ≤ (c : Int) := by omega
            go_region_law (refine app_step row23 rfl (.tmp 99) (.tmp 101) rfl N (.slice (some ⟨g, 0, none⟩) L c) L _ (by rfl) HP.out.1 (.slice (some ⟨w5.heap.size, 0, none⟩) 1 1) _ (by rfl) HP.out.2.1 HP.out.2.2.2.1 hLb HP.out.2.2.1 ?_; intro g6 c6 w6 ho6 hg6; have hfin := HP.out.2.2.2.2 _ _ ho6 hg6; have HFIN : Hid _ := hfin; clear hfin ho6 hg6)
            all_goals
              go_wp2_with fail
              unfold RR; exact ⟨k + 1, _, by simp, by omega, ⟨_, _, _, rfl⟩, St.mono HFIN.out.1 (by omega) (by omega) (by omega), HBL.out.trans HFIN.out.2⟩
end Go.Proofs.Ybulkedqq
