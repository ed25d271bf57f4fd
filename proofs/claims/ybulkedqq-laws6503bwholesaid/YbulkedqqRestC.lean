import Derived.Test.YbulkedqqPart
namespace Go.Proofs.Ybulkedqq
open Go.RowKit
set_option linter.unusedVariables false
attribute [local go_sem] Go.wp_at_zero Go.wp_at_succ

set_option maxRecDepth 20000 in
set_option maxHeartbeats 4000000 in
theorem restC (n N : Nat) (first : Int) (w wc : World) (hn : n ≤ 4096) (hf0 : -9223372036854775808 ≤ first) (hf1 : first ≤ 9223372036854775807) (hN : w.heap.size = N) (E : Ent) (g c2 : Nat) (HST2 : Hid (St wc N (.slice (some ⟨g, 0, none⟩) 1 c2) [E] (2 * n) (2 * n + 1) (n + 1))) (HBL2 : Hid (Below N w wc)) (sl0 sl2 sl3 sl4 sl6 sl7 sl8 sl9 sl10 sl11 sl12 sl13 sl14 sl15 sl16 sl17 sl18 sl19 sl20 sl21 sl22 sl23 sl24 sl25 sl26 sl27 sl28 sl29 sl30 sl31 sl32 sl33 sl34 sl35 sl36 sl37 sl38 sl39 sl40 sl41 sl42 sl43 sl44 sl45 sl46 sl47 sl48 sl49 sl50 sl51 sl52 sl53 sl54 sl55 sl56 sl57 sl58 sl59 sl60 sl61 sl62 sl63 sl64 sl65 sl66 sl67 sl68 sl69 sl70 sl71 sl72 sl73 sl74 sl75 sl76 sl77 sl78 sl79 sl80 sl81 sl82 sl83 sl84 sl85 sl86 sl87 sl88 sl89 sl90 sl91 sl92 sl93 sl94 sl95 sl96 sl97 sl98 sl99 sl100 sl101 sl102 sl103 sl104 sl105 sl106 sl107 sl108 sl109 sl110 sl111 sl112 sl113 sl114 sl115 sl116 sl117 sl118 sl119 sl120 sl121 sl122 sl123 sl124 sl125 sl126 sl127 sl128 sl129 sl130 sl131 sl132 sl133 sl134 sl135 sl136 sl137 sl138 sl139 sl140 sl141 sl142 sl143 sl144 sl145 sl146 sl147 sl148 sl149 sl150 sl151 sl152 sl153 sl154 sl155 sl156 sl157 sl158 sl159 sl160 sl161 sl162 sl163 sl164 sl165 sl166 sl167 sl168 sl169 sl170 sl171 sl172 sl173 sl174 sl175 sl176 sl177 sl178 sl179 sl180 sl181 sl182 sl183 sl184 sl185 sl186 sl187 sl188 sl189 sl190 sl191 sl192 sl193 sl194 sl195 sl196 sl197 sl198 sl199 sl200 sl201 sl202 sl203 sl204 sl205 sl206 sl207 sl208 sl209 sl210 sl211 sl212 sl213 sl214 sl215 sl216 sl217 sl218 sl219 sl220 sl221 sl222 sl223 sl224 sl225 sl226 sl227 sl228 sl229 sl230 sl231 sl232 sl233 sl234 sl235 sl236 sl237 sl238 sl239 sl240 sl241 sl242 sl243 sl244 sl245 sl246 sl247 sl248 sl249 sl250 sl251 sl252 sl253 sl254 sl255 sl256 sl257 sl258 sl259 sl260 sl261 sl262 sl263 sl264 sl265 sl266 sl267 sl268 sl269 sl270 sl271 sl272 sl273 sl274 sl275 sl276 sl277 sl278 sl279 sl280 sl281 sl282 sl283 sl284 sl285 sl286 sl287 sl288 sl289 sl290 sl291 sl292 sl293 sl294 sl295 sl296 sl297 sl298 sl299 sl300 sl301 sl302 sl303 sl304 sl305 sl306 sl307 sl308 sl309 sl310 sl311 sl312 sl313 sl314 sl315 sl316 sl317 sl318 sl319 sl320 sl321 sl322 sl323 sl324 sl325 sl326 sl327 sl328 sl329 sl330 sl331 sl332 sl333 sl334 sl335 sl336 sl337 sl338 sl339 sl340 sl341 sl342 sl343 sl344 sl345 sl346 sl347 sl348 sl349 sl350 sl351 sl352 sl353 sl354 sl355 sl356 sl357 sl358 sl359 sl360 sl361 sl362 sl363 sl364 sl365 sl366 sl367 sl368 sl369 sl370 sl371 sl372 sl373 sl374 sl375 : Value) :
    Code.wp Yba.prog (sq2 (sq2 (sq2 (sq2 (sq2 (sq2 (Yba.f3.body.getD .skip))))))) (bodyPost Yba.prog Yba.f3 fun e w' => e = .returned (.bool true) ∧ Below w.heap.size w w') ⟨#[sl0, .int .i64 first, sl2, sl3, sl4, .slice (some ⟨g, 0, none⟩) 1 c2, sl6, sl7, sl8, sl9, sl10, sl11, sl12, sl13, sl14, sl15, sl16, sl17, sl18, sl19, sl20, sl21, sl22, sl23, sl24, sl25, sl26, sl27, sl28, sl29, sl30, sl31, sl32, sl33, sl34, sl35, sl36, sl37, sl38, sl39, sl40, sl41, sl42, sl43, sl44, sl45, sl46, sl47, sl48, sl49, sl50, sl51, sl52, sl53, sl54, sl55, sl56, sl57, sl58, sl59, sl60, sl61, sl62, sl63, sl64, sl65, sl66, sl67, sl68, sl69, sl70, sl71, sl72, sl73, sl74, sl75, sl76, sl77, sl78, sl79, sl80, sl81, sl82, sl83, sl84, sl85, sl86, sl87, sl88, sl89, sl90, sl91, sl92, sl93, sl94, sl95, sl96, sl97, sl98, sl99, sl100, sl101, sl102, sl103, sl104, sl105, sl106, sl107, sl108, sl109, sl110, sl111, sl112, sl113, sl114, sl115, sl116, sl117, sl118, sl119, sl120, sl121, sl122, sl123, sl124, sl125, sl126, sl127, sl128, sl129, sl130, sl131, sl132, sl133, sl134, sl135, sl136, sl137, sl138, sl139, sl140, sl141, sl142, sl143, sl144, sl145, sl146, sl147, sl148, sl149, sl150, sl151, sl152, sl153, sl154, sl155, sl156, sl157, sl158, sl159, sl160, sl161, sl162, sl163, sl164, sl165, sl166, sl167, sl168, sl169, sl170, sl171, sl172, sl173, sl174, sl175, sl176, sl177, sl178, sl179, sl180, sl181, sl182, sl183, sl184, sl185, sl186, sl187, sl188, sl189, sl190, sl191, sl192, sl193, sl194, sl195, sl196, sl197, sl198, sl199, sl200, sl201, sl202, sl203, sl204, sl205, sl206, sl207, sl208, sl209, sl210, sl211, sl212, sl213, sl214, sl215, sl216, sl217, sl218, sl219, sl220, sl221, sl222, sl223, sl224, sl225, sl226, sl227, sl228, sl229, sl230, sl231, sl232, sl233, sl234, sl235, sl236, sl237, sl238, sl239, sl240, sl241, sl242, sl243, sl244, sl245, sl246, sl247, sl248, sl249, sl250, sl251, sl252, sl253, sl254, sl255, sl256, sl257, sl258, sl259, sl260, sl261, sl262, sl263, sl264, sl265, sl266, sl267, sl268, sl269, sl270, sl271, sl272, sl273, sl274, sl275, sl276, sl277, sl278, sl279, sl280, sl281, sl282, sl283, sl284, sl285, sl286, sl287, sl288, sl289, sl290, sl291, sl292, sl293, sl294, sl295, sl296, sl297, sl298, sl299, sl300, sl301, sl302, sl303, sl304, sl305, sl306, sl307, sl308, sl309, sl310, sl311, sl312, sl313, sl314, sl315, sl316, sl317, sl318, sl319, sl320, sl321, sl322, sl323, sl324, sl325, sl326, sl327, sl328, sl329, sl330, sl331, sl332, sl333, sl334, sl335, sl336, sl337, sl338, sl339, sl340, sl341, sl342, sl343, sl344, sl345, sl346, sl347, sl348, sl349, sl350, sl351, sl352, sl353, sl354, sl355, sl356, sl357, sl358, sl359, sl360, sl361, sl362, sl363, sl364, sl365, sl366, sl367, sl368, sl369, sl370, sl371, sl372, sl373, sl374, sl375], []⟩ wc := by
  conv => arg 2; whnf
  obtain ⟨-, g', cur, hg', -, hrec, -, hc1, -, p0, p1, p2, p3⟩ := HST2.out.at (pre := []) (E := E) (post := [])
  injection hg' with hg'
  injection hg' with hg'
  subst hg'
  obtain ⟨ty, pb, sa, sc, ja, jq, na, nq, T, d, rfl, hok, hmem⟩ := HST2.out.open (pre := []) (E := E) (post := [])
  have HSML : Hid (Sml T) := sml_of HST2.out.2.2.2 hmem hok.2 (by omega) (by omega) (by omega)
  have HOK : Hid (EntOK wc d ⟨.iface ty (.pointer (some ⟨pb, 0, none⟩)), .slice sa T.s.length sc, .slice ja T.j.length jq, .slice na T.n.length nq, T⟩) := hok
  have HGD : Hid (Good wc N [T]) := HST2.out.2.2.1
  simp only [List.length_nil, Nat.zero_mul, Nat.zero_add] at p0 p1 p2 p3
  have t0 := rec_cell hrec _ _ p0
  have t1 := rec_cell hrec _ _ p1
  have t2 := rec_cell hrec _ _ p2
  have t3 := rec_cell hrec _ _ p3
  obtain ⟨Z, hZ⟩ : ∃ Z, wc.heap.size = Z := ⟨_, rfl⟩
  have hgZ : g < Z := by rw [← hZ]; exact hrec.lt
  have hNZ : N ≤ Z := by have := HBL2.out.size; omega
  clear hok hmem hrec p0 p1 p2 p3 HST2
  have hmk := fun (t : TypeId) (w : World) => run_makeMap (P := Yba.prog) t w
  go_upto_region 58 with fail
  obtain ⟨w1, hw1⟩ : ∃ w1, optW wc #[.iface ty (.pointer (some ⟨pb, 0, none⟩)), .slice sa T.s.length sc, .slice ja T.j.length jq, .slice na T.n.length nq] Z = w1 := ⟨_, rfl⟩
  have hom := opt_made (box := #[.iface ty (.pointer (some ⟨pb, 0, none⟩)), .slice sa T.s.length sc, .slice ja T.j.length jq, .slice na T.n.length nq]) hZ hNZ HGD.out
  rw [hw1] at hom
  unfold optW optCells at hw1
  rw [hw1]
  obtain ⟨hb1, hbox, hM1, hM2, hO1, hF1, hcn, hs1⟩ := hom
  have hk1 : Kept wc w1 := Kept.below (by rw [hZ]; exact hb1)
  have hent1 := HOK.out.1.keep hk1
  have hnum := number_any d w1 (.iface ty (.pointer (some ⟨pb, 0, none⟩))) T (Z + 3) (Z + 1) (Z + 2) first [] [] (HOK.out.2.keep hk1) hO1 hM1 hM2 (by omega) hF1
  have hwf : wrap64 first = first := by unfold wrap64; omega
  rw [hwf] at hnum
  have HNUM : Hid (Calls Yba.prog 7 #[.pointer (some ⟨Z + 1 + 1 + 1, 0, none⟩), .iface ty (.pointer (some ⟨pb, 0, none⟩)), .int .i64 first] w1 fun e w2 => e = .returned (.int .i64 (wrap64 (first + T.s.length))) ∧ After w1 w2 Z N first T (.iface ty (.pointer (some ⟨pb, 0, none⟩))) (.slice sa T.s.length sc) (.slice ja T.j.length jq) (.slice na T.n.length nq)) := by
    show Calls Yba.prog 7 _ w1 _
    exact hnum.mono (fun e w' h => ⟨h.1, after_num hM1 hM2 hO1 hF1 hbox hent1 hNZ hcn h⟩)
  have z0 := rec_cell hbox 0 _ rfl
  have hnds : (T.s).Nodup := by have := hF1.2.1; simpa using this
  have hndj : (T.j.map (·.1)).Nodup := by have := hF1.2.2.2.1; simpa using this
  have HNS : Hid (T.s.Nodup) := hnds
  have HNJ : Hid ((T.j.map (·.1)).Nodup) := hndj
  have hbw1 : Below N w w1 := HBL2.out.trans (hb1.mono hNZ)
  clear hw1 hbox hM1 hM2 hO1 hF1 hk1 hent1 hnum hnds hndj hcn t0 t1 t2 t3
  go_upto_region 59 with (go_at_call 7; refine HNUM.out.mono ?_; rintro e w2 ⟨rfl, h2⟩; have HA : Hid (After w1 w2 Z N first T (.iface ty (.pointer (some ⟨pb, 0, none⟩))) (.slice sa T.s.length sc) (.slice ja T.j.length jq) (.slice na T.n.length nq)) := h2; clear h2)
  obtain ⟨hbx, hop, hent, hms, hmj, hct, hkp, hbl12, htg, htj⟩ := HA.out
  obtain ⟨l1, hl1⟩ : ∃ l, T.s.length = l := ⟨_, rfl⟩
  obtain ⟨l2, hl2⟩ : ∃ l, T.j.length = l := ⟨_, rfl⟩
  obtain ⟨l3, hl3⟩ : ∃ l, T.n.length = l := ⟨_, rfl⟩
  have hl1' : l1 ≤ 100000 := by have := HSML.out.1; omega
  have hl2' : l2 ≤ 100000 := by have := HSML.out.2.1; omega
  have hl3' : l3 ≤ 100000 := by have := HSML.out.2.2.1; omega
  have HL1 : Hid (T.s.length = l1) := hl1
  have HL2 : Hid (T.j.length = l2) := hl2
  have HL3 : Hid (T.n.length = l3) := hl3
  have b1 := rec_cell hbx 1 _ rfl
  have b2 := rec_cell hbx 2 _ rfl
  have b3 := rec_cell hbx 3 _ rfl
  obtain ⟨oc, ho1, ho2, ho3⟩ := hop
  have o1 := rec_cell ho1 1 _ ho2
  have o3 := rec_cell ho1 3 _ ho3
  have hlen1 := fun q => run_len_map Yba.underlying54 hms q
  have hlen2 := fun q => run_len_map Yba.underlying55 hmj q
  rw [zS_len] at hlen1
  rw [zJ_len] at hlen2
  have hrS := hent.1
  have hrJ := hent.2.1
  have hrN := hent.2.2
  rw [hl1] at b1 hlen1 hrS
  rw [hl2] at b2 hlen2 hrJ
  rw [hl3] at b3 hrN
  rw [hl1, hl2, hl3] at HA
  rw [hl1]
  have HRS : Hid (RowR w2 32 1 (.slice sa l1 sc) l1 (T.s.map pt)) := hrS
  have HRJ : Hid (RowR w2 70 4 (.slice ja l2 jq) l2 (T.j.flatMap jc)) := hrJ
  have HRN : Hid (RowR w2 49 1 (.slice na l3 nq) l3 (T.n.map fun p => pt p.1)) := hrN
  have HMS : Hid (MapIs w2 (Z + 1) (zS first T.s)) := hms
  have HMJ : Hid (MapIs w2 (Z + 2) (zJ first T.j)) := hmj
  have HCT : Hid (∀ p ∈ T.n, Rec w2 p.2 3 #[.int .i64 1]) := hct
  have HTG : Hid (∀ s ∈ T.s, Tag w2 s 35) := htg
  have HTJ : Hid (∀ s ∈ T.j.map (·.1), Tag w2 s 81) := htj
  have HND : Hid (∀ p ∈ T.n, ∃ cs, Rec w2 p.1 52 cs ∧ cs[1]? = some (pt p.2)) := fun p hp => by
    obtain ⟨cs, h1, h2⟩ := HOK.out.2.nodes p hp
    exact ⟨cs, hkp _ _ _ (Kept.below (by rw [hZ]; exact hb1) _ _ _ h1 (by decide) (by decide)) (by decide) (by decide), h2⟩
  have hbw2 : Below N w w2 := hbw1.trans hbl12
  have hZs : Z + 3 < w2.heap.size := ho1.lt
  clear hbx hent hms hmj hct hkp hbl12 htg htj hrS hrJ hrN ho1 ho2 ho3 hl1 hl2 hl3 z0 HNUM hmk
  go_upto_region 61 with fail
  go_quiet (fail)
  go_wp2_with fail
  go_loopw [287] (fun i wr => ∃ k q : Nat, i = .int .i64 k ∧ k ≤ l1 ∧ wr = w2.drewN q) (fun i _ => l1 - (intOf i).toNat)
  case atStart => exact ⟨0, _, rfl, by omega, rfl⟩
  case round =>
    obtain ⟨k, q, rfl, hk, rfl⟩ := hrel
    by_cases hkl : k < l1
    · skip
      have hkl' : (k : Int) < (l1 : Int) := by omega
      obtain ⟨_, ao', cap', heq, _, hrow⟩ := HRS.out
      injection heq with e1 e2 e3
      subst e1
      obtain ⟨gs, cs, rfl, hrg, hcs⟩ := hrow (by omega)
      obtain ⟨sx, hsx⟩ : ∃ sx, T.s[k]? = some sx := ⟨_, List.getElem?_eq_getElem (by have := HL1.out; omega)⟩
      have ck := rec_cell hrg k _ (hcs k _ (by rw [List.getElem?_map, hsx]; rfl))
      have hlk := look_s HMS.out HTG.out HNS.out hsx q
      unfold pt at ck
      clear hrow hrg hcs hsx e2 e3
      go_wp2_with fail
      exact ⟨⟨k + 1, _, by simp, by omega, rfl⟩, by simp [intOf]; omega⟩
    · obtain rfl : k = l1 := by omega
      go_wp2_with fail
      go_quiet (fail)
      go_wp2_with fail
      go_loopw [323] (fun i wr => ∃ k : Nat, i = .int .i64 k ∧ k ≤ l2 ∧ Hid (Below w2.heap.size w2 wr)) (fun i _ => l2 - (intOf i).toNat)
      case atStart => exact ⟨0, rfl, by omega, ⟨rfl, rfl, rfl, Nat.le_refl _, fun _ _ => rfl⟩⟩
      case round =>
        obtain ⟨k2, rfl, hk2, HB2⟩ := hrel
        have o3r := (HB2.out.cell (p := ⟨Z + 3, 3, none⟩) (by simpa using hZs)).trans o3
        have b3r := (HB2.out.cell (p := ⟨Z, 3, none⟩) (by simp; omega)).trans b3
        by_cases hkl : k2 < l2
        · have hkl' : (k2 : Int) < (l2 : Int) := by omega
          obtain ⟨_, ao', cap', heq, _, hrow⟩ := HRJ.out.keep (Kept.below HB2.out) (by decide) (by decide)
          injection heq with e1 e2 e3
          subst e1
          obtain ⟨gj, cs, rfl, hrg, hcs⟩ := hrow (by omega)
          obtain ⟨⟨x0, x1, x2, x3⟩, hx⟩ : ∃ x, T.j[k2]? = some x := ⟨_, List.getElem?_eq_getElem (by have := HL2.out; omega)⟩
          obtain ⟨j0, j1, j2, j3⟩ := jc_at T.j k2 _ hx
          have d0 := rec_cell hrg (k2 * 4) _ (hcs _ _ j0)
          have d1 := rec_cell hrg (k2 * 4 + 1) _ (hcs _ _ j1)
          have d2 := rec_cell hrg (k2 * 4 + 2) _ (hcs _ _ j2)
          have d3 := rec_cell hrg (k2 * 4 + 3) _ (hcs _ _ j3)
          have hmem := List.mem_of_getElem? hx
          have hbw3 : Below w2.heap.size w2 (wr.alloc (.cells #[.pointer (some ⟨x0, 0, none⟩), .int .i64 x1, .int .i64 x2, .int .i64 x3] 70)).drew := (HB2.out.alloc HB2.out.size _).drew
          have hbw4 : Below w2.heap.size w2 ((wr.alloc (.cells #[.pointer (some ⟨x0, 0, none⟩), .int .i64 x1, .int .i64 x2, .int .i64 x3] 70)).alloc (.cells #[.int .i64 0, .int .i64 0, .int .i64 0, .int .i64 0] 73)).drew := ((HB2.out.alloc HB2.out.size _).alloc (by have := HB2.out.size; simp; omega) _).drew
          have hlk := look_j HMJ.out HTJ.out HNJ.out hmem hbw4
          have o3s := (hbw4.cell (p := ⟨Z + 3, 3, none⟩) (by simpa using hZs)).trans o3
          have hlk2 := look_j HMJ.out HTJ.out HNJ.out hmem hbw3
          have o3t := (hbw3.cell (p := ⟨Z + 3, 3, none⟩) (by simpa using hZs)).trans o3
          have hnq := fun w => neq73 (wrap64 (first + x1)) (wrap64 (first + x2)) (wrap64 (first + x2)) (wrap64 (first + x3)) w
          have hbd := HSML.out.2.2.2 _ hmem
          simp only [span4] at d0 d1 d2 d3 hbd hlk hlk2
          unfold pt at d0
          clear hrow hrg hcs j0 j1 j2 j3 hx hmem e2 e3
          have hZr : Z + 3 < wr.heap.size := by have := HB2.out.size; omega
          go_upto_region 75 with fail
          go_region
          all_goals
            go_wp2_with fail
            exact ⟨⟨k2 + 1, by simp, by omega, ((HB2.out.alloc HB2.out.size _).alloc (by have := HB2.out.size; simp; omega) _).drew⟩, by simp [intOf]; omega⟩
        · obtain rfl : k2 = l2 := by omega
          obtain ⟨W3, rfl⟩ : ∃ W3, W3 = wr := ⟨_, rfl⟩
          go_wp2_with fail
          go_loopw [364] (fun i wr => ∃ k : Nat, i = .int .i64 k ∧ k ≤ l3 ∧ wr = W3) (fun i _ => l3 - (intOf i).toNat)
          case atStart => exact ⟨0, rfl, by omega, rfl⟩
          case round =>
            obtain ⟨k3, rfl, hk3, rfl⟩ := hrel
            obtain ⟨W3, rfl⟩ : ∃ W3, W3 = wr := ⟨_, rfl⟩
            by_cases hkl : k3 < l3
            · have hkl' : (k3 : Int) < (l3 : Int) := by omega
              have hkW := Kept.below HB2.out
              obtain ⟨_, ao', cap', heq, _, hrow⟩ := HRN.out.keep hkW (by decide) (by decide)
              injection heq with e1 e2 e3
              subst e1
              obtain ⟨gn, cs, rfl, hrg, hcs⟩ := hrow (by omega)
              obtain ⟨⟨nb, cb⟩, hp⟩ : ∃ p, T.n[k3]? = some p := ⟨_, List.getElem?_eq_getElem (by have := HL3.out; omega)⟩
              have hmem := List.mem_of_getElem? hp
              have ck := rec_cell hrg k3 _ (hcs k3 _ (by rw [List.getElem?_map, hp]; rfl))
              obtain ⟨ncs, hn1, hn2⟩ := HND.out _ hmem
              have ck1 := rec_cell (hkW _ _ _ hn1 (by decide) (by decide)) 1 _ hn2
              have hcc := HCT.out _ hmem
              have ck2 := (HB2.out.cell (p := ⟨cb, 0, none⟩) hcc.lt).trans (rec_cell hcc 0 _ rfl)
              simp only at ck ck1 ck2
              unfold pt at ck ck1
              clear hrow hrg hcs hp hmem hn1 hn2 hcc e2 e3 hkW
              go_wp2_with fail
              exact ⟨⟨k3 + 1, by simp, by omega, by trivial⟩, by simp [intOf]; omega⟩
            · obtain rfl : k3 = l3 := by omega
              go_wp2_with fail
              go_ret
              exact ⟨rfl, by rw [hN]; exact hbw2.trans (HB2.out.mono (by have := hbw2.size; omega))⟩
end Go.Proofs.Ybulkedqq
