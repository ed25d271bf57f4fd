import Derived.Test.YbulkedrsCopy
import Derived.Deep.DeepCutAuto
namespace Go.Proofs.Ybulkedrs
open Go.RowKit
set_option linter.unusedVariables false
attribute [local go_sem] Go.wp_at_zero Go.wp_at_succ

theorem heap3_0 (w : World) (a b c : Obj) : (((w.alloc a).alloc b).alloc c).heap[w.heap.size]? = some a := by
  rw [Below.heap_alloc _ _ _ (by simp; omega)]; exact heap_alloc2_old w a b
theorem heap3_1 (w : World) (a b c : Obj) : (((w.alloc a).alloc b).alloc c).heap[w.heap.size + 1]? = some b := by
  rw [Below.heap_alloc _ _ _ (by simp)]; exact heap_alloc2_new w a b
theorem heap3_2 (w : World) (a b c : Obj) : (((w.alloc a).alloc b).alloc c).heap[w.heap.size + 2]? = some c := by
  have := heap_alloc_new ((w.alloc a).alloc b) c
  simpa using this

theorem ClC.lens {w : World} {g : Nat} {m p : Int} {f x : Bool} (h : ClC w g m p f x) : w.cell? ⟨g, 6, none⟩ = some (.string (mtS m)) ∧ w.cell? ⟨g, 15, none⟩ = some (.bool x) ∧ (∃ fv, w.cell? ⟨g, 14, none⟩ = some (.pointer fv) ∧ fv.isSome = f) ∧
    ∃ pv, w.cell? ⟨g, 13, none⟩ = some (.map pv) ∧ ∀ o q, (Builtin.len_ #[92] 3 #[.map pv]).run Yba.prog ((w.alloc o).drewN q) = .ok (.int .i64 (p % 4)) ((w.alloc o).drewN q) := by
  obtain ⟨h6, h15, h14, h13⟩ := h
  refine ⟨h6, h15, h14, ?_⟩
  rcases h13 with ⟨h0, h13⟩ | ⟨mb, es, c, h13, q, r, _⟩
  · refine ⟨none, h13, fun o q => ?_⟩
    simp [Builtin.len_, run_underlying Yba.underlying92, goInt, h0]
  · refine ⟨some mb, h13, fun o j => ?_⟩
    have hq : ((w.alloc o).drewN j).heap[mb]? = some (.map es c) := (Below.heap_alloc w o mb (Array.getElem?_eq_some_iff.1 q).1).trans q
    rw [run_len_map92 hq, r]

theorem neq_pp {tp te : TypeId} {P : Program} {j : TypeInfo} (hp : P.underlying tp = some (.pointer te)) (hte : P.info? te = some j) (a : Addr) (w : World) :
    (binOp .neq tp (.pointer (some a)) (.pointer (some a))).run P w = .ok (.bool false) w := by
  have h : ∀ d : Nat, (Op.equalIn (d + 1) tp (.pointer (some a)) (.pointer (some a))).run P w = .ok true w := fun d => by
    simp [Op.equalIn, run_underlying hp, sizeOf, typeInfo, hte, run_sameAddr_same]
  simp only [binOp]
  simp [Op.equal, Op.maxDepth, h 9999]
theorem info_is {t : TypeId} (h : (Yba.prog.info? t).isSome = true) : ∃ i, Yba.prog.info? t = some i := Option.isSome_iff_exists.1 h

set_option maxRecDepth 20000 in
set_option maxHeartbeats 4000000 in
theorem lawC (ad ac : Option Addr) (bs os n cs bc oc m cc : Nat) (S M P : Nat → Int) (F X : Nat → Bool) (w : World) (hnm : n + m ≤ 65536)
    (has : 0 < n → ad = some ⟨bs, os, none⟩) (hbs : 0 < n → bs < w.heap.size) (hac : 0 < m → ac = some ⟨bc, oc, none⟩) (hbc : 0 < m → bc < w.heap.size)
    (hS : ∀ i, i < n → w.cell? ⟨bs, os + i, none⟩ = some (.int .u8 (S i))) (hSr : ∀ i, 0 ≤ S i ∧ S i ≤ 255)
    (hM : ∀ i, i < m → w.cell? ⟨bc, oc + i * 4, none⟩ = some (.int .u8 (M i)) ∧ w.cell? ⟨bc, oc + i * 4 + 1, none⟩ = some (.int .u8 (P i)) ∧ w.cell? ⟨bc, oc + i * 4 + 2, none⟩ = some (.bool (F i)) ∧ w.cell? ⟨bc, oc + i * 4 + 3, none⟩ = some (.bool (X i)))
    (hMr : ∀ i, 0 ≤ M i ∧ M i ≤ 255) (hPr : ∀ i, 0 ≤ P i ∧ P i ≤ 255) :
    Calls Yba.prog 4 #[.slice ad n cs, .slice ac m cc] w fun e w' => e = .returned (.bool true) ∧ Below w.heap.size w w' := by
  obtain ⟨i0, hi, hz0, hz1, hz2⟩ := info_parts Yba.info65
  obtain ⟨i1, hi1, hy0, hy1, hy2⟩ := info_parts Yba.info89
  obtain ⟨i86, hi86⟩ := info_is (t := 86) (by kernel_rfl)
  obtain ⟨i94, hi94⟩ := info_is (t := 94) (by kernel_rfl)
  have hne65 := neq_pp Yba.underlying65 hi86
  have hne89 := neq_pp Yba.underlying89 hi94
  have hs65 : (Yba.prog.info? 65).map (·.size) = some 1 := by kernel_rfl
  have hs89 : (Yba.prog.info? 89).map (·.size) = some 1 := by kernel_rfl
  have hbig : ¬ (65536 : Int) < (n : Int) + (m : Int) := by omega
  have HS : Hid (∀ i, i < n → w.cell? ⟨bs, os + i, none⟩ = some (.int .u8 (S i))) := hS
  have HSr : Hid (∀ i, 0 ≤ S i ∧ S i ≤ 255) := hSr
  have HM : Hid (∀ i, i < m → w.cell? ⟨bc, oc + i * 4, none⟩ = some (.int .u8 (M i)) ∧ w.cell? ⟨bc, oc + i * 4 + 1, none⟩ = some (.int .u8 (P i)) ∧ w.cell? ⟨bc, oc + i * 4 + 2, none⟩ = some (.bool (F i)) ∧ w.cell? ⟨bc, oc + i * 4 + 3, none⟩ = some (.bool (X i))) := hM
  have HMr : Hid (∀ i, 0 ≤ M i ∧ M i ≤ 255) := hMr
  have HPr : Hid (∀ i, 0 ≤ P i ∧ P i ≤ 255) := hPr
  clear hS hSr hM hMr hPr
  go_enter Yba.func4, Yba.ntmps4
  go_wp2
  go_loopw [6] (fun i wr => ∃ (k : Nat) (vd : Value), k ≤ n ∧ i = .int .i64 k ∧ RunAt wr w.heap.size vd (.slice none 0 0) ∧ Dlgs wr (w.heap.size + 1) vd k S ∧ Below w.heap.size w wr) (fun i _ => n - (intOf i).toNat)
  case atStart =>
    refine ⟨0, .slice none 0 0, by omega, rfl, ⟨_, heap_alloc_new _ _, rfl, rfl, rfl⟩, ⟨[], rfl, World.ownsRow_nil _ _ _ _, fun i hi => by omega⟩, (Below.refl _ _).alloc (Nat.le_refl _) _⟩
  case round =>
    obtain ⟨k, vd, hk, rfl, hrun, hdl, hbel⟩ := hrel
    obtain ⟨r12, r10, rfz, rlt⟩ := hrun.cells
    by_cases hlt : k < n
    · obtain rfl := has (by omega)
      have c1 := (hbel.cell (p := ⟨bs, os + k, none⟩) (hbs (by omega))).trans (HS.out k hlt)
      obtain ⟨l, hl, hown, hds⟩ := hdl
      obtain ⟨ao, c, rfl⟩ := shapeOf hown
      have hlt' : (k : Int) < (n : Int) := by omega
      have hk0 : (0 : Int) ≤ (k : Int) := by omega
      obtain ⟨sr0, sr1⟩ := HSr.out k
      have hneR : (Value.slice ao k c).ownBlock ≠ some w.heap.size := run_ne hrun hown (by decide)
      have hneb : (Value.slice ao k c).ownBlock ≠ some bs := fun h => by have := (hown.lt _ h).1; have := hbs (by omega); omega
      have hB := hbel.size
      have hbw := hbs (by omega)
      have hbw1 : bs < wr.heap.size := by omega
      have hbw2 : bs < wr.heap.size + 1 := by omega
      have rlt2 : w.heap.size < wr.heap.size + 1 := by omega
      have f12 := rfz 12
      have HO : Hid (wr.ownsRow (w.heap.size + 1) 65 1 (.slice ao k c) k (l.map pt)) := hown
      have HR : Hid (RunAt wr w.heap.size (.slice ao k c) (.slice none 0 0)) := hrun
      have HDS : Hid (∀ i, i < k → Dl wr (l.getD i 0) (S i)) := hds
      clear hown hrun hds rfz
      go_wp2_with fail
      go_region_law (first
          | (refine step_append_lies _ (by rfl) _ _ _ (by rfl) (w.heap.size + 1) 65 i0 _ 1 8 Yba.underlying57 hi hz0 hz1 hz2 rfl (by omega) (.slice ao k c) k (l.map pt) (by rfl) ((HO.out.alloc _).alloc _).drew
              ⟨wr.heap.size + 1, 0, none⟩ 1 1 [pt wr.heap.size] (by rfl) (by rfl) (World.news_of_block (cs := #[pt wr.heap.size]) (t := 65) (fr := (0, 0)) (heap_alloc2_new wr _ _)) (by simp [Value.oneCell', pt])
              (by omega) (by unfold maxLen; omega) (by omega) (by simp; omega) (wr.heap.size + 2) (by simp) ?_
             intro gg cap w1 hown1 hgrow hat hlt1
             have g12 := (hgrow.cell_far ⟨w.heap.size, 12, none⟩ (by simp; omega) (Ne.symm hneR)).trans (sAlloc _ (by simp; omega) (by simp; omega) (sAlloc _ rlt hbw1 ⟨r12, c1, f12⟩)).1
             have gf12 := (hgrow.frozen_far ⟨w.heap.size, 12, none⟩ (by simp; omega) (Ne.symm hneR)).trans (sAlloc _ (by simp; omega) (by simp; omega) (sAlloc _ rlt hbw1 ⟨r12, c1, f12⟩)).2.2)
          | (refine step_call1 rfl 6 (.tmp 45) _ rfl _ Yba.func6 (by kernel_rfl) (by kernel_rfl) _ _ rfl (state_any _ _ sr0 sr1) ?_))
      all_goals
        go_wp2
        go_roundw
        case rel =>
          obtain ⟨q1, q2⟩ := dlg_step HR.out hl HO.out HDS.out rfl hgrow hown1
          exact ⟨k + 1, _, by omega, by go_num, q1, q2, ((((hbel.alloc hB _).alloc (by simp; omega) _).drew.grown hgrow (by simp; omega) (fun q hq => by have := (HO.out.lt q hq).1; omega)).setCell (Nat.le_refl _) _)⟩
        case measure => simp [intOf]; omega
    · obtain rfl : n = k := by omega
      have hB := hbel.size
      obtain ⟨_, _, hownd, _⟩ := id hdl
      obtain ⟨aod, cd, rfl⟩ := shapeOf hownd
      clear hownd
      have HRUN : Hid (RunAt wr w.heap.size (.slice aod n cd) (.slice none 0 0)) := hrun
      have HDL : Hid (Dlgs wr (w.heap.size + 1) (.slice aod n cd) n S) := hdl
      clear hrun hdl r12 r10 rfz
      go_wp2
      obtain ⟨wo, rfl⟩ : ∃ wo : World, wo = wr := ⟨_, rfl⟩
      go_loopw [7] (fun i wr => ∃ (k : Nat) (vc : Value), k ≤ m ∧ i = .int .i64 k ∧ RunAt wr w.heap.size (.slice aod n cd) vc ∧ Dlgs wr (w.heap.size + 1) (.slice aod n cd) n S ∧ Clis wr (w.heap.size + 1) vc k M P F X ∧ Below w.heap.size w wr) (fun i _ => m - (intOf i).toNat)
      case atStart =>
        exact ⟨0, .slice none 0 0, by omega, rfl, HRUN.out, HDL.out, ⟨[], rfl, World.ownsRow_nil _ _ _ _, fun i hi => by omega⟩, hbel⟩
      case round =>
        clear hbel hB rlt HRUN HDL
        obtain ⟨k, vc, hk, rfl, hrun, hdl, hcl, hbel⟩ := hrel
        obtain ⟨r12, r10, rfz, rlt⟩ := hrun.cells
        have hB := hbel.size
        by_cases hlt : k < m
        · obtain rfl := hac (by omega)
          have hbw := hbc (by omega)
          obtain ⟨m1, m2, m3, m4⟩ := HM.out k hlt
          have c1 := (hbel.cell (p := ⟨bc, oc + k * 4, none⟩) hbw).trans m1
          have c2 := (hbel.cell (p := ⟨bc, oc + k * 4 + 1, none⟩) hbw).trans m2
          have c3 := (hbel.cell (p := ⟨bc, oc + k * 4 + 2, none⟩) hbw).trans m3
          have c4 := (hbel.cell (p := ⟨bc, oc + k * 4 + 3, none⟩) hbw).trans m4
          clear m1 m2 m3 m4
          obtain ⟨l, hl, hown, hds⟩ := hcl
          obtain ⟨ao, c, rfl⟩ := shapeOf hown
          have hlt' : (k : Int) < (m : Int) := by omega
          have hk0 : (0 : Int) ≤ (k : Int) := by omega
          obtain ⟨mr0, mr1⟩ := HMr.out k
          obtain ⟨pr0, pr1⟩ := HPr.out k
          go_wp2_with fail
          go_region_held3 (fun w' => w'.cell? ⟨wr.heap.size, 0, none⟩ = some (.int .u8 (M k)) ∧ w'.cell? ⟨wr.heap.size, 3, none⟩ = some (.bool (X k)))
            (go_keep)
            (first | (go_at_call 7; refine (method_any _ _ mr0 mr1).mono ?_; rintro e w' ⟨rfl, rfl⟩))
          go_upto_if 75 with fail
          go_cut [] (fun wc => Below wr.heap.size wr wc ∧ Hid (wc.heap[wr.heap.size]? = some (.cells #[.int .u8 (M k), .int .u8 (P k), .bool (F k), .bool (X k)] 88 (0, 0))) ∧ Hid (Cl wc (wr.heap.size + 1) (M k) (P k) false (X k)))
          case rest =>
            obtain ⟨hwc, hcd, hcl⟩ := hcut
            have cF : wc.cell? ⟨wr.heap.size, 2, none⟩ = some (.bool (F k)) := cell_of_row wc _ 2 _ _ _ hcd.out
            have hHs : wr.heap.size + 1 < wc.heap.size := by
              obtain ⟨q, _, _, hq, _⟩ := hcl.out
              exact (Array.getElem?_eq_some_iff.1 hq).1
            have HO : Hid (wr.ownsRow (w.heap.size + 1) 89 1 (.slice ao k c) k (l.map pt)) := hown
            have HR : Hid (RunAt wr w.heap.size (.slice aod n cd) (.slice ao k c)) := hrun
            have HDL : Hid (Dlgs wr (w.heap.size + 1) (.slice aod n cd) n S) := hdl
            have HCS : Hid (∀ i, i < k → Cl wr (l.getD i 0) (M i) (P i) (F i) (X i)) := hds
            clear hown hrun hdl hds r12 r10 rfz c1 c2 c3 c4
            go_upto_if 92 with fail
            go_cut [] (fun wd => Below wr.heap.size wr wd ∧ Hid (Cl wd (wr.heap.size + 1) (M k) (P k) (F k) (X k)))
            case rest =>
              clear hcl hcd cF hwc hHs
              obtain ⟨hwd, hcl⟩ := hcut
              obtain ⟨r12, r10, rfz, rlt2⟩ := (HR.out.same (hwd.block _ rlt)).cells
              have f10 := rfz 10
              have hownc : wc.ownsRow (w.heap.size + 1) 89 1 (.slice ao k c) k (l.map pt) := ownsRow_keep (T := []) HO.out (Keep.of_below hwd) rfl
              have hneR : (Value.slice ao k c).ownBlock ≠ some w.heap.size := run_ne HR.out HO.out (by decide)
              have hsz := hwd.size
              have hBc : w.heap.size + 1 ≤ wc.heap.size := by omega
              have HOC : Hid (wc.ownsRow (w.heap.size + 1) 89 1 (.slice ao k c) k (l.map pt)) := hownc
              clear hownc rfz
              go_wp2_with (first | (at_builtin; refine wpList_append_lies _ rfl _ _ 55 rfl (w.heap.size + 1) 89 i1 (.pointer none) 1 8 Yba.underlying55 hi1 hy0 hy1 hy2 rfl (by omega) _ k (l.map pt) rfl (HOC.out.alloc _) _ 1 1 _ rfl rfl (cell_one_new _ _ _) ?h1 (by omega) (by unfold maxLen; omega) (by omega) (by simp; omega) (wc.heap.size + 1) (by simp) ?_))
              case h1 => simp [Value.oneCell']
              intro gg cap w1 hown1 hgrow hat hlt1
              have g10 := (hgrow.cell_far ⟨w.heap.size, 10, none⟩ (by simp; omega) (Ne.symm hneR)).trans ((World.cell?_alloc_past _ _ _ rlt2).trans r10)
              have gf10 := (hgrow.frozen_far ⟨w.heap.size, 10, none⟩ (by simp; omega) (Ne.symm hneR)).trans ((World.frozen?_alloc_past _ _ _ rlt2).trans f10)
              go_wp2
              go_roundw
              case rel =>
                obtain ⟨q1, q2, q3⟩ := cli_step HR.out HDL.out hl HO.out HCS.out hwd hcl.out hgrow hown1
                exact ⟨k + 1, _, by omega, by go_num, q1, q2, q3, (((hbel.trans (hwd.mono hB)).alloc (by omega) _).grown hgrow (by simp; omega) (fun q hq => by have := (HO.out.lt q hq).1; omega)).setCell (Nat.le_refl _) _⟩
              case measure => simp [intOf]; omega
            case first =>
              cases hF : F k with
              | true =>
                obtain ⟨hcf, ⟨v14, hc14⟩, hf14⟩ := hcl.out.fin ⟨wc.heap.size, 0, none⟩
                rw [hF] at cF
                have HF : Hid (F k = true) := hF
                have HCF : Hid (Cl (wc.setCell ⟨wr.heap.size + 1, 14, none⟩ (.pointer (some ⟨wc.heap.size, 0, none⟩))) (wr.heap.size + 1) (M k) (P k) true (X k)) := hcf
                clear hcf hF
                go_wp2
                go_meet
                case rel =>
                  rw [HF.out]
                  exact ⟨(hwc.setCell (by simp) _).alloc (by simp; omega) _, HCF.out.keep ((Keep.refl [] _).alloc _) rfl⟩
              | false =>
                rw [hF] at cF
                have HF : Hid (F k = false) := hF
                clear hF
                go_wp2
                go_meet
                case rel => rw [HF.out]; exact ⟨hwc, hcl⟩
          case first =>
            clear hown hds hdl hrun r12 r10 rfz
            by_cases hp : 0 < P k % 4
            · have hmm := @run_makeMap Yba.prog
              have hpd : decide (0 < P k % 4) = true := decide_eq_true hp
              rw [hpd]
              go_wp2
              clear hmm hpd
              obtain ⟨wb, rfl⟩ : ∃ wb : World, wb = wr := ⟨_, rfl⟩
              go_loopw [11] (fun i wr => ∃ j : Nat, (j : Int) ≤ P k % 4 ∧ i = .int .i64 j ∧ Below wb.heap.size wb wr ∧ Hid (wr.heap[wb.heap.size]? = some (.cells #[.int .u8 (M k), .int .u8 (P k), .bool (F k), .bool (X k)] 88 (0, 0))) ∧ Hid (ClM wr (wb.heap.size + 1) (wb.heap.size + 2) (M k) (X k) j)) (fun i _ => (P k % 4 - intOf i).toNat)
              case atStart =>
                refine ⟨0, by omega, rfl, ?_, ?_, ?_⟩
                · exact ((((Below.refl _ _).alloc (Nat.le_refl _) _).alloc (by simp) _).alloc (by simp; omega) _).drew
                · show _ = _
                  exact heap3_0 wb _ _ _
                · show ClM _ _ _ _ _ _
                  exact ⟨_, _, _, heap3_1 wb _ _ _, rfl, rfl, rfl, rfl, heap3_2 wb _ _ _, rfl, fun e he => by simp at he⟩
              case round =>
                obtain ⟨j, hj, rfl, hbq, hq88, hqm⟩ := hrel
                by_cases hjl : (j : Int) < P k % 4
                · obtain ⟨hc13, es, cl, hmb, hkeys, hnext⟩ := hqm.out.look
                  have HMB : Hid (wr.heap[wb.heap.size + 2]? = some (.map es cl)) := hmb
                  have HKE : Hid (∀ e ∈ es.toList, ∃ b : Int, e.key = .int .i64 b ∧ b ≠ 180 + (j : Int)) := hkeys
                  have HNX : Hid (ClM (Go.ChangeMaps.setBlock wr (wb.heap.size + 2) (.map (es.push { key := .int .i64 (180 + (j : Int)), val := .bool true, born := cl }) (cl + 1))) (wb.heap.size + 1) (wb.heap.size + 2) (M k) (X k) (j + 1)) := hnext
                  clear hmb hkeys hnext
                  go_wp2_with (first | (with_reducible refine upd92 (wb.heap.size + 2) es cl (180 + (j : Int)) (by with_unfolding_all exact rfl) (by with_unfolding_all exact rfl) HMB.out HKE.out ?_))
                  have hq88' : Hid ((Go.ChangeMaps.setBlock wr (wb.heap.size + 2) (.map (es.push { key := .int .i64 (180 + (j : Int)), val := .bool true, born := cl }) (cl + 1))).heap[wb.heap.size]? = some (.cells #[.int .u8 (M k), .int .u8 (P k), .bool (F k), .bool (X k)] 88 (0, 0))) := by
                    show _ = _
                    rw [Go.ChangeMaps.heap_setBlock_other HMB.out _ (by omega)]
                    exact hq88.out
                  go_roundw
                  case rel => exact ⟨j + 1, by omega, by go_num, below_setBlock hbq HMB.out (by omega) _, hq88', HNX.out⟩
                  case measure => simp [intOf]; omega
                · go_wp2
                  go_meet
                  case rel =>
                    exact ⟨hbq, hq88, hqm.out.cl (by omega) hp⟩
            · go_wp2
              go_meet
              case rel =>
                refine ⟨?_, ?_, ?_⟩
                · exact (((Below.refl _ _).alloc (Nat.le_refl _) _).alloc (by simp) _).drew
                · show _ = _
                  exact heap_alloc2_old wr _ _
                · show Cl _ _ _ _ _ _
                  exact ⟨_, none, none, heap_alloc2_new wr _ _, rfl, rfl, rfl, rfl, rfl, .inl ⟨by omega, rfl⟩⟩
        · obtain rfl : m = k := by omega
          obtain ⟨lc, hlc, hownc, hcs⟩ := hcl
          obtain ⟨aoc, cc2, rfl⟩ := shapeOf hownc
          obtain ⟨ld, hld, hownd, hds⟩ := hdl
          have HOC : Hid (wr.ownsRow (w.heap.size + 1) 89 1 (.slice aoc m cc2) m (lc.map pt)) := hownc
          have HOD : Hid (wr.ownsRow (w.heap.size + 1) 65 1 (.slice aod n cd) n (ld.map pt)) := hownd
          have HCS : Hid (∀ i, i < m → Cl wr (lc.getD i 0) (M i) (P i) (F i) (X i)) := hcs
          have HDS : Hid (∀ i, i < n → Dl wr (ld.getD i 0) (S i)) := hds
          clear hownc hownd hcs hds rfz hrun
          go_wp2_with (at_make; refine wpList_make_full _ rfl _ _ 57 rfl (w.heap.size + 1) 65 i0 _ 1 Yba.underlying57 hi hz0 hz1 _ _ _ _ n rfl rfl rfl rfl (by rw [hz2]; omega) (by unfold maxLen; omega) (by omega) ?_)
          intro w1 hm1 hg1
          obtain ⟨cur1, hcur1, hcs1⟩ := made_row hm1
          have HC1 : Hid (w1.heap[wr.heap.size]? = some (.cells cur1 65 (0, 0))) := hcur1
          have b1 : Below wr.heap.size wr w1 := (Below.refl _ _).grown hg1 (Nat.le_refl _) (fun k hk => by cases hk)
          have e12 := (b1.cell (p := ⟨w.heap.size, 12, none⟩) rlt).trans r12
          have e10 := (b1.cell (p := ⟨w.heap.size, 10, none⟩) rlt).trans r10
          have o1 : Hid (w1.ownsRow (w.heap.size + 1) 65 1 (.slice aod n cd) n (ld.map pt)) := ownsRow_keep (T := []) HOD.out (Keep.of_below b1) rfl
          clear hm1 hg1 hcur1
          go_wp2_with (with_reducible refine copy_own 57 65 Yba.underlying57 (by with_unfolding_all exact hs65) wr.heap.size n cd aod (ld.map pt) (by simpa using hld) (by with_unfolding_all exact rfl) (by with_unfolding_all exact rfl) cur1 HC1.out hcs1 (srcs_of o1.out) (pts_one _) ?_)
          intro w2 hc2 hg2
          have b2 : Below wr.heap.size wr w2 := b1.grown hg2 b1.size (fun k hk => by cases hk; exact Nat.le_refl _)
          have HC2 : Hid (w2.heap[wr.heap.size]? = some (.cells (ld.map pt).toArray 65 (0, 0))) := hc2
          have hlt2 : wr.heap.size < w2.heap.size := (Array.getElem?_eq_some_iff.1 hc2).1
          have d12 := (b2.cell (p := ⟨w.heap.size, 12, none⟩) rlt).trans r12
          have d10 := (b2.cell (p := ⟨w.heap.size, 10, none⟩) rlt).trans r10
          clear hc2 hg2 e12 e10 o1 HC1 hcs1 b1
          go_wp2_with (at_make; refine wpList_make_full _ rfl _ _ 55 rfl (w.heap.size + 1) 89 i1 _ 1 Yba.underlying55 hi1 hy0 hy1 _ _ _ _ m rfl rfl rfl rfl (by rw [hy2]; omega) (by unfold maxLen; omega) (by omega) ?_)
          intro w3 hm3 hg3
          obtain ⟨cur3, hcur3, hcs3⟩ := made_row hm3
          have HC3 : Hid (w3.heap[w2.heap.size]? = some (.cells cur3 89 (0, 0))) := hcur3
          have b3' : Below w2.heap.size w2 w3 := (Below.refl _ _).grown hg3 (Nat.le_refl _) (fun k hk => by cases hk)
          have b3 : Below wr.heap.size wr w3 := b2.trans (b3'.mono (by omega))
          have e12 := (b3.cell (p := ⟨w.heap.size, 12, none⟩) rlt).trans r12
          have e10 := (b3.cell (p := ⟨w.heap.size, 10, none⟩) rlt).trans r10
          have o3 : Hid (w3.ownsRow (w.heap.size + 1) 89 1 (.slice aoc m cc2) m (lc.map pt)) := ownsRow_keep (T := []) HOC.out (Keep.of_below b3) rfl
          clear hm3 hg3 hcur3 d12 d10
          go_wp2_with (with_reducible refine copy_own 55 89 Yba.underlying55 (by with_unfolding_all exact hs89) w2.heap.size m cc2 aoc (lc.map pt) (by simpa using hlc) (by with_unfolding_all exact rfl) (by with_unfolding_all exact rfl) cur3 HC3.out hcs3 (srcs_of o3.out) (pts_one _) ?_)
          intro W hc4 hg4
          have b4' : Below w2.heap.size w2 W := b3'.grown hg4 b3'.size (fun k hk => by cases hk; exact Nat.le_refl _)
          have b4 : Below wr.heap.size wr W := b2.trans (b4'.mono (by omega))
          have hWs := b4'.size
          obtain ⟨gd, hgd⟩ := row_pts (ownsRow_keep (T := []) HOD.out (Keep.of_below b4) rfl) hld
          obtain ⟨gc, hgc⟩ := row_pts (ownsRow_keep (T := []) HOC.out (Keep.of_below b4) rfl) hlc
          have DS : Hid (DSee W w.heap.size wr.heap.size n cd aod gd (fun i => ld.getD i 0) S) :=
            ⟨(b4.cell (p := ⟨w.heap.size, 12, none⟩) rlt).trans r12, fun i hi => ⟨(hgd i hi).1, (hgd i hi).2, row_pts_whole ((b4'.block _ hlt2).trans HC2.out) i (by omega), ((HDS.out i hi).keep (T := []) (Keep.of_below b4) rfl).cell⟩⟩
          have CS : Hid (CSee W w.heap.size w2.heap.size m cc2 aoc gc (fun i => lc.getD i 0) M P F X) :=
            ⟨(b4.cell (p := ⟨w.heap.size, 10, none⟩) rlt).trans r10, fun i hi => ⟨(hgc i hi).1, (hgc i hi).2, row_pts_whole hc4 i (by omega), ((HCS.out i hi).keep (T := []) (Keep.of_below b4) rfl).cell⟩⟩
          have hbW : Below w.heap.size w W := hbel.trans (b4.mono hB)
          have hltW : w2.heap.size < W.heap.size := (Array.getElem?_eq_some_iff.1 hc4).1
          clear hc4 hg4 b4 b4' b3 b3' b2 e12 e10 o3 HC3 hcs3 HC2 hgd hgc HCS HDS HOC HOD hbel r12 r10
          generalize (fun i => ld.getD i 0) = D at DS
          generalize (fun i => lc.getD i 0) = C at CS
          obtain ⟨g1, hg1⟩ : ∃ g1, g1 = wr.heap.size := ⟨_, rfl⟩
          obtain ⟨g2, hg2⟩ : ∃ g2, g2 = w2.heap.size := ⟨_, rfl⟩
          rw [← hg1] at DS ⊢
          rw [← hg2] at CS ⊢
          clear hg1 hg2 hld hlc hB rlt hlt2 hltW hWs
          go_wp2
          go_loop [14, 15] (fun t i => ∃ k : Nat, k ≤ n ∧ i = .int .i64 k ∧ t = .bool (wantD S k)) (fun _ i => n - (intOf i).toNat)
          case atStart => exact ⟨0, by omega, rfl, rfl⟩
          case round =>
            obtain ⟨k, hk, rfl, rfl⟩ := hrel
            by_cases hlt : k < n
            · obtain rfl := has (by omega)
              have c1 := (hbW.cell (p := ⟨bs, os + k, none⟩) (hbs (by omega))).trans (HS.out k hlt)
              obtain ⟨sr0, sr1⟩ := HSr.out k
              have HW : Hid (wantD S (k + 1) = (wantD S k || (S k % 4 != 2))) := rfl
              cases hb : (S k % 4 != 2) with
              | true =>
                have HB : Hid ((S k % 4 != 2) = true) := hb
                go_wp2
                go_round
                case rel => exact ⟨k + 1, by omega, by go_num, by rw [HW.out, HB.out, Bool.or_true]⟩
                case measure => simp [intOf]; omega
              | false =>
                have HB : Hid ((S k % 4 != 2) = false) := hb
                go_wp2
                go_round
                case rel => exact ⟨k + 1, by omega, by go_num, by rw [HW.out, HB.out, Bool.or_false]⟩
                case measure => simp [intOf]; omega
            · obtain rfl : n = k := by omega
              go_wp2
              go_loopw [14, 16] (fun t i wr => ∃ k : Nat, k ≤ m ∧ i = .int .i64 k ∧ t = .bool (wantD S n || wantC M P F k) ∧ Below W.heap.size W wr) (fun _ i _ => m - (intOf i).toNat)
              case atStart => exact ⟨0, by omega, rfl, by simp [wantC], Below.refl _ _⟩
              case round =>
                obtain ⟨k, hk, rfl, rfl, hbr⟩ := hrel
                by_cases hlt : k < m
                · obtain rfl := hac (by omega)
                  have hbw := hbc (by omega)
                  obtain ⟨m1, m2, m3, m4⟩ := HM.out k hlt
                  have hbr' : Below w.heap.size w wr := hbW.trans (hbr.mono hbW.size)
                  have c1 := (hbr'.cell (p := ⟨bc, oc + k * 4, none⟩) hbw).trans m1
                  have c2 := (hbr'.cell (p := ⟨bc, oc + k * 4 + 1, none⟩) hbw).trans m2
                  have c3 := (hbr'.cell (p := ⟨bc, oc + k * 4 + 2, none⟩) hbw).trans m3
                  have c4 := (hbr'.cell (p := ⟨bc, oc + k * 4 + 3, none⟩) hbw).trans m4
                  clear m1 m2 m3 m4 hbr'
                  obtain ⟨mr0, mr1⟩ := HMr.out k
                  obtain ⟨pr0, pr1⟩ := HPr.out k
                  have HW : Hid (wantC M P F (k + 1) = (wantC M P F k || ((M k % 5 == 0) && (P k % 4 != 0) && !F k))) := rfl
                  have hszr := hbr.size
                  cases h5 : (M k % 5 == 0) with
                  | false =>
                    have HB : Hid ((M k % 5 == 0) = false) := h5
                    go_wp2
                    go_roundw
                    case rel => exact ⟨k + 1, by omega, by go_num, by rw [HW.out, HB.out]; simp, hbr.alloc hszr _⟩
                    case measure => simp [intOf]; omega
                  | true =>
                    have HB : Hid ((M k % 5 == 0) = true) := h5
                    cases h4 : (P k % 4 != 0) with
                    | false =>
                      have HB4 : Hid ((P k % 4 != 0) = false) := h4
                      go_wp2
                      go_roundw
                      case rel => exact ⟨k + 1, by omega, by go_num, by rw [HW.out, HB.out, HB4.out]; simp, hbr.alloc hszr _⟩
                      case measure => simp [intOf]; omega
                    | true =>
                      have HB4 : Hid ((P k % 4 != 0) = true) := h4
                      cases hF : F k with
                      | true =>
                        have HB5 : Hid (F k = true) := hF
                        go_wp2
                        go_roundw
                        case rel => exact ⟨k + 1, by omega, by go_num, by rw [HW.out, HB5.out]; simp, hbr.alloc hszr _⟩
                        case measure => simp [intOf]; omega
                      | false =>
                        have HB5 : Hid (F k = false) := hF
                        go_wp2
                        go_roundw
                        case rel => exact ⟨k + 1, by omega, by go_num, by rw [HW.out, HB.out, HB4.out, HB5.out]; simp, hbr.alloc hszr _⟩
                        case measure => simp [intOf]; omega
                · obtain rfl : m = k := by omega
                  go_wp2_with fail
                  have ds := DS.out.below hbr
                  have cs' := CS.out.below hbr
                  refine (sessions_any w.heap.size n m cd cc2 gd gc aod aoc D C S M P F X wr (by omega) (by omega) ds.1 cs'.1 (fun i hi => ⟨(ds.2 i hi).1, (ds.2 i hi).2.1, (ds.2 i hi).2.2.2⟩) (fun i hi => ⟨(cs'.2 i hi).1, (cs'.2 i hi).2.1, (cs'.2 i hi).2.2.2⟩)).mono ?_
                  rintro e w' ⟨rfl, rfl⟩
                  dsimp only
                  have r12 := ds.1
                  have r10 := cs'.1
                  have hbV : Below w.heap.size w w' := hbW.trans (hbr.mono hbW.size)
                  have DV : Hid (DSee w' w.heap.size g1 n cd aod gd D S) := ds
                  have CV : Hid (CSee w' w.heap.size g2 m cc2 aoc gc C M P F X) := cs'
                  clear ds cs' DS CS hbW hbr
                  generalize (wantD S n || wantC M P F m) = wt
                  have hwt : (wt != wt) = false := by cases wt <;> rfl
                  go_wp2
                  go_loopw [19] (fun i wr => ∃ k q : Nat, k ≤ n ∧ i = .int .i64 k ∧ wr = w'.drewN q) (fun i _ => n - (intOf i).toNat)
                  case atStart => exact ⟨0, 0, by omega, rfl, rfl⟩
                  case round =>
                    obtain ⟨k, q, hk, rfl, rfl⟩ := hrel
                    by_cases hlt : k < n
                    · obtain rfl := has (by omega)
                      have c1 := (hbV.cell (p := ⟨bs, os + k, none⟩) (hbs (by omega))).trans (HS.out k hlt)
                      obtain ⟨sr0, sr1⟩ := HSr.out k
                      obtain ⟨rfl, d1, d2, d3⟩ := DV.out.2 k hlt
                      unfold DlC at d3
                      have hlt' : (k : Int) < (n : Int) := by omega
                      have hk0 : (0 : Int) ≤ (k : Int) := by omega
                      clear has hbs
                      go_wp2
                      go_quiet ((go_at_call 6; exact (state_any _ _ sr0 sr1).mono fun e w'' h => ⟨h.1, _, h.2⟩))
                      go_wp2
                      go_roundw
                      case rel => exact ⟨k + 1, _, by omega, by go_num, rfl⟩
                      case measure => simp [intOf]; omega
                    · obtain rfl : n = k := by omega
                      go_wp2
                      go_loopw [20] (fun i wr => ∃ k : Nat, k ≤ m ∧ i = .int .i64 k ∧ Below w'.heap.size w' wr) (fun i _ => m - (intOf i).toNat)
                      case atStart => exact ⟨0, by omega, rfl, below_drewN (Below.refl _ _) _⟩
                      case round =>
                        obtain ⟨k, hk, rfl, hbr⟩ := hrel
                        by_cases hlt : k < m
                        · obtain rfl := hac (by omega)
                          have hbw := hbc (by omega)
                          obtain ⟨m1, m2, m3, m4⟩ := HM.out k hlt
                          have hbr' : Below w.heap.size w wr := hbV.trans (hbr.mono hbV.size)
                          have c1 := (hbr'.cell (p := ⟨bc, oc + k * 4, none⟩) hbw).trans m1
                          have c2 := (hbr'.cell (p := ⟨bc, oc + k * 4 + 1, none⟩) hbw).trans m2
                          have c3 := (hbr'.cell (p := ⟨bc, oc + k * 4 + 2, none⟩) hbw).trans m3
                          have c4 := (hbr'.cell (p := ⟨bc, oc + k * 4 + 3, none⟩) hbw).trans m4
                          obtain ⟨mr0, mr1⟩ := HMr.out k
                          obtain ⟨pr0, pr1⟩ := HPr.out k
                          have hszr := hbr.size
                          have cv := CV.out.below hbr
                          obtain ⟨rfl, d1, d2, d3⟩ := cv.2 k hlt
                          have past : ∀ {a : Addr} {v : Value}, wr.cell? a = some v → ∀ o, (wr.alloc o).cell? a = some v := fun h o => cell_later ((Below.refl wr.heap.size wr).alloc (Nat.le_refl _) o) h
                          obtain ⟨e6, e15, ⟨fv, e14, hfv⟩, pv, e13, hlen⟩ := d3.lens
                          have q10 := past cv.1
                          have q1 := past d1
                          have q2 := past d2
                          have q6 := past e6
                          have q13 := past e13
                          have q14 := past e14
                          have q15 := past e15
                          have hlt' : (k : Int) < (m : Int) := by omega
                          have hk0 : (0 : Int) ≤ (k : Int) := by omega
                          clear m1 m2 m3 m4 hbr' hac hbc cv past d1 e6 e13 e14 e15 r10 r12 d3
                          go_wp2
                          go_quiet ((go_at_call 7; exact (method_any _ _ mr0 mr1).mono fun e w'' h => ⟨h.1, _, h.2⟩))
                          go_wp2
                          go_roundw
                          case rel => exact ⟨k + 1, by omega, by go_num, below_drewN (hbr.alloc hszr _) _⟩
                          case measure => simp [intOf]; omega
                        · go_wp2
                          go_ret
                          exact ⟨rfl, hbV.trans (hbr.mono hbV.size)⟩
end Go.Proofs.Ybulkedrs
