import Derived.Test.YbulkedrsRd
namespace Go.Proofs.Ybulkedrs
open Go.RowKit
set_option linter.unusedVariables false

set_option maxRecDepth 20000 in
set_option maxHeartbeats 1000000 in
theorem lawA_pick (ao : Option Addr) (b off len cap : Nat) (N K T : Nat → ByteArray) (nm : ByteArray) (pk : Int) (w : World) (hl : len ≤ 1048576)
    (hao : 0 < len → ao = some ⟨b, off, none⟩) (hb : 0 < len → b < w.heap.size)
    (hp0 : 0 ≤ pk) (hp1 : pk ≤ 255) (hpk : (pk % 2 == 0) = true) (hlen : 0 < len)
    (hN : ∀ i, i < len → w.cell? ⟨b, off + i * 3, none⟩ = some (.string (N i)))
    (hK : ∀ i, i < len → w.cell? ⟨b, off + i * 3 + 1, none⟩ = some (.string (K i)))
    (hT : ∀ i, i < len → w.cell? ⟨b, off + i * 3 + 2, none⟩ = some (.string (T i))) :
    Calls Yba.prog 3 #[.slice ao len cap, .string nm, .int .u8 pk] w fun e w' => e = .returned (.bool true) ∧ Below w.heap.size w w' := by
  obtain ⟨i0, hi, hz0, hz1, hz2⟩ := info_parts Yba.info35
  obtain ⟨i32, hi32⟩ := some_info (t := 32) (by kernel_rfl)
  have hne25 := neq_ptr_same Yba.underlying25 hi32
  have hne41 := neq_ptr_same Yba.underlying41 hi
  have hnil37 := fun w => run_neq_slice_nil_any (P := Yba.prog) w 37 _ none 0 0 0 0 Yba.underlying37
  have hbig : ¬ (1048576 : Int) < (len : Int) := by omega
  obtain rfl := hao hlen
  clear hao
  obtain ⟨J, hJ, hJl⟩ : ∃ J : Nat, pk / 2 % (len : Int) = (J : Int) ∧ J < len := by
    refine ⟨(pk / 2 % (len : Int)).toNat, ?_, ?_⟩
    · have := Int.emod_nonneg (pk / 2) (show (len : Int) ≠ 0 by omega); omega
    · have h1 := Int.emod_nonneg (pk / 2) (show (len : Int) ≠ 0 by omega)
      have h2 := Int.emod_lt_of_pos (pk / 2) (show (0 : Int) < (len : Int) by omega); omega
  have hcJ := hN J hJl
  have hJl' : (J : Int) < (len : Int) := by omega
  have hlen' : (0 : Int) < (len : Int) := by omega
  go_enter Yba.func3, Yba.ntmps3
  go_wp2_with (at_make; refine wpList_make_full _ rfl _ _ 26 rfl w.heap.size 35 i0 _ 3 Yba.underlying26 hi hz0 hz1 _ _ _ _ len rfl rfl rfl rfl (by rw [hz2]; omega) (by unfold maxLen; omega) (Nat.le_refl _) ?_)
  intro w1 hown hgr
  go_wp2
  have hG : w.heap.size < w1.heap.size := by
    rcases hown.2 with ⟨h, _⟩ | ⟨g, c, cur, h, _, hg, _⟩
    · simp at h
    · simp only [Value.slice.injEq, Option.some.injEq, Addr.mk.injEq, and_true, true_and] at h
      rw [← h.1] at hg
      exact (Array.getElem?_eq_some_iff.1 hg).1
  have hrd0 : Rd w1 w.heap.size len 0 N K T := by
    rcases hown.2 with ⟨h, _⟩ | ⟨g, c, cur, h, _, hg, _, _, hs, _⟩
    · simp at h
    · simp only [Value.slice.injEq, Option.some.injEq, Addr.mk.injEq, and_true, true_and] at h
      rw [← h.1] at hg
      rw [← h.2] at hs
      exact ⟨cur, hg, hs, fun i hi => by omega⟩
  have hb1 : Below w.heap.size w w1 := (Below.refl _ _).grown hgr (Nat.le_refl _) (fun k hk => by cases hk)
  clear hown hgr
  go_loopw [8] (fun i wr => ∃ k : Nat, k ≤ len ∧ i = .int .i64 k ∧ Rd wr w.heap.size len k N K T ∧ wr.cell? ⟨w1.heap.size, 9, none⟩ = some (.slice (some ⟨w.heap.size, 0, none⟩) len len) ∧ w1.heap.size < wr.heap.size ∧ Below w.heap.size w wr) (fun i _ => len - (intOf i).toNat)
  case atStart =>
    refine ⟨0, by omega, rfl, hrd0.same (Below.heap_alloc _ _ _ hG), ?_, by simp, hb1.alloc hb1.size _⟩
    rw [World.cell?_alloc_at _ _ _ _ rfl]; rfl
  case round =>
    obtain ⟨k, hk, rfl, hrd, htp, hsz, hbel⟩ := hrel
    by_cases hlt : k < len
    · skip
      have hbl := hb (by omega)
      have c1 := (hbel.cell (p := ⟨b, off + k * 3, none⟩) hbl).trans (hN k hlt)
      have c2 := (hbel.cell (p := ⟨b, off + k * 3 + 1, none⟩) hbl).trans (hK k hlt)
      have c3 := (hbel.cell (p := ⟨b, off + k * 3 + 2, none⟩) hbl).trans (hT k hlt)
      obtain ⟨⟨v1, t1⟩, ⟨v2, t2⟩, ⟨v3, t3⟩, hfz⟩ := hrd.there hlt
      have HRD : Hid (Rd wr w.heap.size len k N K T) := hrd
      clear hrd hN hK hT hrd0
      go_wp2
      go_region
      go_wp2
      go_roundw
      case rel =>
        refine ⟨k + 1, by omega, by go_num, HRD.out.step hlt rfl, ?_, ?_, ?_⟩
        · simp only [World.cell?_drew]
          rw [cell_three (by show w1.heap.size ≠ w.heap.size; omega)]
          exact htp
        · simpa using hsz
        · exact (((hbel.setCell (by simp) _).setCell (by simp) _).setCell (by simp) _).drew
      case measure => simp [intOf]; omega
    · obtain rfl : len = k := by omega
      have HN : Hid (∀ i, i < len → w.cell? ⟨b, off + i * 3, none⟩ = some (.string (N i))) := hN
      have HK : Hid (∀ i, i < len → w.cell? ⟨b, off + i * 3 + 1, none⟩ = some (.string (K i))) := hK
      have HT : Hid (∀ i, i < len → w.cell? ⟨b, off + i * 3 + 2, none⟩ = some (.string (T i))) := hT
      clear hN hK hT hrd0 hb1
      go_wp2
      -- the parser's block is laid: its facts, and the world under a name
      have hbelW : Below w.heap.size w (wr.alloc (.cells #[.string ⟨#[102]⟩, .string ⟨#[100]⟩, .int .i64 3, .slice none 0 0, .pointer (some ⟨w1.heap.size, 0, none⟩), .int .i64 2, .pointer none] 40)) := hbel.alloc hbel.size _
      have hrdW : Hid (Rd (wr.alloc (.cells #[.string ⟨#[102]⟩, .string ⟨#[100]⟩, .int .i64 3, .slice none 0 0, .pointer (some ⟨w1.heap.size, 0, none⟩), .int .i64 2, .pointer none] 40)) w.heap.size len len N K T) := hrd.same (Below.heap_alloc _ _ _ (by omega))
      have htpW : (wr.alloc (.cells #[.string ⟨#[102]⟩, .string ⟨#[100]⟩, .int .i64 3, .slice none 0 0, .pointer (some ⟨w1.heap.size, 0, none⟩), .int .i64 2, .pointer none] 40)).cell? ⟨w1.heap.size, 9, none⟩ = some (.slice (some ⟨w.heap.size, 0, none⟩) len len) := by
        rw [World.cell?_alloc_past _ _ _ hsz]; exact htp
      have hpW : ∀ i, (wr.alloc (.cells #[.string ⟨#[102]⟩, .string ⟨#[100]⟩, .int .i64 3, .slice none 0 0, .pointer (some ⟨w1.heap.size, 0, none⟩), .int .i64 2, .pointer none] 40)).cell? ⟨wr.heap.size, i, none⟩ = (#[.string ⟨#[102]⟩, .string ⟨#[100]⟩, .int .i64 3, .slice none 0 0, .pointer (some ⟨w1.heap.size, 0, none⟩), .int .i64 2, .pointer none] : Array Value)[i]? := fun i => World.cell?_alloc_at _ _ _ _ rfl
      generalize wr.alloc (.cells #[.string ⟨#[102]⟩, .string ⟨#[100]⟩, .int .i64 3, .slice none 0 0, .pointer (some ⟨w1.heap.size, 0, none⟩), .int .i64 2, .pointer none] 40) = W at hbelW hrdW htpW hpW ⊢
      have p0 := hpW 0
      have p1 := hpW 1
      have p2 := hpW 2
      have p3 := hpW 3
      have p4 := hpW 4
      have p5 := hpW 5
      have p6 := hpW 6
      simp only [List.getElem?_toArray, List.getElem?_cons_zero, List.getElem?_cons_succ] at p0 p1 p2 p3 p4 p5 p6
      clear hpW htp hbel hrd
      go_loop [10, 11] (fun wt j => ∃ m : Nat, m ≤ len ∧ j = .int .i64 ((m : Int) - 1) ∧ wt = .int .i64 (wantOf (fst N (N J) m (len - m)))) (fun _ j => (intOf j + 1).toNat)
      case atStart => exact ⟨len, by omega, rfl, by rw [Nat.sub_self]; rfl⟩
      case round =>
        obtain ⟨m, hm, rfl, rfl⟩ := hrel
        by_cases hm0 : 0 < m
        · skip
          obtain ⟨j, rfl⟩ : ∃ j, m = j + 1 := ⟨m - 1, by omega⟩
          have c1 := (hbelW.cell (p := ⟨b, off + j * 3, none⟩) (hb (by omega))).trans (HN.out j (by omega))
          have HX : Hid (fst N (N J) j (len - j) = if ((N j).toList == (N J).toList) = true then some j else fst N (N J) (j + 1) (len - (j + 1))) := by
            show _ = _
            rw [show len - j = (len - (j + 1)) + 1 by omega]; rfl
          have ej : ((j + 1 : Nat) : Int) - 1 = (j : Int) := by omega
          rw [ej]
          clear ej
          cases hbq : ((N j).toList == (N J).toList) with
          | false =>
            have HB : Hid (((N j).toList == (N J).toList) = false) := hbq
            go_wp2
            go_round
            case rel => exact ⟨j, by omega, by go_num, by rw [HX.out, if_neg (by rw [HB.out]; simp)]⟩
            case measure => simp [intOf]
          | true =>
            have HB : Hid (((N j).toList == (N J).toList) = true) := hbq
            go_wp2
            go_round
            case rel => exact ⟨j, by omega, by go_num, by rw [HX.out, if_pos HB.out]; rfl⟩
            case measure => simp [intOf]
        · obtain rfl : m = 0 := by omega
          go_wp2_with fail
          refine (role_any wr.heap.size w1.heap.size w.heap.size len N (N J) W hl p4 htpW (fun i hi => (hrdW.out.cellN hi).1)).mono ?_
          rintro e w' ⟨rfl, rfl⟩
          dsimp only
          have hsp := fst_spec N (N J) len 0
          generalize fst N (N J) 0 len = fr at hsp ⊢
          cases fr with
          | none =>
            dsimp only [wantOf, ptrOf]
            go_wp2
            go_loopw [13] (fun i wr' => ∃ m q : Nat, m ≤ len ∧ i = .int .i64 m ∧ wr' = W.drewN q) (fun i _ => len - (intOf i).toNat)
            case atStart => exact ⟨0, 0, by omega, rfl, rfl⟩
            case round =>
              obtain ⟨m, q, hm, rfl, rfl⟩ := hrel
              by_cases hlt : m < len
              · skip
                have hbl := hb (by omega)
                have c1 := (hbelW.cell (p := ⟨b, off + m * 3, none⟩) hbl).trans (HN.out m hlt)
                have c2 := (hbelW.cell (p := ⟨b, off + m * 3 + 1, none⟩) hbl).trans (HK.out m hlt)
                have c3 := (hbelW.cell (p := ⟨b, off + m * 3 + 2, none⟩) hbl).trans (HT.out m hlt)
                obtain ⟨d1, d2, d3⟩ := hrdW.out.cellN hlt
                have hlt' : (m : Int) < (len : Int) := by omega
                clear hb
                go_wp2
                go_quiet (fail)
                go_wp2
                go_roundw
                case rel => exact ⟨m + 1, _, by omega, by go_num, rfl⟩
                case measure => simp [intOf]; omega
              · go_wp2
                go_ret
                exact ⟨rfl, below_drewN hbelW _⟩
          | some j =>
            have hj := (hsp j rfl).2
            dsimp only [wantOf, ptrOf]
            go_wp2
            go_loopw [13] (fun i wr' => ∃ m q : Nat, m ≤ len ∧ i = .int .i64 m ∧ wr' = W.drewN q) (fun i _ => len - (intOf i).toNat)
            case atStart => exact ⟨0, 0, by omega, rfl, rfl⟩
            case round =>
              obtain ⟨m, q, hm, rfl, rfl⟩ := hrel
              by_cases hlt : m < len
              · skip
                have hbl := hb (by omega)
                have c1 := (hbelW.cell (p := ⟨b, off + m * 3, none⟩) hbl).trans (HN.out m hlt)
                have c2 := (hbelW.cell (p := ⟨b, off + m * 3 + 1, none⟩) hbl).trans (HK.out m hlt)
                have c3 := (hbelW.cell (p := ⟨b, off + m * 3 + 2, none⟩) hbl).trans (HT.out m hlt)
                obtain ⟨d1, d2, d3⟩ := hrdW.out.cellN hlt
                have hlt' : (m : Int) < (len : Int) := by omega
                clear hb
                go_wp2
                go_quiet (fail)
                go_wp2
                go_roundw
                case rel => exact ⟨m + 1, _, by omega, by go_num, rfl⟩
                case measure => simp [intOf]; omega
              · go_wp2
                go_ret
                exact ⟨rfl, below_drewN hbelW _⟩
end Go.Proofs.Ybulkedrs
