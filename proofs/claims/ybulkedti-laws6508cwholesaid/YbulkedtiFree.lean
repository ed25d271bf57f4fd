import Derived.Test.YbulkedtiProg
import Derived.WalkKit
import Derived.WalkSpells
import Derived.WalkLawsBesides
import Derived.Below
import Derived.BigQuiet
import Derived.Deep.WholeRow
namespace Go.Proofs.Ybulkedti
open Go.RowKit

def lfrom (bs : List Bool) : Nat → Nat → Nat
  | _, 0 => 0
  | i, n + 1 => if bs.getD i true = false then i else lfrom bs (i + 1) n

def bcells (bs : List Bool) : Array Value := (bs.map Value.bool).toArray

theorem bcell {w : World} {g : Nat} {bs : List Bool} {k : Nat} (hg : w.heap[g]? = some (.cells (bcells bs) 43 (0, 0))) (hk : k < bs.length) : w.cell? ⟨g, k, none⟩ = some (.bool (bs.getD k true)) := by
  rw [cell_of_row w g k _ _ _ hg]
  simp [bcells, List.getElem?_map, List.getElem?_eq_getElem hk, List.getD]

theorem model_any (g : Nat) (bs : List Bool) (w : World) (hl : bs.length = 257) (hg : w.heap[g]? = some (.cells (bcells bs) 43 (0, 0))) :
    Calls Yba.prog 10 #[.pointer (some ⟨g, 0, none⟩)] w fun e w' => e = .returned (.int .i64 (lfrom bs 1 256 : Nat)) ∧ w = w' := by
  have hcell := fun k (hk : k < 257) => bcell hg (k := k) (by omega)
  clear hg hl
  go_enter Yba.func10, Yba.ntmps10
  go_wp2
  go_loop [3, 4] (fun b i => ∃ k : Nat, k ≤ 256 ∧ i = .int .i64 k ∧ b = .int .i64 (lfrom bs (k + 1) (256 - k) : Nat)) (fun _ i => (intOf i).toNat)
  case atStart => exact ⟨256, by omega, rfl, rfl⟩
  case round =>
    obtain ⟨k, hk, rfl, rfl⟩ := hrel
    by_cases h1 : 1 ≤ k
    · have hc := hcell k (by omega)
      obtain ⟨m, rfl⟩ : ∃ m, k = m + 1 := ⟨k - 1, by omega⟩
      have hs : 256 - m = (256 - (m + 1)) + 1 := by omega
      have hx : lfrom bs (m + 1) (256 - m) = if bs.getD (m + 1) true = false then m + 1 else lfrom bs (m + 1 + 1) (256 - (m + 1)) := by rw [hs]; rfl
      have HX : Hid (lfrom bs (m + 1) (256 - m) = if bs.getD (m + 1) true = false then m + 1 else lfrom bs (m + 1 + 1) (256 - (m + 1))) := hx
      clear hx hs hcell
      cases hb : bs.getD (m + 1) true with
      | false =>
        rw [hb] at hc
        have HB : Hid (bs.getD (m + 1) true = false) := hb
        clear hb
        go_wp2
        go_round
        case rel => exact ⟨m, by omega, by go_num, by rw [HX.out, if_pos HB.out]⟩
        case measure => simp [intOf]
      | true =>
        rw [hb] at hc
        have HB : Hid (bs.getD (m + 1) true = true) := hb
        clear hb
        go_wp2
        go_round
        case rel => exact ⟨m, by omega, by go_num, by rw [HX.out, if_neg (by rw [HB.out]; simp)]⟩
        case measure => simp [intOf]
    · obtain rfl : k = 0 := by omega
      go_wp2
      go_ret
      exact ⟨rfl, rfl⟩

theorem free_any (g : Nat) (bs : List Bool) (w : World) (hl : bs.length = 257) (hg : w.heap[g]? = some (.cells (bcells bs) 43 (0, 0))) :
    Calls Yba.prog 11 #[.pointer (some ⟨g, 0, none⟩)] w fun e w' => e = .returned (.int .i64 (lfrom bs 1 256 : Nat)) ∧ w = w' := by
  have hcell := fun k (hk : k < 257) => bcell hg (k := k) (by omega)
  clear hg hl
  go_enter Yba.func11, Yba.ntmps11
  go_wp2
  go_loop [3] (fun i => ∃ k : Nat, 1 ≤ k ∧ k ≤ 257 ∧ i = .int .i64 k ∧ lfrom bs 1 256 = lfrom bs k (257 - k)) (fun i => 300 - (intOf i).toNat)
  case atStart => exact ⟨1, by omega, by omega, rfl, rfl⟩
  case round =>
    obtain ⟨k, hk1, hk, rfl, hq⟩ := hrel
    have HQ : Hid (lfrom bs 1 256 = lfrom bs k (257 - k)) := hq
    clear hq
    by_cases h1 : k ≤ 256
    · have hc := hcell k (by omega)
      have hs : 257 - k = (257 - (k + 1)) + 1 := by omega
      have hx : lfrom bs k (257 - k) = if bs.getD k true = false then k else lfrom bs (k + 1) (257 - (k + 1)) := by rw [hs]; rfl
      have HX : Hid (lfrom bs k (257 - k) = if bs.getD k true = false then k else lfrom bs (k + 1) (257 - (k + 1))) := hx
      clear hx hs hcell
      cases hb : bs.getD k true with
      | false =>
        rw [hb] at hc
        have HB : Hid (bs.getD k true = false) := hb
        clear hb
        go_wp2
        go_ret
        exact ⟨by rw [HQ.out, HX.out, if_pos HB.out]; rfl, rfl⟩
      | true =>
        rw [hb] at hc
        have HB : Hid (bs.getD k true = true) := hb
        clear hb
        go_wp2
        go_round
        case rel => exact ⟨k + 1, by omega, by omega, by go_num, by rw [HQ.out, HX.out, if_neg (by rw [HB.out]; simp)]⟩
        case measure => simp [intOf]; omega
    · obtain rfl : k = 257 := by omega
      go_wp2
      go_ret
      exact ⟨by rw [HQ.out]; rfl, rfl⟩

theorem lfrom_spec (bs : List Bool) : ∀ n i, lfrom bs i n = 0 ∨ (i ≤ lfrom bs i n ∧ lfrom bs i n < i + n ∧ bs.getD (lfrom bs i n) true = false)
  | 0, _ => .inl rfl
  | n + 1, i => by
    unfold lfrom
    split
    · rename_i h; exact .inr ⟨Nat.le_refl _, by omega, h⟩
    · rcases lfrom_spec bs n (i + 1) with h | ⟨h1, h2, h3⟩
      · exact .inl h
      · exact .inr ⟨by omega, by omega, h3⟩

/-- 'alloc' of a type whose zero value is an aggregate, its cells not looked at. -/
theorem wpList_alloc_agg {P : Program} {ops : Array Oper} {rest : List Oper} {o : Oper} {a : Act} {w : World} {Q : Exit → Act → World → Prop} (hgd : o.guard = none) (ty : TypeId) (ho : o.op = .alloc ty)
    (cells : Array Value) (hz : (zeroValue ty).run P w = .ok (.agg cells) w)
    (h : wpList P ops Q rest (a.put o.dst (.pointer (some ⟨w.heap.size, 0, none⟩))) (w.alloc (.cells cells ty))) : wpList P ops Q (o :: rest) a w := by
  refine wpList_plain hgd fun K hK => ?_
  unfold Oper.wp execOp
  simp only [ho, Instr.alloc, Sem.run_bind, hz, Result.andThen_ok, newVar, Value.cells, Sem.run_pure]
  exact hK _ _ h

theorem Yba.zero43 : ∃ z : Array Value, z.size = 257 ∧ ∀ w, (zeroValue 43).run Yba.prog w = .ok (.agg z) w := by
  have h : (Yba.prog.info? 43).map (fun i => (i.zero, i.size)) = some (some (.agg (Array.replicate 257 (.bool false))), 257) := by kernel_rfl
  exact ⟨_, by simp, (zero_of_info h).1⟩
theorem Yba.size43 : (Yba.prog.info? 43).map (·.size) = some 257 := by kernel_rfl
theorem bcells_size (bs : List Bool) : (bcells bs).size = bs.length := by simp [bcells]
theorem bcells_one (bs : List Bool) : (bcells bs).all (·.oneCell') = true := by
  simp [bcells, Value.oneCell']

theorem below_setRow {B : Nat} {a w : World} (h : Below B a w) {g : Nat} (hg : B ≤ g) (cs : Array Value) : Below B a (w.setRow g cs) :=
  h.trans ⟨rfl, rfl, rfl, by simp, fun k hk => setRow_other _ _ _ _ (by omega)⟩
theorem eq43 (cs : List Bool) (hl : cs.length = 257) (w : World) : (Op.equalIn 10000 43 (.agg (bcells cs)) (.agg (bcells cs))).run Yba.prog w = .ok true w := by
  have hi : ∃ i, Yba.prog.info? 4 = some i := by
    have : (Yba.prog.info? 4).isSome = true := by kernel_rfl
    exact Option.isSome_iff_exists.1 this
  obtain ⟨i, hi⟩ := hi
  have hc4 : Yba.prog.cellsOf 4 = 1 := by kernel_rfl
  have hp4 : ∀ (xs : Array Value) (j : Nat) (b : Bool) (w : World), xs[j]? = some (.bool b) → (part 4 xs j).run Yba.prog w = .ok (.bool b) w := by
    intro xs j b w hx
    have ha : (isAgg 4).run Yba.prog w = .ok false w := by
      unfold isAgg
      rw [Sem.run_bind, run_underlying Yba.underlying4 w]
      rfl
    simp [part, ha, hx]
  rw [run_equalIn_array w 9999 _ _ Yba.underlying43 hi, hc4]
  have key : ∀ is : List Nat, (∀ j ∈ is, j < 257) → (Op.eqItems 9999 4 1 (bcells cs) (bcells cs) is).run Yba.prog w = .ok true w := by
    intro is
    induction is with
    | nil => intro _; simp [Op.eqItems]
    | cons j is ih =>
      intro h
      have hj := h j (by simp)
      have hx : (bcells cs)[j * 1]? = some (.bool (cs.getD j true)) := by
        rw [Nat.mul_one]
        simp [bcells, List.getElem?_map, List.getElem?_eq_getElem (show j < cs.length by omega), List.getD]
      simp only [Op.eqItems, Sem.run_bind, hp4 _ _ _ _ hx, Result.andThen_ok, run_equalIn_bool' w 9998 4 _ _ Yba.underlying4]
      simp only [beq_self_eq_true, Bool.not_true, Bool.false_eq_true, if_false]
      exact ih (fun q hq => h q (by simp [hq]))
  exact key _ (fun j hj => by simpa using hj)

section
variable {ops : Array Oper} {rest : List Oper} {dst : Option Tmp} {x y : Operand} {ty : TypeId} {pos : String} {after : Array Edge} {a : Act} {w : World} {Q : Exit → Act → World → Prop}
theorem load43 (g : Nat) (cs : List Bool) (hx : a.eval x = .pointer (some ⟨g, 0, none⟩)) (hg : w.heap[g]? = some (.cells (bcells cs) 43 (0, 0))) (hl : cs.length = 257)
    (h : wpList Yba.prog ops Q rest (a.put dst (.agg (bcells cs))) w) : wpList Yba.prog ops Q (⟨dst, .load 43 x, ty, pos, after, none⟩ :: rest) a w :=
  wpList_load_row rfl 43 x rfl g hx 43 (bcells cs) (0, 0) _ hg Yba.underlying43 rfl (by rw [bcells_size, hl]; exact Yba.size43) h
theorem alloc43 (z : Array Value) (hz : ∀ w, (zeroValue 43).run Yba.prog w = .ok (.agg z) w)
    (h : wpList Yba.prog ops Q rest (a.put dst (.pointer (some ⟨w.heap.size, 0, none⟩))) (w.alloc (.cells z 43))) : wpList Yba.prog ops Q (⟨dst, .alloc 43, ty, pos, after, none⟩ :: rest) a w :=
  wpList_alloc_agg rfl 43 rfl z (hz w) h
theorem store43 (z : Array Value) (hz : z.size = 257) (cs : List Bool) (hl : cs.length = 257) (hx : a.eval x = .pointer (some ⟨w.heap.size, 0, none⟩)) (hy : a.eval y = .agg (bcells cs))
    (h : wpList Yba.prog ops Q rest (a.put dst undef) (w.alloc (.cells (bcells cs) 43))) : wpList Yba.prog ops Q (⟨dst, .store 43 x y, ty, pos, after, none⟩ :: rest) a (w.alloc (.cells z 43)) := by
  refine wpList_store_row rfl 43 x y rfl w.heap.size (bcells cs) hx hy 43 z (heap_alloc_new _ _) (by rw [bcells_size, hl]; exact Yba.size43) (by rw [bcells_size, hl]; exact hz) (bcells_one cs) ?_
  rw [World.setRow_alloc_new]
  exact h
end

theorem mfacts {m : Nat} {cs : List Bool} (h1 : 1 ≤ m) (h2 : m < 1 + 256) (hl : cs.length = 257) : m < cs.length ∧ ((m : Int) != 0) = true ∧ ¬ (256 : Int) < (m : Int) ∧ ¬ (m : Int) < (1 : Int) ∧ (m : Int) < 257 :=
  ⟨by omega, bne_iff_ne.2 (by omega), by omega, by omega, by omega⟩

set_option maxHeartbeats 1000000 in
theorem lawC (bs : List Bool) (hl : bs.length = 257) (n : Int) (hn0 : 0 ≤ n) (hn1 : n ≤ 65535) (w : World) :
    Calls Yba.prog 4 #[.agg (bcells bs), .int .u16 n] w fun e w' => e = .returned (.bool true) ∧ Below w.heap.size w w' := by
  obtain ⟨z, hz, hz43⟩ := Yba.zero43
  have hsz := Yba.size43
  go_enter Yba.func4, Yba.ntmps4
  go_wp2_with (first | (with_reducible refine load43 w.heap.size bs (by with_unfolding_all exact rfl) (heap_alloc_new w _) hl ?_) | (with_reducible refine alloc43 z hz43 ?_) | (with_reducible refine store43 z hz bs hl (by with_unfolding_all exact rfl) (by with_unfolding_all exact rfl) ?_))
  go_loopw [7] (fun i wr => ∃ (k : Nat) (cs : List Bool), 1 ≤ k ∧ k ≤ 257 ∧ i = .int .i64 k ∧ cs.length = 257 ∧ Hid (wr.heap.size = w.heap.size + 2) ∧ Hid (wr.heap[w.heap.size + 1]? = some (.cells (bcells cs) 43 (0, 0))) ∧ Below w.heap.size w wr) (fun i _ => 300 - (intOf i).toNat)
  case atStart =>
    refine ⟨1, bs, by omega, by omega, rfl, hl, ?_, ?_, ?_⟩
    · show _ = _
      simp
    · show _ = _
      exact heap_alloc2_new w _ _
    · exact ((Below.refl _ _).alloc (Nat.le_refl _) _).alloc (by simp) _
  case round =>
    obtain ⟨k, cs, hk1, hk, rfl, hcl, hsize, hrow, hbel⟩ := hrel
    by_cases h1 : (k : Int) ≤ n % 258
    · by_cases h2 : (k : Int) ≤ 256
      · have hc := bcell hrow.out (k := k) (by omega)
        have hf := frozen_of_row wr (w.heap.size + 1) k _ _ hrow.out
        go_wp2
        go_roundw
        case rel =>
          refine ⟨k + 1, cs.set k true, by omega, by omega, by go_num, by simpa using hcl, ?_, ?_, hbel.setCell (by simp) _⟩
          · show _ = _
            simp [hsize.out]
          · show _ = _
            rw [heap_setCell_same _ _ _ _ _ _ hrow.out]
            simp [bcells]
        case measure => simp [intOf]; omega
      · skip
        have hA : (wr.alloc (.cells (bcells cs) 43)).heap[w.heap.size + 1]? = some (.cells (bcells cs) 43 (0, 0)) := by rw [Below.heap_alloc _ _ _ (by rw [hsize.out]; omega)]; exact hrow.out
        have hB : (wr.alloc (.cells (bcells cs) 43)).heap[wr.heap.size]? = some (.cells (bcells cs) 43 (0, 0)) := heap_alloc_new _ _
        have HA : Hid ((wr.alloc (.cells (bcells cs) 43)).heap[w.heap.size + 1]? = some (.cells (bcells cs) 43 (0, 0))) := hA
        have HB : Hid ((wr.alloc (.cells (bcells cs) 43)).heap[wr.heap.size]? = some (.cells (bcells cs) 43 (0, 0))) := hB
        clear hA hB
        go_wp2_with (first | (with_reducible refine load43 (w.heap.size + 1) cs (by with_unfolding_all exact rfl) hrow.out hcl ?_) | (with_reducible refine alloc43 z hz43 ?_) | (with_reducible refine store43 z hz cs hcl (by with_unfolding_all exact rfl) (by with_unfolding_all exact rfl) ?_))
        refine (model_any wr.heap.size cs _ hcl HB.out).mono ?_
        rintro e w' ⟨rfl, rfl⟩
        dsimp only
        go_wp2_with fail
        refine (free_any (w.heap.size + 1) cs _ hcl HA.out).mono ?_
        rintro e w' ⟨rfl, rfl⟩
        dsimp only
        have hsp := lfrom_spec cs 256 1
        generalize lfrom cs 1 256 = m at hsp ⊢
        have hbel' : Below w.heap.size w (wr.alloc (.cells (bcells cs) 43)) := hbel.alloc hbel.size _
        generalize wr.alloc (.cells (bcells cs) 43) = W at HA HB hbel' ⊢
        have hg43 : Yba.prog.eqGuardType Yba.prog.depth 43 = false := by kernel_rfl
        have heq := eq43 cs hcl
        have hne : ((m : Int) != (m : Int)) = false := by simp
        rcases hsp with h0 | ⟨h1m, h2m, h3m⟩
        · subst h0
          go_wp2_with (first | (with_reducible refine load43 (w.heap.size + 1) cs (by with_unfolding_all exact rfl) HA.out hcl ?_) | (with_reducible refine load43 wr.heap.size cs (by with_unfolding_all exact rfl) HB.out hcl ?_))
          go_ret
          exact ⟨rfl, hbel'⟩
        · obtain ⟨hm2, hm0, hm3, hm4, hm5⟩ := mfacts h1m h2m hcl
          have hc := bcell HA.out (k := m) hm2
          rw [h3m] at hc
          clear h1m h2m h3m hm2
          go_wp2_with (first | (with_reducible refine load43 (w.heap.size + 1) cs (by with_unfolding_all exact rfl) HA.out hcl ?_) | (with_reducible refine load43 wr.heap.size cs (by with_unfolding_all exact rfl) HB.out hcl ?_))
          go_ret
          exact ⟨rfl, hbel'⟩
    · skip
      have hA : (wr.alloc (.cells (bcells cs) 43)).heap[w.heap.size + 1]? = some (.cells (bcells cs) 43 (0, 0)) := by rw [Below.heap_alloc _ _ _ (by rw [hsize.out]; omega)]; exact hrow.out
      have hB : (wr.alloc (.cells (bcells cs) 43)).heap[wr.heap.size]? = some (.cells (bcells cs) 43 (0, 0)) := heap_alloc_new _ _
      have HA : Hid ((wr.alloc (.cells (bcells cs) 43)).heap[w.heap.size + 1]? = some (.cells (bcells cs) 43 (0, 0))) := hA
      have HB : Hid ((wr.alloc (.cells (bcells cs) 43)).heap[wr.heap.size]? = some (.cells (bcells cs) 43 (0, 0))) := hB
      clear hA hB
      go_wp2_with (first | (with_reducible refine load43 (w.heap.size + 1) cs (by with_unfolding_all exact rfl) hrow.out hcl ?_) | (with_reducible refine alloc43 z hz43 ?_) | (with_reducible refine store43 z hz cs hcl (by with_unfolding_all exact rfl) (by with_unfolding_all exact rfl) ?_))
      refine (model_any wr.heap.size cs _ hcl HB.out).mono ?_
      rintro e w' ⟨rfl, rfl⟩
      dsimp only
      go_wp2_with fail
      refine (free_any (w.heap.size + 1) cs _ hcl HA.out).mono ?_
      rintro e w' ⟨rfl, rfl⟩
      dsimp only
      have hsp := lfrom_spec cs 256 1
      generalize lfrom cs 1 256 = m at hsp ⊢
      have hbel' : Below w.heap.size w (wr.alloc (.cells (bcells cs) 43)) := hbel.alloc hbel.size _
      generalize wr.alloc (.cells (bcells cs) 43) = W at HA HB hbel' ⊢
      have hg43 : Yba.prog.eqGuardType Yba.prog.depth 43 = false := by kernel_rfl
      have heq := eq43 cs hcl
      have hne : ((m : Int) != (m : Int)) = false := by simp
      rcases hsp with h0 | ⟨h1m, h2m, h3m⟩
      · subst h0
        go_wp2_with (first | (with_reducible refine load43 (w.heap.size + 1) cs (by with_unfolding_all exact rfl) HA.out hcl ?_) | (with_reducible refine load43 wr.heap.size cs (by with_unfolding_all exact rfl) HB.out hcl ?_))
        go_ret
        exact ⟨rfl, hbel'⟩
      · obtain ⟨hm2, hm0, hm3, hm4, hm5⟩ := mfacts h1m h2m hcl
        have hc := bcell HA.out (k := m) hm2
        rw [h3m] at hc
        clear h1m h2m h3m hm2
        go_wp2_with (first | (with_reducible refine load43 (w.heap.size + 1) cs (by with_unfolding_all exact rfl) HA.out hcl ?_) | (with_reducible refine load43 wr.heap.size cs (by with_unfolding_all exact rfl) HB.out hcl ?_))
        go_ret
        exact ⟨rfl, hbel'⟩
end Go.Proofs.Ybulkedti
