import Derived.Test.YbulkedrsStep
import Derived.Maps.OwnOps
namespace Go.Proofs.Ybulkedrs
open Go.RowKit
open Go.ChangeMaps (setBlock)

theorem findNow_none (a : Int) : ∀ (es : List MapEntry) (i : Nat), (∀ e ∈ es, ∃ b : Int, e.key = .int .i64 b ∧ b ≠ a) → Instr.findNow (.int .i64) (.int .i64 a) es i = some none
  | [], _, _ => rfl
  | e :: es, i, h => by
    obtain ⟨b, hb, hne⟩ := h e (by simp)
    unfold Instr.findNow
    rw [hb]
    have : (a == b) = false := by simpa using fun e => hne e.symm
    simp only [Instr.sameNow, if_true, this]
    exact findNow_none a es (i + 1) (fun e he => h e (by simp [he]))

theorem run_update92 {w : World} {mb : Nat} {es : Array MapEntry} {c : Nat} (hb : w.heap[mb]? = some (.map es c)) (a : Int) (v : Value) (hk : ∀ e ∈ es.toList, ∃ b : Int, e.key = .int .i64 b ∧ b ≠ a) :
    (Instr.mapUpdate 92 (.map (some mb)) (.int .i64 a) v).run Yba.prog w = .ok () (setBlock w mb (.map (es.push { key := .int .i64 a, val := v, born := c }) (c + 1))) := by
  have h3 : Yba.prog.underlying 3 = some (.int .i64) := Yba.underlying3
  have hc : (Instr.checkKey false 10000 3 (.int .i64 a)).run Yba.prog w = .ok () w := by
    exact MapKept.run_checkKey (k := .int .i64 a) h3 (show IntKind.i64 = IntKind.i64 from rfl) false 9999
  have hf : (Instr.findKey 3 (.int .i64 a) es.toList).run Yba.prog w = .ok none w := by
    exact MapKept.run_findKey h3 (findNow_none a es.toList 0 hk)
  simp only [Instr.mapUpdate, Sem.run_bind, run_underlying Yba.underlying92, Result.andThen_ok, MapKept.run_getObj_map hb, hc, hf, MapKept.run_setObj_map _ hb]
  rfl

/-- 'c.provisional[180+k] = true', at the operation. -/
theorem upd92 {ops : Array Oper} {rest : List Oper} {dst : Option Tmp} {x y z : Operand} {ty : TypeId} {pos : String} {after : Array Edge} {a : Act} {w : World} {Q : Exit → Act → World → Prop} (mb : Nat) (es : Array MapEntry) (c : Nat) (q : Int)
    (hm : a.eval x = .map (some mb)) (hy : a.eval y = .int .i64 q) (hb : w.heap[mb]? = some (.map es c)) (hk : ∀ e ∈ es.toList, ∃ b : Int, e.key = .int .i64 b ∧ b ≠ q)
    (h : wpList Yba.prog ops Q rest (a.put dst undef) (setBlock w mb (.map (es.push { key := .int .i64 q, val := a.eval z, born := c }) (c + 1)))) :
    wpList Yba.prog ops Q (⟨dst, .mapUpdate 92 x y z, ty, pos, after, none⟩ :: rest) a w := by
  refine wpList_plain rfl fun K hK => ?_
  unfold Oper.wp
  simp only [execOp, hm, hy, Sem.run_bind, run_update92 hb q _ hk, Result.andThen_ok]
  exact hK _ _ h

/-- The client in block g while its map, block mb, is being filled: j codes are in. -/
def ClM (w : World) (g mb : Nat) (m : Int) (x : Bool) (j : Nat) : Prop :=
  ∃ (cs : Array Value) (es : Array MapEntry) (c : Nat), w.heap[g]? = some (.cells cs 94 (0, 0)) ∧ cs[6]? = some (.string (mtS m)) ∧ cs[13]? = some (.map (some mb)) ∧ cs[14]? = some (.pointer none) ∧ cs[15]? = some (.bool x) ∧
    w.heap[mb]? = some (.map es c) ∧ es.size = j ∧ ∀ e ∈ es.toList, ∃ q : Nat, q < j ∧ e.key = .int .i64 (180 + (q : Int))

theorem ClM.cl {w : World} {g mb : Nat} {m p : Int} {x : Bool} {j : Nat} (h : ClM w g mb m x j) (hj : (j : Int) = p % 4) (hp : 0 < p % 4) : Cl w g m p false x := by
  obtain ⟨cs, es, c, h1, h2, h3, h4, h5, h6, h7, _⟩ := h
  exact ⟨cs, _, _, h1, h2, h3, h4, h5, rfl, .inr ⟨mb, es, c, rfl, h6, by omega, hp⟩⟩
theorem ClM.look {w : World} {g mb : Nat} {m : Int} {x : Bool} {j : Nat} (h : ClM w g mb m x j) :
    w.cell? ⟨g, 13, none⟩ = some (.map (some mb)) ∧ ∃ es c, w.heap[mb]? = some (.map es c) ∧ (∀ e ∈ es.toList, ∃ b : Int, e.key = .int .i64 b ∧ b ≠ 180 + (j : Int)) ∧
      ClM (setBlock w mb (.map (es.push { key := .int .i64 (180 + (j : Int)), val := .bool true, born := c }) (c + 1))) g mb m x (j + 1) := by
  obtain ⟨cs, es, c, h1, h2, h3, h4, h5, h6, h7, h8⟩ := h
  refine ⟨(cell_of_row w g 13 cs _ _ h1).trans h3, es, c, h6, fun e he => ?_, cs, _, _, ?_, h2, h3, h4, h5, Go.ChangeMaps.heap_setBlock_same h6 _, by simp [h7], fun e he => ?_⟩
  · obtain ⟨q, hq, hk⟩ := h8 e he
    exact ⟨_, hk, by omega⟩
  · rw [Go.ChangeMaps.heap_setBlock_other h6 _ ?_]
    · exact h1
    · intro e
      rw [e, h6] at h1
      cases h1
  · simp only [Array.toList_push, List.mem_append, List.mem_singleton] at he
    rcases he with he | rfl
    · obtain ⟨q, hq, hk⟩ := h8 e he
      exact ⟨q, by omega, hk⟩
    · exact ⟨j, by omega, rfl⟩
theorem Cl.fin {w : World} {g : Nat} {m p : Int} {x : Bool} (h : Cl w g m p false x) (a : Addr) : Cl (w.setCell ⟨g, 14, none⟩ (.pointer (some a))) g m p true x ∧ (∃ v, w.cell? ⟨g, 14, none⟩ = some v) ∧ w.frozen? ⟨g, 14, none⟩ = false := by
  obtain ⟨cs, pv, fv, h1, h2, h3, h4, h5, h6, h7⟩ := h
  have hs : 15 < cs.size := by
    rcases Nat.lt_or_ge 15 cs.size with h | h
    · exact h
    · rw [Array.getElem?_eq_none h] at h5; cases h5
  refine ⟨⟨_, pv, some a, heap_setCell_same w g 14 cs _ _ h1, ?_, ?_, ?_, ?_, rfl, ?_⟩, ⟨_, (cell_of_row w g 14 cs _ _ h1).trans h4⟩, frozen_of_row w g 14 cs _ h1⟩
  · rw [Array.getElem?_setIfInBounds_ne (by omega)]; exact h2
  · rw [Array.getElem?_setIfInBounds_ne (by omega)]; exact h3
  · rw [Array.getElem?_setIfInBounds_self_of_lt (by omega)]
  · rw [Array.getElem?_setIfInBounds_ne (by omega)]; exact h5
  · rcases h7 with h7 | ⟨mb, es, c, q1, q2, q3⟩
    · exact .inl h7
    · refine .inr ⟨mb, es, c, q1, ?_, q3⟩
      rw [Below.heap_setCell _ _ _ _ ?_]
      · exact q2
      · show mb ≠ g
        intro e
        rw [e, h1] at q2
        cases q2
theorem below_setBlock {B : Nat} {a w : World} {mb c : Nat} {es : Array MapEntry} (h : Below B a w) (hb : w.heap[mb]? = some (.map es c)) (hB : B ≤ mb) (o : Obj) : Below B a (setBlock w mb o) :=
  h.trans ⟨rfl, rfl, rfl, by simp [setBlock], fun k hk => Go.ChangeMaps.heap_setBlock_other hb _ (by omega)⟩

theorem cli_step {wr wc w1 : World} {R B k : Nat} {v v' vd : Value} {n : Nat} {S : Nat → Int} {l : List Nat} {M P : Nat → Int} {F X : Nat → Bool} {tmp : Obj} (hrun : RunAt wr R vd v) (hdl : Dlgs wr B vd n S) (hl : l.length = k) (hown : wr.ownsRow B 89 1 v k (l.map pt)) (hcs : ∀ i, i < k → Cl wr (l.getD i 0) (M i) (P i) (F i) (X i))
    (hwc : Below wr.heap.size wr wc) {g : Nat} (hcl : Cl wc g (M k) (P k) (F k) (X k)) (hgrow : (wc.alloc tmp).grownBy w1 v.ownBlock) (hown1 : w1.ownsRow B 89 1 v' (k + 1) (l.map pt ++ [pt g])) :
    RunAt (w1.setCell ⟨R, 10, none⟩ v') R vd v' ∧ Dlgs (w1.setCell ⟨R, 10, none⟩ v') B vd n S ∧ Clis (w1.setCell ⟨R, 10, none⟩ v') B v' (k + 1) M P F X := by
  have kc : Keep [89] wr wc := Keep.of_below hwc
  have ho2 : (wc.alloc tmp).ownsRow B 89 1 v k (l.map pt) := by
    refine World.ownsRow.alloc ?_ _
    exact ownsRow_keep (T := []) hown (Keep.of_below hwc) rfl
  have k1 : Keep [89] (wc.alloc tmp) w1 := (Keep.refl _ _).grown hgrow ho2 rfl
  have k0 : Keep [89] wr w1 := (kc.alloc _).trans k1
  have hr1 : RunAt w1 R vd v := hrun.keep k0 rfl
  obtain ⟨rc, hrc, _⟩ := id hr1
  have k2 : Keep [64] w1 (w1.setCell ⟨R, 10, none⟩ v') := (Keep.refl _ _).setCell (p := ⟨R, 10, none⟩) hrc rfl _
  refine ⟨hr1.set10 _, (hdl.keep k0 rfl rfl).keep k2 rfl rfl, l ++ [g], by simp [hl], ?_, fun i hi => ?_⟩
  · rw [List.map_append]
    exact ownsRow_keep hown1 k2 rfl
  · by_cases hik : i < k
    · have e : (l ++ [g]).getD i 0 = l.getD i 0 := by simp [List.getD, List.getElem?_append_left (show i < l.length by omega)]
      rw [e]
      exact ((hcs i hik).keep k0 rfl).keep k2 rfl
    · obtain rfl : i = k := by omega
      have e : (l ++ [g]).getD i 0 = g := by simp [List.getD, hl]
      rw [e]
      exact ((hcl.keep ((Keep.refl [89] wc).alloc tmp) rfl).keep k1 rfl).keep k2 rfl
end Go.Proofs.Ybulkedrs
