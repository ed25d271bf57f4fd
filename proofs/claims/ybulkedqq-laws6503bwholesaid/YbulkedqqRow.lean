import Derived.Test.YbulkedqqTree
import Derived.Laws.AppendOwnNone
import Derived.Laws.OwnMore
import Derived.Laws.MakeOwn
import Derived.OwnWalk
import Derived.RangeFuncRecord
import Derived.Maps.AppendAt
namespace Go.Proofs.Ybulkedqq
open Go.RowKit
set_option linter.unusedVariables false

theorem Yba.info32 : (Yba.prog.info? 32).map (fun i => (i.zero, i.size, i.bytes)) = some (some (.pointer none), 1, 8) := by kernel_rfl
theorem Yba.info49 : (Yba.prog.info? 49).map (fun i => (i.zero, i.size, i.bytes)) = some (some (.pointer none), 1, 8) := by kernel_rfl
theorem Yba.info25 : (Yba.prog.info? 25).map (fun i => (i.zero, i.size, i.bytes)) = some (some .nilIface, 1, 16) := by kernel_rfl
theorem Yba.info70 : (Yba.prog.info? 70).map (fun i => (i.zero, i.size, i.bytes)) = some (some (.agg #[.pointer none, .int .i64 0, .int .i64 0, .int .i64 0]), 4, 32) := by kernel_rfl
theorem Yba.info30 : (Yba.prog.info? 30).map (fun i => (i.zero, i.size, i.bytes)) = some (some (.agg #[.nilIface, .slice none 0 0, .slice none 0 0, .slice none 0 0]), 4, 88) := by kernel_rfl

/-- Row types: slices of t have elements e of size cells and no more than 88 bytes. -/
def RowTy (t e size : Nat) : Prop := Yba.prog.underlying t = some (.slice e) ∧ 0 < size ∧ ∃ i z bytes, Yba.prog.info? e = some i ∧ i.zero = some z ∧ i.size = size ∧ i.bytes = bytes ∧ bytes ≤ 88 ∧ z.cells.size = size
theorem rowTy {t e size bytes : Nat} {z : Value} (ht : Yba.prog.underlying t = some (.slice e)) (h : (Yba.prog.info? e).map (fun i => (i.zero, i.size, i.bytes)) = some (some z, size, bytes)) (hs : 0 < size) (hb : bytes ≤ 88) (hz : z.cells.size = size) : RowTy t e size := by
  obtain ⟨i, hi, h0, h1, h2⟩ := info_parts h
  exact ⟨ht, hs, i, z, bytes, hi, h0, h1, h2, hb, hz⟩
theorem row26 : RowTy 26 32 1 := rowTy Yba.underlying26 Yba.info32 (by decide) (by decide) rfl
theorem row27 : RowTy 27 70 4 := rowTy Yba.underlying27 Yba.info70 (by decide) (by decide) rfl
theorem row28 : RowTy 28 49 1 := rowTy Yba.underlying28 Yba.info49 (by decide) (by decide) rfl
theorem row48 : RowTy 48 25 1 := rowTy Yba.underlying48 Yba.info25 (by decide) (by decide) rfl
theorem row23 : RowTy 23 30 4 := rowTy Yba.underlying23 Yba.info30 (by decide) (by decide) rfl

/-- A slice that can be read: its cells are ys. -/
def RowR (w : World) (e sz : Nat) (v : Value) (m : Nat) (ys : List Value) : Prop :=
  ys.length = m * sz ∧ ∃ ao cap, v = .slice ao m cap ∧ (ao = none → m = 0 ∧ cap = 0) ∧ (0 < m → ∃ g cs, ao = some ⟨g, 0, none⟩ ∧ Rec w g e cs ∧ ∀ (j : Nat) (u : Value), ys[j]? = some u → cs[j]? = some u)
theorem RowR.nil (w : World) (e sz : Nat) : RowR w e sz (.slice none 0 0) 0 [] := ⟨by simp, none, 0, rfl, fun _ => ⟨rfl, rfl⟩, fun h => by omega⟩
theorem RowR.keep {w w' : World} {e sz m : Nat} {v : Value} {ys : List Value} (h : RowR w e sz v m ys) (hk : Kept w w') (h3 : e ≠ 3) (h30 : e ≠ 30) : RowR w' e sz v m ys := by
  obtain ⟨hl, ao, cap, h1, h2, h4⟩ := h
  refine ⟨hl, ao, cap, h1, h2, fun h0 => ?_⟩
  obtain ⟨g, cs, q1, q2, q3⟩ := h4 h0
  exact ⟨g, cs, q1, hk _ _ _ q2 h3 h30, q3⟩
theorem RowR.below {w w' : World} {e sz m N : Nat} {v : Value} {ys : List Value} (h : RowR w e sz v m ys) (hN : w.heap.size ≤ N) (hb : Below N w w') : RowR w' e sz v m ys := by
  obtain ⟨hl, ao, cap, h1, h2, h4⟩ := h
  refine ⟨hl, ao, cap, h1, h2, fun h0 => ?_⟩
  obtain ⟨g, cs, q1, q2, q3⟩ := h4 h0
  exact ⟨g, cs, q1, (hb.block g (Nat.lt_of_lt_of_le q2.lt hN)).trans q2, q3⟩
theorem own_row {w : World} {B e sz m : Nat} {v : Value} {ys : List Value} (h : w.ownsRow B e sz v m ys) : RowR w e sz v m ys := by
  refine ⟨h.1, ?_⟩
  rcases h.2 with ⟨rfl, rfl⟩ | ⟨g, cap, cur, rfl, _, hg, _, _, _, ht⟩
  · exact ⟨none, 0, rfl, fun _ => ⟨rfl, rfl⟩, fun h => by omega⟩
  · refine ⟨_, cap, rfl, fun h => by simp at h, fun _ => ⟨g, cur, rfl, hg, fun j u hu => ?_⟩⟩
    rw [← ht, List.getElem?_take] at hu
    split at hu
    · simpa using hu
    · cases hu
theorem own_shape {w : World} {B e sz m : Nat} {v : Value} {ys : List Value} (h : w.ownsRow B e sz v m ys) : ∃ ao c, v = .slice ao m c := by
  rcases h.2 with ⟨rfl, rfl⟩ | ⟨g, c, _, rfl, _⟩
  · exact ⟨_, _, rfl⟩
  · exact ⟨_, _, rfl⟩
/-- A row is not turned where a row of another type is. -/
theorem own_other {w w' : World} {B B' e e' sz sz' m m' : Nat} {v v' : Value} {ys ys' : List Value} (h : w.ownsRow B e sz v m ys) (h' : w.ownsRow B' e' sz' v' m' ys') (hne : e ≠ e') (hg : w.grownBy w' v'.ownBlock) : w'.ownsRow B e sz v m ys := by
  refine h.kept hg ?_
  rcases h.2 with ⟨rfl, _⟩ | ⟨g, cap, cur, rfl, _, hg1, _⟩
  · exact .inl rfl
  · right
    rcases h'.2 with ⟨rfl, _⟩ | ⟨g', cap', cur', rfl, _, hg2, _⟩
    · simp [Value.ownBlock]
    · simp only [Value.ownBlock, ne_eq, Option.some.injEq]
      rintro rfl
      rw [hg1] at hg2
      cases hg2
      exact hne rfl
theorem grown_below {w w' : World} {B e sz m : Nat} {v : Value} {ys : List Value} (h : w.ownsRow B e sz v m ys) (hB : B ≤ w.heap.size) (hg : w.grownBy w' v.ownBlock) : Below B w w' :=
  (Below.refl _ w).grown hg hB (fun k hk => (h.lt k hk).1)

theorem make_row {t e sz : Nat} (hty : RowTy t e sz) {ops : Array Oper} {rest : List Oper} {dst : Option Tmp} {l c : Operand} {ty : TypeId} {pos : String} {after : Array Edge} {a : Act} {w : World} {Q : Exit → Act → World → Prop} (B n : Nat) (hl : a.eval l = .int .i64 0) (x : Int) (hc : a.eval c = .int .i64 x) (hx : x = (n : Int)) (hn : n ≤ 1000000000) (hB : B ≤ w.heap.size)
    (h : ∀ v w', w'.ownsRow B e sz v 0 [] → w.grownBy w' none → (∃ ao cap, v = .slice ao 0 cap) → wpList Yba.prog ops Q rest (a.put dst v) w') :
    wpList Yba.prog ops Q (⟨dst, .makeSlice t l c, ty, pos, after, none⟩ :: rest) a w := by
  subst hx
  obtain ⟨ht, hs, i, z, bytes, hi, hz0, hz1, hz2, hz3, hz4⟩ := hty
  obtain ⟨w', hr, hown, hg⟩ := run_make_own (P := Yba.prog) w B t e i z sz ht hi hz0 hz1 .i64 .i64 n (by rw [hz2]; have := Nat.mul_le_mul hz3 hn; omega) (by unfold maxLen; omega) hB
  refine wpList_plain rfl fun K hK => ?_
  unfold Oper.wp
  simp [execOp, hl, hc, hr, Result.andThen]
  exact hK _ _ (h _ w' hown hg ⟨_, _, rfl⟩)

theorem app_row {t e sz : Nat} (hty : RowTy t e sz) {ops : Array Oper} {rest : List Oper} {dst : Option Tmp} {s x : Operand} {ty : TypeId} {pos : String} {after : Array Edge} {a : Act} {w : World} {Q : Exit → Act → World → Prop} (B : Nat) (v : Value) (n : Nat) (xs : List Value) (hs : a.eval s = v) (hown : w.ownsRow B e sz v n xs) (y : Value) (m : Nat) (ys : List Value) (hx : a.eval x = y) (hr : RowR w e sz y m ys)
    (h1 : ∀ u ∈ ys, u.oneCell' = true) (hb : n + m ≤ 1000000000) (hB : B ≤ w.heap.size)
    (h : ∀ v' w', w'.ownsRow B e sz v' (n + m) (xs ++ ys) → w.grownBy w' v.ownBlock → (∃ ao cap, v' = .slice ao (n + m) cap) → wpList Yba.prog ops Q rest (a.put dst v') w') :
    wpList Yba.prog ops Q (⟨dst, .call { callee := .builtin .append, args := #[s, x], argTypes := #[t, t] }, ty, pos, after, none⟩ :: rest) a w := by
  obtain ⟨ht, hs0, i, z, bytes, hi, hz0, hz1, hz2, hz3, hz4⟩ := hty
  obtain ⟨hl, ao, cap, rfl, hn, hm⟩ := hr
  cases ao with
  | none =>
    obtain ⟨rfl, rfl⟩ := hn rfl
    obtain rfl : ys = [] := List.eq_nil_of_length_eq_zero (by simpa using hl)
    refine wpList_append_own_none rfl s x t rfl B e i sz ht hi v n xs hs hown hx ?_
    exact h v w (by simpa using hown) ⟨rfl, rfl, rfl, Nat.le_refl _, fun _ _ _ => rfl⟩ (own_shape hown)
  | some ad =>
    refine wpList_append_own w rfl s x t rfl B e i z sz bytes ht hi hz0 hz1 hz2 hz4 hs0 v n xs hs hown ad m cap ys hx hl ?_ h1 (by unfold maxLen; omega) (by have := Nat.mul_le_mul hb hz3; omega) hB ?_
    · intro j u hu
      by_cases h0 : 0 < m
      · obtain ⟨g, cs, q1, q2, q3⟩ := hm h0
        cases q1
        rw [add_at, Nat.zero_add]
        exact rec_cell q2 j u (q3 j u hu)
      · obtain rfl : m = 0 := by omega
        rw [Nat.zero_mul] at hl
        rw [List.eq_nil_of_length_eq_zero hl] at hu
        cases hu
    · intro v' w' h2 h3 _
      exact h v' w' h2 h3 (own_shape h2)
end Go.Proofs.Ybulkedqq
