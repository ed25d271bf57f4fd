import Derived.Test.YbulkedrsMap
namespace Go.Proofs.Ybulkedrs
open Go.RowKit

/-- 'copy(ds, xs)', ds a row of n one-cell elements that the call has just made, xs of n elements. -/
theorem copy_own {ops : Array Oper} {rest : List Oper} {dst : Option Tmp} {x y : Operand} {ty : TypeId} {pos : String} {after : Array Edge} {a : Act} {w : World} {Q : Exit → Act → World → Prop} (dT elem : TypeId)
    (hu : Yba.prog.underlying dT = some (.slice elem)) (hsz : (Yba.prog.info? elem).map (·.size) = some 1) (g n sc : Nat) (src : Option Addr) (cs : List Value) (hn : cs.length = n) (hx : a.eval x = .slice (some ⟨g, 0, none⟩) n n) (hy : a.eval y = .slice src n sc)
    (cur : Array Value) (hg : w.heap[g]? = some (.cells cur elem (0, 0))) (hcur : cur.size = n) (hsrc : 0 < n → ∃ ad, src = some ad ∧ ∀ j v, cs[j]? = some v → w.cell? (ad.add j) = some v) (h1 : ∀ v ∈ cs, v.oneCell' = true)
    (h : ∀ w', w'.heap[g]? = some (.cells cs.toArray elem (0, 0)) → w.grownBy w' (some g) → wpList Yba.prog ops Q rest (a.put dst (goInt n)) w') :
    wpList Yba.prog ops Q (⟨dst, .call { callee := .builtin .copy, args := #[x, y], argTypes := #[dT, dT] }, ty, pos, after, none⟩ :: rest) a w := by
  by_cases h0 : n = 0
  · subst h0
    obtain rfl : cs = [] := List.eq_nil_of_length_eq_zero hn
    have hc0 : cur = #[] := Array.eq_empty_of_size_eq_zero hcur
    subst hc0
    exact wpList_copy_nothing rfl x y dT dT rfl elem hu hsz _ _ _ _ _ _ hx hy (by simp) (h w hg ⟨rfl, rfl, rfl, Nat.le_refl _, fun _ _ _ => rfl⟩)
  · obtain ⟨ad, rfl, hs⟩ := hsrc (by omega)
    refine wpList_copy_own rfl x y dT dT rfl elem hu hsz g 0 n n ad n sc hx hy cur elem hg cs (by simp [hn]) hs (by omega) h1 ?_
    have e : (cur.toList.take 0 ++ (cs ++ cur.toList.drop (0 + cs.length))).toArray = cs.toArray := by
      rw [List.drop_of_length_le (by simp [hn, hcur])]
      simp
    rw [e, hn]
    exact h _ (setRow_heap w g cur _ elem _ hg) ⟨rfl, rfl, rfl, by simp, fun k _ hk => setRow_other w g k _ (fun e => hk (by simp [e]))⟩

theorem DlC.below {B : Nat} {w w' : World} {g : Nat} {x : Int} (h : DlC w g x) (hb : Below B w w') (hB : B = w.heap.size) : DlC w' g x := by
  unfold DlC at *
  rw [hb.cell (p := ⟨g, 37, none⟩) (by rw [hB]; exact World.block_lt_of_cell? _ _ h)]
  exact h
theorem ClC.below {B : Nat} {w w' : World} {g : Nat} {m p : Int} {f x : Bool} (h : ClC w g m p f x) (hb : Below B w w') (hB : B = w.heap.size) : ClC w' g m p f x := by
  subst hB
  obtain ⟨h6, h15, ⟨fv, h14, hf⟩, h13⟩ := h
  have hlt := World.block_lt_of_cell? _ _ h6
  have e : ∀ j, w'.cell? ⟨g, j, none⟩ = w.cell? ⟨g, j, none⟩ := fun j => hb.cell (p := ⟨g, j, none⟩) hlt
  refine ⟨(e 6).trans h6, (e 15).trans h15, ⟨fv, (e 14).trans h14, hf⟩, ?_⟩
  rcases h13 with ⟨h, h13⟩ | ⟨mb, es, c, h13, q, r⟩
  · exact .inl ⟨h, (e 13).trans h13⟩
  · exact .inr ⟨mb, es, c, (e 13).trans h13, by rw [hb.block mb (Array.getElem?_eq_some_iff.1 q).1]; exact q, r⟩

/-- What the readers behind the copies see, in the world W: the dialogs by D, both rows. -/
def DSee (W : World) (R g1 n cd : Nat) (aod : Option Addr) (gd : Nat) (D : Nat → Nat) (S : Nat → Int) : Prop :=
  W.cell? ⟨R, 12, none⟩ = some (.slice aod n cd) ∧ ∀ i, i < n → aod = some ⟨gd, 0, none⟩ ∧ W.cell? ⟨gd, i, none⟩ = some (.pointer (some ⟨D i, 0, none⟩)) ∧ W.cell? ⟨g1, i, none⟩ = some (.pointer (some ⟨D i, 0, none⟩)) ∧ DlC W (D i) (S i)
def CSee (W : World) (R g2 m cc : Nat) (aoc : Option Addr) (gc : Nat) (C : Nat → Nat) (M P : Nat → Int) (F X : Nat → Bool) : Prop :=
  W.cell? ⟨R, 10, none⟩ = some (.slice aoc m cc) ∧ ∀ i, i < m → aoc = some ⟨gc, 0, none⟩ ∧ W.cell? ⟨gc, i, none⟩ = some (.pointer (some ⟨C i, 0, none⟩)) ∧ W.cell? ⟨g2, i, none⟩ = some (.pointer (some ⟨C i, 0, none⟩)) ∧ ClC W (C i) (M i) (P i) (F i) (X i)
theorem DSee.below {W w' : World} {R g1 n cd gd : Nat} {aod : Option Addr} {D : Nat → Nat} {S : Nat → Int} (h : DSee W R g1 n cd aod gd D S) (hb : Below W.heap.size W w') : DSee w' R g1 n cd aod gd D S := by
  obtain ⟨h1, h2⟩ := h
  have e : ∀ {a : Addr} {v : Value}, W.cell? a = some v → w'.cell? a = some v := fun h => (hb.cell (World.block_lt_of_cell? _ _ h)).trans h
  exact ⟨e h1, fun i hi => by obtain ⟨q1, q2, q3, q4⟩ := h2 i hi; exact ⟨q1, e q2, e q3, q4.below hb rfl⟩⟩
theorem CSee.below {W w' : World} {R g2 m cc gc : Nat} {aoc : Option Addr} {C : Nat → Nat} {M P : Nat → Int} {F X : Nat → Bool} (h : CSee W R g2 m cc aoc gc C M P F X) (hb : Below W.heap.size W w') : CSee w' R g2 m cc aoc gc C M P F X := by
  obtain ⟨h1, h2⟩ := h
  have e : ∀ {a : Addr} {v : Value}, W.cell? a = some v → w'.cell? a = some v := fun h => (hb.cell (World.block_lt_of_cell? _ _ h)).trans h
  exact ⟨e h1, fun i hi => by obtain ⟨q1, q2, q3, q4⟩ := h2 i hi; exact ⟨q1, e q2, e q3, q4.below hb rfl⟩⟩

theorem row_pts {w : World} {B e n c : Nat} {ao : Option Addr} {l : List Nat} (h : w.ownsRow B e 1 (.slice ao n c) n (l.map pt)) (hl : l.length = n) :
    ∃ g, ∀ i, i < n → ao = some ⟨g, 0, none⟩ ∧ w.cell? ⟨g, i, none⟩ = some (.pointer (some ⟨l.getD i 0, 0, none⟩)) := by
  rcases h.2 with ⟨_, h0⟩ | ⟨g, cap, cur, hv, _, hg, _⟩
  · exact ⟨0, fun i hi => by omega⟩
  · refine ⟨g, fun i hi => ?_⟩
    have hao : ao = some ⟨g, 0, none⟩ := by simp at hv; exact hv.1
    subst hao
    refine ⟨rfl, ?_⟩
    rw [h.cellAt i (by omega), List.getElem?_map, List.getElem?_eq_getElem (by omega)]
    simp [pt, List.getD, List.getElem?_eq_getElem (show i < l.length by omega)]
theorem row_pts_whole {w : World} {e g : Nat} {l : List Nat} (h : w.heap[g]? = some (.cells (l.map pt).toArray e (0, 0))) (i : Nat) (hi : i < l.length) : w.cell? ⟨g, i, none⟩ = some (.pointer (some ⟨l.getD i 0, 0, none⟩)) := by
  rw [cell_of_row w g i _ _ _ h]
  simp [pt, List.getD, List.getElem?_eq_getElem hi]
theorem srcs_of {w : World} {B e n c : Nat} {ao : Option Addr} {xs : List Value} (h : w.ownsRow B e 1 (.slice ao n c) n xs) : 0 < n → ∃ ad, ao = some ad ∧ ∀ j v, xs[j]? = some v → w.cell? (ad.add j) = some v := by
  intro h0
  rcases h.2 with ⟨_, h1⟩ | ⟨g, cap, cur, hv, _⟩
  · omega
  · have hao : ao = some ⟨g, 0, none⟩ := by simp at hv; exact hv.1
    subst hao
    exact ⟨_, rfl, h.cells (g := g) rfl⟩
theorem made_row {w' : World} {B e n : Nat} {xs : List Value} {g : Nat} (h : w'.ownsRow B e 1 (.slice (some ⟨g, 0, none⟩) n n) n xs) : ∃ cur : Array Value, w'.heap[g]? = some (.cells cur e (0, 0)) ∧ cur.size = n := by
  rcases h.2 with ⟨h, _⟩ | ⟨g', c, cur, hv, _, hg, _, _, hs, _⟩
  · simp at h
  · simp only [Value.slice.injEq, Option.some.injEq, Addr.mk.injEq, and_true, true_and] at hv
    obtain ⟨rfl, rfl⟩ := hv
    exact ⟨cur, hg, by simpa using hs⟩
theorem pts_one (l : List Nat) : ∀ v ∈ l.map pt, v.oneCell' = true := by
  intro v hv
  obtain ⟨g, _, rfl⟩ := List.mem_map.1 hv
  rfl
end Go.Proofs.Ybulkedrs
