import Derived.Test.YbulkedqqOps
import Derived.Deep.RegionHeld3
import Derived.Deep.AppendLies
import Derived.Deep.DrawnRows
import Derived.Deep.RegionLaw
namespace Go.Proofs.Ybulkedqq
open Go.RowKit
set_option linter.unusedVariables false
attribute [local go_sem] Go.wp_at_zero Go.wp_at_succ

theorem step_call2 {P : Program} {ops : Array Oper} {o : Oper} {a : Act} {w : World} {K : Act → World → Prop} {Q : Exit → Act → World → Prop} {E : Prop} (hgd : o.guard = none) (f : FuncId) (x y : Operand) (ty : Array TypeId)
    (hop : o.op = .call { callee := .value (.func f), args := #[x, y], argTypes := ty }) (fn : Func) (hf : P.funcs[f]? = some fn) (hname : (fn.name == "runtime.NumGoroutine") = false) (hb : fn.body.isNone = false) (v v' : Value) (hx : a.eval x = v) (hy : a.eval y = v') {R : Value → World → Prop} (hc : Calls P f #[v, v'] w fun e w' => ∃ r, e = .returned r ∧ R r w') (hK : ∀ r w', R r w' → K (a.put o.dst r) w') :
    if Region.wanted o (yielded ops a.tmps) = true then Oper.wp P o a w K Q else E := by
  have hw : Region.wanted o (yielded ops a.tmps) = true := by simp [Region.wanted, hgd]
  rw [if_pos hw]
  have hrun : (execOp a.eval o).run P w = .ok (.enter f #[v, v']) w := by
    have hcf : ∀ args, (callFunc f args).run P w = .ok (.enter f args) w := fun args => by
      have hb' : fn.body.isNone = false := hb
      simp only [callFunc, Sem.run_bind, run_program, Result.andThen_ok, hf, hname, hb']
      simp
    simp [execOp, hop, resolve, go_sem, hcf]
    constructor
    · cases x <;> simpa [Act.eval] using hx
    · cases y <;> simpa [Act.eval] using hy
  unfold Oper.wp
  rw [hrun, Oper.upon_enter]
  refine hc.mono fun e w' h => ?_
  obtain ⟨r, rfl, hr⟩ := h
  exact hK r w' hr

theorem app_step {t e sz : Nat} (hty : RowTy t e sz) {ops : Array Oper} {o : Oper} {a : Act} {w : World} {K : Act → World → Prop} {Q : Exit → Act → World → Prop} {EE : Prop} (hgd : o.guard = none) (s x : Operand)
    (ho : o.op = .call { callee := .builtin .append, args := #[s, x], argTypes := #[t, t] }) (B : Nat) (v : Value) (n : Nat) (xs : List Value) (hs : a.eval s = v) (hown : w.ownsRow B e sz v n xs) (y : Value) (ys : List Value) (hx : a.eval x = y) (hr : RowR w e sz y 1 ys)
    (h1 : ∀ u ∈ ys, u.oneCell' = true) (hb : n + 1 ≤ 1000000000) (hB : B ≤ w.heap.size)
    (h : ∀ g cap w', w'.ownsRow B e sz (.slice (some ⟨g, 0, none⟩) (n + 1) cap) (n + 1) (xs ++ ys) → w.grownBy w' v.ownBlock → K (a.put o.dst (.slice (some ⟨g, 0, none⟩) (n + 1) cap)) w') :
    if Region.wanted o (yielded ops a.tmps) = true then Oper.wp Yba.prog o a w K Q else EE := by
  obtain ⟨ht, hs0, i, z, bytes, hi, hz0, hz1, hz2, hz3, hz4⟩ := hty
  obtain ⟨hl, ao, cap, rfl, hn, hm⟩ := hr
  obtain ⟨g, cs, rfl, q2, q3⟩ := hm (by omega)
  refine step_append_lies w hgd s x t ho B e i z sz bytes ht hi hz0 hz1 hz2 hz4 hs0 v n xs hs hown ⟨g, 0, none⟩ 1 cap ys hx hl ?_ h1 (by omega) (by unfold maxLen; omega) (by have := Nat.mul_le_mul hb hz3; omega) hB w.heap.size rfl ?_
  · intro j u hu
    rw [add_at, Nat.zero_add]
    exact rec_cell q2 j u (q3 j u hu)
  · intro g' cap' w' h2 h3 _ _
    exact h g' cap' w' h2 h3

theorem wrapL (L : Nat) (h : L ≤ 1000000) : IntKind.i64.wrap (L : Int) = (L : Int) := by
  simp [IntKind.wrap, IntKind.signed, IntKind.bits]
  omega

/-- The two top entries give way to their join. -/
def joinE (b : Nat) (sv jv nv : Value) (T T' : Pl) : Ent := ⟨.iface 68 (pt b), sv, jv, nv, joinT b T T'⟩
theorem push_join {wr w2 w3 : World} {N a b c m cap d : Nat} {ao : Option Addr} {pre : List Ent} {El Er : Ent} {r : Value} (h : St wr N (.slice ao m cap) (pre ++ [El, Er]) a b c) (hN : N ≤ wr.heap.size) (hb2 : Below wr.heap.size wr w2) (hj : Joind w2 d El.T Er.T (.returned r) w3) :
    ∃ jb sv jv nv, r = .agg #[.iface 68 (.pointer (some ⟨jb, 0, none⟩)), sv, jv, nv] ∧
    (w3.alloc (.cells #[.iface 68 (.pointer (some ⟨jb, 0, none⟩)), sv, jv, nv] 30)).ownsRow N 30 4 (.slice ao pre.length cap) pre.length (pre.flatMap ec) ∧ RowR (w3.alloc (.cells #[.iface 68 (.pointer (some ⟨jb, 0, none⟩)), sv, jv, nv] 30)) 30 4 (.slice (some ⟨w3.heap.size, 0, none⟩) 1 1) 1 (ec (joinE jb sv jv nv El.T Er.T)) ∧ N ≤ (w3.alloc (.cells #[.iface 68 (.pointer (some ⟨jb, 0, none⟩)), sv, jv, nv] 30)).heap.size ∧
    (∀ u ∈ ec (joinE jb sv jv nv El.T Er.T), u.oneCell' = true) ∧
    ∀ v' w4, w4.ownsRow N 30 4 v' (pre.length + 1) (pre.flatMap ec ++ ec (joinE jb sv jv nv El.T Er.T)) → (w3.alloc (.cells #[.iface 68 (.pointer (some ⟨jb, 0, none⟩)), sv, jv, nv] 30)).grownBy w4 (Value.slice ao pre.length cap).ownBlock → St w4 N v' (pre ++ [joinE jb sv jv nv El.T Er.T]) a b c ∧ Below N wr w4 := by
  obtain ⟨jb, sv, jv, nv, he, hent, hT, htag, hge, hb3⟩ := hj
  injection he with he
  refine ⟨jb, sv, jv, nv, he, ?_⟩
  have hb23 : Below wr.heap.size wr w3 := hb2.trans (hb3.mono hb2.size)
  have hE : EntOK w3 (d + 1) (joinE jb sv jv nv El.T Er.T) := ⟨hent, hT⟩
  have hkeys : ((joinE jb sv jv nv El.T Er.T).T.j.map (·.1)).Perm ([jb] ++ fJ ([El, Er].map (·.T))) := by
    show ((joinT jb El.T Er.T).j.map (·.1)).Perm _
    rw [join_keys, cat_j_keys]
    simp only [fJ, List.map_cons, List.map_nil, List.flatMap_cons, List.flatMap_nil, List.append_nil]
    exact List.perm_append_comm
  have := St.push (fs := []) (fj := [jb]) (fn := []) h hN hb23 (joinE jb sv jv nv El.T Er.T) (d + 1) hE (by simp [joinE, joinT, fS]) hkeys (by simp [joinE, joinT, fN]) (by simp) (by simp) (by simp) (by simp) (by simpa using ⟨Nat.le_trans hb2.size hge, htag⟩) (by simp) a b c (by simp) (by simp) (by simp)
  exact ⟨this.1, this.2.1, this.2.2.1, hE.one, this.2.2.2⟩

theorem catAll_s : ∀ (l : List Pl) (t : Pl), (catAll l t).s = t.s ++ fS l
  | [], t => by simp [catAll, fS]
  | x :: l, t => by
    rw [catAll, catAll_s l (t.cat x)]
    simp [Pl.cat, fS]
theorem catAll_j : ∀ (l : List Pl) (t : Pl), (catAll l t).j.map (·.1) = t.j.map (·.1) ++ fJ l
  | [], t => by simp [catAll, fJ]
  | x :: l, t => by
    rw [catAll, catAll_j l (t.cat x), cat_j_keys]
    simp [fJ]
theorem catAll_n : ∀ (l : List Pl) (t : Pl), (catAll l t).n.map (·.2) = t.n.map (·.2) ++ fN l
  | [], t => by simp [catAll, fN]
  | x :: l, t => by
    rw [catAll, catAll_n l (t.cat x)]
    simp [Pl.cat, fN]
/-- What the first few of the top entries hold is no more than what the stack holds. -/
theorem cnt_take {pre pop : List Ent} {a b c : Nat} (h : Cnt ((pre ++ pop).map (·.T)) a b c) (i : Nat) : (catAll ((pop.take i).map (·.T)) Pl.nil).s.length ≤ a ∧ (catAll ((pop.take i).map (·.T)) Pl.nil).j.length ≤ b ∧ (catAll ((pop.take i).map (·.T)) Pl.nil).n.length ≤ c := by
  obtain ⟨h1, h2, h3⟩ := h
  have e : (pre ++ pop).map (·.T) = pre.map (·.T) ++ ((pop.take i).map (·.T) ++ (pop.drop i).map (·.T)) := by
    rw [← List.map_append, List.take_append_drop, List.map_append]
  rw [e, fS_append, fS_append] at h1
  rw [e, fJ_append, fJ_append] at h2
  rw [e, fN_append, fN_append] at h3
  simp only [List.length_append] at h1 h2 h3
  have e1 : (catAll ((pop.take i).map (·.T)) Pl.nil).s.length = (fS ((pop.take i).map (·.T))).length := by rw [catAll_s]; simp [Pl.nil]
  have e2 : (catAll ((pop.take i).map (·.T)) Pl.nil).j.length = (fJ ((pop.take i).map (·.T))).length := by
    have := congrArg List.length (catAll_j ((pop.take i).map (·.T)) Pl.nil)
    rw [List.length_map, List.length_append] at this
    rw [this]; simp [Pl.nil]
  have e3 : (catAll ((pop.take i).map (·.T)) Pl.nil).n.length = (fN ((pop.take i).map (·.T))).length := by
    have := congrArg List.length (catAll_n ((pop.take i).map (·.T)) Pl.nil)
    rw [List.length_map, List.length_append] at this
    rw [this]; simp [Pl.nil]
  exact ⟨by omega, by omega, by omega⟩
theorem split_of {Es : List Ent} {j : Nat} (h : j ≤ Es.length) : ∃ pre pop, Es = pre ++ pop ∧ pop.length = j :=
  ⟨Es.take (Es.length - j), Es.drop (Es.length - j), by rw [List.take_append_drop], by simp; omega⟩
theorem take_succ_ent {pop : List Ent} {i : Nat} {E : Ent} (h : pop[i]? = some E) : catAll ((pop.take (i + 1)).map (·.T)) Pl.nil = (catAll ((pop.take i).map (·.T)) Pl.nil).cat E.T ∧ (pop.take (i + 1)).map (·.p) = (pop.take i).map (·.p) ++ [E.p] := by
  rw [List.take_add_one, h]
  simp only [Option.toList_some, List.map_append, List.map_cons, List.map_nil]
  exact ⟨catAll_snoc _ _ _, trivial⟩
/-- An own node over the top entries. -/
def nodeE (nb cb : Nat) (sv jv nv : Value) (pop : List Ent) : Ent := ⟨.iface 49 (pt nb), sv, jv, nv, nodeT nb cb (catAll (pop.map (·.T)) Pl.nil)⟩
theorem push_node {wr w1 : World} {N a b c m cap d nb cb : Nat} {ao : Option Addr} {pre pop : List Ent} {sv jv nv : Value} (h : St wr N (.slice ao m cap) (pre ++ pop) a b c) (hN : N ≤ wr.heap.size) (hb1 : Below wr.heap.size wr w1) (hE : EntOK w1 d (nodeE nb cb sv jv nv pop)) (hcb : wr.heap.size ≤ cb) (hrc : Rec w1 cb 3 #[.int .i64 0]) :
    (w1.alloc (.cells #[.iface 49 (.pointer (some ⟨nb, 0, none⟩)), sv, jv, nv] 30)).ownsRow N 30 4 (.slice ao pre.length cap) pre.length (pre.flatMap ec) ∧ RowR (w1.alloc (.cells #[.iface 49 (.pointer (some ⟨nb, 0, none⟩)), sv, jv, nv] 30)) 30 4 (.slice (some ⟨w1.heap.size, 0, none⟩) 1 1) 1 (ec (nodeE nb cb sv jv nv pop)) ∧ N ≤ (w1.alloc (.cells #[.iface 49 (.pointer (some ⟨nb, 0, none⟩)), sv, jv, nv] 30)).heap.size ∧
    (∀ u ∈ ec (nodeE nb cb sv jv nv pop), u.oneCell' = true) ∧
    ∀ v' w3, w3.ownsRow N 30 4 v' (pre.length + 1) (pre.flatMap ec ++ ec (nodeE nb cb sv jv nv pop)) → (w1.alloc (.cells #[.iface 49 (.pointer (some ⟨nb, 0, none⟩)), sv, jv, nv] 30)).grownBy w3 (Value.slice ao pre.length cap).ownBlock → St w3 N v' (pre ++ [nodeE nb cb sv jv nv pop]) a (b + 1) (c + 1) ∧ Below N wr w3 := by
  have hs : (nodeE nb cb sv jv nv pop).T.s.Perm ([] ++ fS (pop.map (·.T))) := by
    show (catAll (pop.map (·.T)) Pl.nil).s.Perm _
    rw [catAll_s]; simp [Pl.nil]
  have hj : ((nodeE nb cb sv jv nv pop).T.j.map (·.1)).Perm ([] ++ fJ (pop.map (·.T))) := by
    show ((catAll (pop.map (·.T)) Pl.nil).j.map (·.1)).Perm _
    rw [catAll_j]; simp [Pl.nil]
  have hn : ((nodeE nb cb sv jv nv pop).T.n.map (·.2)).Perm ([cb] ++ fN (pop.map (·.T))) := by
    show (((catAll (pop.map (·.T)) Pl.nil).n ++ [(nb, cb)]).map (·.2)).Perm _
    rw [List.map_append, catAll_n]
    simp only [Pl.nil, List.map_nil, List.nil_append, List.map_cons]
    exact List.perm_append_comm
  have := St.push (fs := []) (fj := []) (fn := [cb]) h hN hb1 (nodeE nb cb sv jv nv pop) d hE hs hj hn (by simp) (by simp) (by simp) (by simp) (by simp) (by simpa using ⟨hcb, hrc⟩) a (b + 1) (c + 1) (by simp) (by simp) (by simp)
  exact ⟨this.1, this.2.1, this.2.2.1, hE.one, this.2.2.2⟩

theorem split_at' : ∀ {pop : List Ent} {q : Nat} {E : Ent}, pop[q]? = some E → pop = pop.take q ++ E :: pop.drop (q + 1)
  | x :: pop, 0, E, h => by
    simp only [List.getElem?_cons_zero, Option.some.injEq] at h
    simp [h]
  | x :: pop, q + 1, E, h => by
    have := split_at' (pop := pop) (q := q) (by simpa using h)
    simp only [List.take_succ_cons, List.drop_succ_cons, List.cons_append]
    rw [← this]
  | [], q, E, h => by simp at h
theorem own_mono {w : World} {B B' e sz m : Nat} {v : Value} {ys : List Value} (h : w.ownsRow B e sz v m ys) (hB : B' ≤ B) : w.ownsRow B' e sz v m ys := by
  refine ⟨h.1, ?_⟩
  rcases h.2 with hn | ⟨g, cap, cur, hv, hb, r⟩
  · exact .inl hn
  · exact .inr ⟨g, cap, cur, hv, by omega, r⟩
theorem own_below {w w' : World} {B e sz m : Nat} {v : Value} {ys : List Value} (h : w.ownsRow B e sz v m ys) (hb : Below w.heap.size w w') : w'.ownsRow B e sz v m ys := by
  refine h.kept (row := none) ⟨hb.os, hb.tape, hb.output, hb.size, fun k hk _ => hb.block k hk⟩ ?_
  by_cases e : v.ownBlock = none
  · exact .inl e
  · exact .inr e
theorem own_set4 {w : World} {B e sz m g : Nat} {x0 x1 x2 x3 : Value} {v : Value} {ys : List Value} (h : w.ownsRow B e sz v m ys) (hr : Rec w g 30 #[x0, x1, x2, x3]) (hne : e ≠ 30) (a b c d : Value) : (set4 w g a b c d).ownsRow B e sz v m ys :=
  own_set' (g := 0) (p := ⟨g, 3, none⟩) (own_set' (g := 0) (p := ⟨g, 2, none⟩) (own_set' (g := 0) (p := ⟨g, 1, none⟩) (own_set' (g := 0) (p := ⟨g, 0, none⟩) h hr hne) (hr.set 0 a) hne) ((hr.set 0 a).set 1 b) hne) (((hr.set 0 a).set 1 b).set 2 c) hne
theorem set4_size (w : World) (g : Nat) (a b c d : Value) : (set4 w g a b c d).heap.size = w.heap.size := by simp [set4, World.setCell]
theorem set4_other {w : World} {g B t : Nat} {cs : Array Value} (h : Rec w B t cs) (hne : B ≠ g) (a b c d : Value) : Rec (set4 w g a b c d) B t cs :=
  (((h.other (a := ⟨g, 0, none⟩) hne a).other (a := ⟨g, 1, none⟩) hne b).other (a := ⟨g, 2, none⟩) hne c).other (a := ⟨g, 3, none⟩) hne d

/-- One round over the top entries: the entry c is put behind e, and its plan among the kids. -/
theorem kid_step {W0 wr w4 : World} {Z q vc ty pb : Nat} {va : Option Addr} {T' : Pl} {s0 j0 n0 sv jv nv sv' jv' nv' : Value} {ps : List Value} (hre : Rec wr Z 30 #[.nilIface, sv, jv, nv]) (hop : wr.ownsRow Z 25 1 (.slice va q vc) q ps) (hb : Below Z W0 wr)
    (ho4 : EntO w4 (wr.alloc (.cells #[.iface ty (.pointer (some ⟨pb, 0, none⟩)), s0, j0, n0] 30)).heap.size T' sv' jv' nv') (hb4 : Below (wr.alloc (.cells #[.iface ty (.pointer (some ⟨pb, 0, none⟩)), s0, j0, n0] 30)).heap.size (wr.alloc (.cells #[.iface ty (.pointer (some ⟨pb, 0, none⟩)), s0, j0, n0] 30)) w4) :
    Rec w4 Z 30 #[.nilIface, sv, jv, nv] ∧ Rec (set4 w4 Z .nilIface sv' jv' nv') wr.heap.size 30 #[.iface ty (.pointer (some ⟨pb, 0, none⟩)), s0, j0, n0] ∧
    ((set4 w4 Z .nilIface sv' jv' nv').alloc (.cells #[.iface ty (.pointer (some ⟨pb, 0, none⟩))] 25)).ownsRow Z 25 1 (.slice va q vc) q ps ∧ RowR ((set4 w4 Z .nilIface sv' jv' nv').alloc (.cells #[.iface ty (.pointer (some ⟨pb, 0, none⟩))] 25)) 25 1 (.slice (some ⟨w4.heap.size, 0, none⟩) 1 1) 1 [.iface ty (.pointer (some ⟨pb, 0, none⟩))] ∧ Z ≤ ((set4 w4 Z .nilIface sv' jv' nv').alloc (.cells #[.iface ty (.pointer (some ⟨pb, 0, none⟩))] 25)).heap.size ∧
    ∀ v' w7, w7.ownsRow Z 25 1 v' (q + 1) (ps ++ [.iface ty (.pointer (some ⟨pb, 0, none⟩))]) → ((set4 w4 Z .nilIface sv' jv' nv').alloc (.cells #[.iface ty (.pointer (some ⟨pb, 0, none⟩))] 25)).grownBy w7 (Value.slice va q vc).ownBlock →
      Rec w7 Z 30 #[.nilIface, sv', jv', nv'] ∧ EntO w7 Z T' sv' jv' nv' ∧ Below Z W0 w7 := by
  have hZl := hre.lt
  have hb3 : Below wr.heap.size wr (wr.alloc (.cells #[.iface ty (.pointer (some ⟨pb, 0, none⟩)), s0, j0, n0] 30)) := (Below.refl _ wr).alloc (Nat.le_refl _) _
  have hb34 : Below wr.heap.size wr w4 := hb3.trans (hb4.mono hb3.size)
  have hre4 : Rec w4 Z 30 #[.nilIface, sv, jv, nv] := (hb34.block Z hZl).trans hre
  have hbox4 : Rec w4 wr.heap.size 30 #[.iface ty (.pointer (some ⟨pb, 0, none⟩)), s0, j0, n0] := (hb4.block _ (by simp)).trans (rec_new _ _ _)
  have hop4 := own_below hop hb34
  have hop5 := own_set4 hop4 hre4 (by decide) .nilIface sv' jv' nv'
  have hop6 := hop5.alloc (.cells #[.iface ty (.pointer (some ⟨pb, 0, none⟩))] 25)
  have hsz4 : Z ≤ w4.heap.size := by have := hb34.size; omega
  have hsz6 : Z ≤ ((set4 w4 Z .nilIface sv' jv' nv').alloc (.cells #[.iface ty (.pointer (some ⟨pb, 0, none⟩))] 25)).heap.size := by simp [set4_size]; omega
  have hbZ4 : Below Z W0 w4 := hb.trans (hb34.mono (by omega))
  have hbZ6 : Below Z W0 ((set4 w4 Z .nilIface sv' jv' nv').alloc (.cells #[.iface ty (.pointer (some ⟨pb, 0, none⟩))] 25)) := (set4_below hbZ4 (Nat.le_refl _) _ _ _ _).alloc (by rw [set4_size]; omega) _
  refine ⟨hre4, set4_other hbox4 (by omega) _ _ _ _, hop6, row_one (rec_new' _ _ _ _ (set4_size _ _ _ _ _ _)), hsz6, fun v' w7 ho7 hg7 => ⟨?_, ⟨?_, ?_, ?_⟩, ?_⟩⟩
  · exact rec_other ((set4_rec hre4 _ _ _ _).alloc _) hop6 (by decide) hg7
  · exact own_other (own_mono ((own_set4 ho4.1 hre4 (by decide) _ _ _ _).alloc _) (by simp; omega)) hop6 (by decide) hg7
  · exact own_other (own_mono ((own_set4 ho4.2.1 hre4 (by decide) _ _ _ _).alloc _) (by simp; omega)) hop6 (by decide) hg7
  · exact own_other (own_mono ((own_set4 ho4.2.2 hre4 (by decide) _ _ _ _).alloc _) (by simp; omega)) hop6 (by decide) hg7
  · exact hbZ6.trans (grown_below hop6 hsz6 hg7)

/-- The own node is made: its counter (block Y), itself (block Y + 1), the list of nodes. -/
theorem node_step {W0 wr : World} {Z Y j vc : Nat} {va : Option Addr} {TT : Pl} {sv jv nv : Value} {ps : List Value} (hY : wr.heap.size = Y) (hre : Rec wr Z 30 #[.nilIface, sv, jv, nv]) (heo : EntO wr Z TT sv jv nv) (hop : wr.ownsRow Z 25 1 (.slice va j vc) j ps) (hb : Below Z W0 wr) :
    let w1 := (wr.alloc (.cells #[.int .i64 0] 3)).alloc (.cells #[.slice va j vc, .pointer (some ⟨Y, 0, none⟩)] 52)
    let w2 := w1.setCell ⟨Z, 0, none⟩ (.iface 49 (.pointer (some ⟨Y + 1, 0, none⟩)))
    let w3 := w2.alloc (.cells #[.pointer (some ⟨Y + 1, 0, none⟩)] 49)
    Rec w1 Z 30 #[.nilIface, sv, jv, nv] ∧ Rec w2 Z 30 #[.iface 49 (.pointer (some ⟨Y + 1, 0, none⟩)), sv, jv, nv] ∧ w2.heap.size = Y + 1 + 1 ∧ w3.ownsRow Z 49 1 nv TT.n.length (TT.n.map fun p => pt p.1) ∧ RowR w3 49 1 (.slice (some ⟨Y + 1 + 1, 0, none⟩) 1 1) 1 [.pointer (some ⟨Y + 1, 0, none⟩)] ∧ Z ≤ w3.heap.size ∧
    ∀ nv' w4, w4.ownsRow Z 49 1 nv' (TT.n.length + 1) ((TT.n.map fun p => pt p.1) ++ [.pointer (some ⟨Y + 1, 0, none⟩)]) → w3.grownBy w4 nv.ownBlock →
      Rec w4 Z 30 #[.iface 49 (.pointer (some ⟨Y + 1, 0, none⟩)), sv, jv, nv] ∧ Rec (w4.setCell ⟨Z, 3, none⟩ nv') Z 30 #[.iface 49 (.pointer (some ⟨Y + 1, 0, none⟩)), sv, jv, nv'] ∧ EntR (w4.setCell ⟨Z, 3, none⟩ nv') (nodeT (Y + 1) Y TT) sv jv nv' ∧ Rec (w4.setCell ⟨Z, 3, none⟩ nv') Y 3 #[.int .i64 0] ∧ Rec (w4.setCell ⟨Z, 3, none⟩ nv') (Y + 1) 52 #[.slice va j vc, .pointer (some ⟨Y, 0, none⟩)] ∧ RowR (w4.setCell ⟨Z, 3, none⟩ nv') 25 1 (.slice va j vc) j ps ∧ Below Z W0 (w4.setCell ⟨Z, 3, none⟩ nv') := by
  intro w1 w2 w3
  have hZY : Z < Y := by rw [← hY]; exact hre.lt
  have hre1 : Rec w1 Z 30 #[.nilIface, sv, jv, nv] := (hre.alloc _).alloc _
  have hre2 : Rec w2 Z 30 #[.iface 49 (.pointer (some ⟨Y + 1, 0, none⟩)), sv, jv, nv] := hre1.set 0 _
  have hre3 : Rec w3 Z 30 #[.iface 49 (.pointer (some ⟨Y + 1, 0, none⟩)), sv, jv, nv] := hre2.alloc _
  have hc1 : Rec w1 Y 3 #[.int .i64 0] := (rec_new' _ _ _ _ hY).alloc _
  have hn1 : Rec w1 (Y + 1) 52 #[.slice va j vc, .pointer (some ⟨Y, 0, none⟩)] := rec_new' _ _ _ _ (by simp [hY])
  have hc3 : Rec w3 Y 3 #[.int .i64 0] := (hc1.other (a := ⟨Z, 0, none⟩) (by simp; omega) _).alloc _
  have hn3 : Rec w3 (Y + 1) 52 #[.slice va j vc, .pointer (some ⟨Y, 0, none⟩)] := (hn1.other (a := ⟨Z, 0, none⟩) (by simp; omega) _).alloc _
  have hs2 : w2.heap.size = Y + 1 + 1 := by simp [w2, w1, World.setCell, hY]
  have hown : ∀ {e sz m v ys}, e ≠ 30 → wr.ownsRow Z e sz v m ys → w3.ownsRow Z e sz v m ys := fun hne h => (own_set' (g := 0) (p := ⟨Z, 0, none⟩) ((h.alloc _).alloc _) hre1 hne).alloc _
  have ho3 := hown (by decide) heo.2.2
  have hb1 : Below Z W0 w1 := (hb.alloc (by omega) _).alloc (by simp; omega) _
  have hb3 : Below Z W0 w3 := (hb1.setCell (p := ⟨Z, 0, none⟩) (Nat.le_refl _) _).alloc (by show Z ≤ w2.heap.size; omega) _
  have hs3 : Z ≤ w3.heap.size := by simp [w3, hs2]; omega
  refine ⟨hre1, hre2, hs2, ho3, row_one (rec_new' _ _ _ _ hs2), hs3, fun nv' w4 ho4 hg4 => ?_⟩
  have hre4 := rec_other hre3 ho3 (by decide) hg4
  have hkeep : ∀ {b t cs}, Rec w3 b t cs → t ≠ 49 → t ≠ 30 → Rec (w4.setCell ⟨Z, 3, none⟩ nv') b t cs := fun h h49 h30 => KeptB.set' (p := ⟨Z, 3, none⟩) hre4 nv' _ _ _ (rec_other h ho3 h49 hg4) h30
  have hk5 : KeptB w4 (w4.setCell ⟨Z, 3, none⟩ nv') := KeptB.set' (p := ⟨Z, 3, none⟩) hre4 nv'
  have hrow : ∀ {e sz m v ys}, e ≠ 3 → e ≠ 30 → e ≠ 49 → wr.ownsRow Z e sz v m ys → RowR (w4.setCell ⟨Z, 3, none⟩ nv') e sz v m ys := fun h3 h30 h49 h => (own_row (own_other (hown h30 h) ho3 h49 hg4)).keep hk5.kept h3 h30
  refine ⟨hre4, hre4.set 3 _, ⟨hrow (by decide) (by decide) (by decide) heo.1, hrow (by decide) (by decide) (by decide) heo.2.1, ?_⟩, hkeep hc3 (by decide) (by decide), hkeep hn3 (by decide) (by decide), hrow (by decide) (by decide) (by decide) hop, (hb3.trans (grown_below ho3 hs3 hg4)).setCell (p := ⟨Z, 3, none⟩) (Nat.le_refl _) _⟩
  have := (own_row ho4).keep hk5.kept (by decide) (by decide)
  simpa [nodeT, pt] using this

theorem node_ok {W0 w5 : World} {N a b c Y j vc : Nat} {va : Option Addr} {v : Value} {pre pop : List Ent} {sv jv nv : Value} (h : St W0 N v (pre ++ pop) a b c) (hb : Below W0.heap.size W0 w5) (hpop : pop.length = j) (hj : j ≤ 2) (hent : EntR w5 (nodeT (Y + 1) Y (catAll (pop.map (·.T)) Pl.nil)) sv jv nv) (hn : Rec w5 (Y + 1) 52 #[.slice va j vc, .pointer (some ⟨Y, 0, none⟩)]) (hr : RowR w5 25 1 (.slice va j vc) j (pop.map (·.p))) :
    ∃ d, EntOK w5 d (nodeE (Y + 1) Y sv jv nv pop) := by
  obtain ⟨_, ⟨d, hd⟩, _⟩ := h
  refine ⟨d + 1, hent, .inr (.inr (.inr (.inr (.inr ⟨Y + 1, Y, _, va, vc, pop.map (fun E => (E.p, E.T)), rfl, hn, ?_, rfl, ?_, ?_, ?_, ?_⟩))))⟩
  · simp [hpop]
  · intro h0
    obtain ⟨_, ao', cap', he, _, hrow⟩ := hr
    injection he with e1 e2 e3
    subst e1
    obtain ⟨g, cs, q1, q2, q3⟩ := hrow (by simpa [hpop] using h0)
    refine ⟨g, cs, q1, q2, fun i kk hk => ?_⟩
    rw [List.getElem?_map] at hk
    apply q3
    rw [List.getElem?_map]
    cases hp : pop[i]? with
    | none => rw [hp] at hk; cases hk
    | some E =>
      rw [hp] at hk
      simp only [Option.map_some, Option.some.injEq] at hk ⊢
      rw [← hk]
  · intro kk hk
    obtain ⟨E, hE, rfl⟩ := List.mem_map.1 hk
    exact ((hd E (by simp [hE])).keep (KeptB.below hb)).2
  · simp [nodeE, List.map_map, Function.comp_def]
  · simp [hpop, hj]

/-- All that the last region of an own node's round wants. -/
def NodePushed (w5 W0 : World) (N L cap Y a b c : Nat) (ao : Option Addr) (pre pop : List Ent) (sv jv nv : Value) : Prop :=
  (w5.drew.alloc (.cells #[.iface 49 (.pointer (some ⟨Y + 1, 0, none⟩)), sv, jv, nv] 30)).ownsRow N 30 4 (.slice ao L cap) L (pre.flatMap ec) ∧ RowR (w5.drew.alloc (.cells #[.iface 49 (.pointer (some ⟨Y + 1, 0, none⟩)), sv, jv, nv] 30)) 30 4 (.slice (some ⟨w5.heap.size, 0, none⟩) 1 1) 1 (ec (nodeE (Y + 1) Y sv jv nv pop)) ∧ N ≤ (w5.drew.alloc (.cells #[.iface 49 (.pointer (some ⟨Y + 1, 0, none⟩)), sv, jv, nv] 30)).heap.size ∧
    (∀ u ∈ ec (nodeE (Y + 1) Y sv jv nv pop), u.oneCell' = true) ∧
    ∀ v' w3, w3.ownsRow N 30 4 v' (L + 1) (pre.flatMap ec ++ ec (nodeE (Y + 1) Y sv jv nv pop)) → (w5.drew.alloc (.cells #[.iface 49 (.pointer (some ⟨Y + 1, 0, none⟩)), sv, jv, nv] 30)).grownBy w3 (Value.slice ao L cap).ownBlock → St w3 N v' (pre ++ [nodeE (Y + 1) Y sv jv nv pop]) a (b + 1) (c + 1) ∧ Below N W0 w3
theorem node_push {W0 w5 : World} {N a b c m cap Z Y j vc L : Nat} {ao va : Option Addr} {pre pop : List Ent} {sv jv nv x0 : Value} {TT : Pl} (h : St W0 N (.slice ao m cap) (pre ++ pop) a b c) (hN : N ≤ W0.heap.size) (hL : pre.length = L) (hpop : pop.length = j) (hj : j ≤ 2) (hZ : W0.heap.size = Z) (hZY : Z ≤ Y) (hTT : catAll (pop.map (·.T)) Pl.nil = TT)
    (hfin : Rec w5 Z 30 #[x0, sv, jv, nv] ∧ EntR w5 (nodeT (Y + 1) Y TT) sv jv nv ∧ Rec w5 Y 3 #[.int .i64 0] ∧ Rec w5 (Y + 1) 52 #[.slice va j vc, .pointer (some ⟨Y, 0, none⟩)] ∧ RowR w5 25 1 (.slice va j vc) j (pop.map (·.p)) ∧ Below Z W0 w5) : NodePushed w5 W0 N L cap Y a b c ao pre pop sv jv nv := by
  obtain ⟨_, f1, f2, f3, f4, f5⟩ := hfin
  subst hTT
  subst hL
  have hb5 : Below W0.heap.size W0 w5 := by rw [hZ]; exact f5
  obtain ⟨d5, hok5⟩ := node_ok h hb5 hpop hj f1 f3 f4
  have hkd : KeptB w5 w5.drew := fun _ _ _ h _ => h
  exact push_node h hN hb5.drew (hok5.keep hkd) (by omega) (show Rec w5.drew Y 3 #[.int .i64 0] from f2)

/-- The lone node of an empty stack. -/
def loneW (wr : World) : World := ((wr.alloc (.cells #[.int .i64 0] 3)).alloc (.cells #[.slice none 0 0, .pointer (some ⟨wr.heap.size, 0, none⟩)] 52)).alloc (.cells #[.pointer (some ⟨wr.heap.size + 1, 0, none⟩)] 49)
theorem push_lone {wr : World} {N a b c m cap : Nat} {ao : Option Addr} (h : St wr N (.slice ao m cap) [] a b c) (hN : N ≤ wr.heap.size) :
    ((loneW wr).alloc (.cells #[.iface 49 (.pointer (some ⟨wr.heap.size + 1, 0, none⟩)), .slice none 0 0, .slice none 0 0, .slice (some ⟨wr.heap.size + 1 + 1, 0, none⟩) 1 1] 30)).ownsRow N 30 4 (.slice ao 0 cap) 0 [] ∧ RowR ((loneW wr).alloc (.cells #[.iface 49 (.pointer (some ⟨wr.heap.size + 1, 0, none⟩)), .slice none 0 0, .slice none 0 0, .slice (some ⟨wr.heap.size + 1 + 1, 0, none⟩) 1 1] 30)) 30 4 (.slice (some ⟨wr.heap.size + 1 + 1 + 1, 0, none⟩) 1 1) 1 (ec (nodeE (wr.heap.size + 1) wr.heap.size (.slice none 0 0) (.slice none 0 0) (.slice (some ⟨wr.heap.size + 1 + 1, 0, none⟩) 1 1) [])) ∧ N ≤ ((loneW wr).alloc (.cells #[.iface 49 (.pointer (some ⟨wr.heap.size + 1, 0, none⟩)), .slice none 0 0, .slice none 0 0, .slice (some ⟨wr.heap.size + 1 + 1, 0, none⟩) 1 1] 30)).heap.size ∧
    (∀ u ∈ ec (nodeE (wr.heap.size + 1) wr.heap.size (.slice none 0 0) (.slice none 0 0) (.slice (some ⟨wr.heap.size + 1 + 1, 0, none⟩) 1 1) []), u.oneCell' = true) ∧
    ∀ v' w3, w3.ownsRow N 30 4 v' (0 + 1) ([] ++ ec (nodeE (wr.heap.size + 1) wr.heap.size (.slice none 0 0) (.slice none 0 0) (.slice (some ⟨wr.heap.size + 1 + 1, 0, none⟩) 1 1) [])) → ((loneW wr).alloc (.cells #[.iface 49 (.pointer (some ⟨wr.heap.size + 1, 0, none⟩)), .slice none 0 0, .slice none 0 0, .slice (some ⟨wr.heap.size + 1 + 1, 0, none⟩) 1 1] 30)).grownBy w3 (Value.slice ao 0 cap).ownBlock → St w3 N v' [nodeE (wr.heap.size + 1) wr.heap.size (.slice none 0 0) (.slice none 0 0) (.slice (some ⟨wr.heap.size + 1 + 1, 0, none⟩) 1 1) []] a (b + 1) (c + 1) ∧ Below N wr w3 := by
  have hC : Rec (loneW wr) wr.heap.size 3 #[.int .i64 0] := ((rec_new wr _ _).alloc _).alloc _
  have hD : Rec (loneW wr) (wr.heap.size + 1) 52 #[.slice none 0 0, .pointer (some ⟨wr.heap.size, 0, none⟩)] := (rec_new' _ _ _ _ (by simp)).alloc _
  have hR : Rec (loneW wr) (wr.heap.size + 1 + 1) 49 #[.pointer (some ⟨wr.heap.size + 1, 0, none⟩)] := rec_new' _ _ _ _ (by simp)
  have hb : Below wr.heap.size wr (loneW wr) := (((Below.refl _ wr).alloc (Nat.le_refl _) _).alloc (by simp) _).alloc (by simp; omega) _
  have hs : (loneW wr).heap.size = wr.heap.size + 1 + 1 + 1 := by simp [loneW]
  have h' : St wr N (.slice ao m cap) ([] ++ []) a b c := h
  obtain ⟨d, hok⟩ := node_ok (pre := []) (pop := []) (j := 0) (Y := wr.heap.size) (sv := .slice none 0 0) (jv := .slice none 0 0) (nv := .slice (some ⟨wr.heap.size + 1 + 1, 0, none⟩) 1 1) h' hb rfl (by omega) ⟨RowR.nil _ _ _, RowR.nil _ _ _, row_one hR⟩ hD (RowR.nil _ _ _)
  have := push_node (pre := []) (pop := []) h' hN hb hok (Nat.le_refl _) hC
  rw [hs] at this
  exact this

/-- The optimizer is made, over the one entry that is left. -/
def optCells (Z : Nat) : Array Value := #[.map none, .map (some (Z + 1)), .map none, .map (some (Z + 1 + 1)), .map none, .map none, .bool false, .map none, .bool false, .map none, .map none, .map none, .map none, .map none]
def optW (wc : World) (box : Array Value) (Z : Nat) : World := (((wc.alloc (.cells box 30)).alloc (.map #[] 0)).alloc (.map #[] 0)).alloc (.cells (optCells Z) 65)
theorem opt_made {wc : World} {N Z : Nat} {box : Array Value} {T : Pl} (hZ : wc.heap.size = Z) (hN : N ≤ Z) (hg : Good wc N [T]) :
    Below Z wc (optW wc box Z) ∧ Rec (optW wc box Z) Z 30 box ∧ MapIs (optW wc box Z) (Z + 1) [] ∧ MapIs (optW wc box Z) (Z + 2) [] ∧ Opt (optW wc box Z) (Z + 3) (Z + 1) (Z + 2) ∧ Fit (optW wc box Z) [] [] T ∧ (∀ p ∈ T.n, N ≤ p.2) ∧ Z + 4 ≤ (optW wc box Z).heap.size := by
  have hb : Below Z wc (optW wc box Z) := ((((Below.refl _ wc).alloc (by omega) _).alloc (by simp; omega) _).alloc (by simp; omega) _).alloc (by simp; omega) _
  have hk : KeptB wc (optW wc box Z) := KeptB.below (by rw [hZ]; exact hb)
  have hg' := hg.keep hk
  have h1 : (optW wc box Z).heap[Z + 1]? = some (.map #[] 0) := by
    unfold optW
    rw [Below.heap_alloc _ _ _ (by simp; omega), Below.heap_alloc _ _ _ (by simp; omega), ← hZ]
    have := World.alloc_heap_new (wc.alloc (.cells box 30)) (.map #[] 0)
    simpa using this
  have h2 : (optW wc box Z).heap[Z + 2]? = some (.map #[] 0) := by
    unfold optW
    rw [Below.heap_alloc _ _ _ (by simp; omega), ← hZ]
    have := World.alloc_heap_new ((wc.alloc (.cells box 30)).alloc (.map #[] 0)) (.map #[] 0)
    simpa using this
  have h3 : Rec (optW wc box Z) (Z + 3) 65 (optCells Z) := rec_new' _ _ _ _ (by simp [hZ])
  have h0 : Rec (optW wc box Z) Z 30 box := (((rec_new' wc _ _ _ hZ).alloc _).alloc _).alloc _
  obtain ⟨g1, g2, g3, g4, g5, g6⟩ := hg'
  rw [fS_one] at g1 g2
  rw [fJ_one] at g3 g4
  rw [fN_one] at g5 g6
  refine ⟨hb, h0, ⟨_, _, h1, trivial⟩, ⟨_, _, h2, trivial⟩, ⟨_, h3, rfl, rfl⟩, ⟨by simpa using g2, by simpa using g1, by simpa using g4, by simpa using g3, g5, fun p hp => (g6 _ (List.mem_map.2 ⟨p, hp, rfl⟩)).1⟩, fun p hp => (g6 _ (List.mem_map.2 ⟨p, hp, rfl⟩)).2, by simp [optW, hZ]⟩
def After (w1 w2 : World) (Z N : Nat) (F : Int) (T : Pl) (x0 sv jv nv : Value) : Prop :=
  Rec w2 Z 30 #[x0, sv, jv, nv] ∧ Opt w2 (Z + 3) (Z + 1) (Z + 2) ∧ EntR w2 T sv jv nv ∧ MapIs w2 (Z + 1) (zS F T.s) ∧ MapIs w2 (Z + 2) (zJ F T.j) ∧ (∀ p ∈ T.n, Rec w2 p.2 3 #[.int .i64 1]) ∧ Kept w1 w2 ∧ Below N w1 w2 ∧ (∀ s ∈ T.s, Tag w2 s 35) ∧ (∀ s ∈ T.j.map (·.1), Tag w2 s 81)
/-- What the law reads when number is done. -/
theorem after_num {w1 w2 : World} {Z N : Nat} {F : Int} {T : Pl} {e : Ending} {x0 sv jv nv : Value} (hs : MapIs w1 (Z + 1) []) (hj : MapIs w1 (Z + 2) []) (hO : Opt w1 (Z + 3) (Z + 1) (Z + 2)) (hf : Fit w1 [] [] T) (hbox : Rec w1 Z 30 #[x0, sv, jv, nv]) (hent : EntR w1 T sv jv nv) (hN : N ≤ Z) (hcn : ∀ p ∈ T.n, N ≤ p.2) (hn : Numd w1 (Z + 1) (Z + 2) F [] [] T e w2) :
    After w1 w2 Z N F T x0 sv jv nv := by
  obtain ⟨h1, h2, h3, h4, h5⟩ := hn
  have hk := numd_kept hs hj hf h5
  have hZ : Z ∉ (Z + 1) :: (Z + 2) :: T.n.map (·.2) := by
    intro hm
    rcases List.mem_cons.1 hm with h | hm
    · omega
    · rcases List.mem_cons.1 hm with h | hm
      · omega
      · obtain ⟨p, hp, hpe⟩ := List.mem_map.1 hm
        have := hf.2.2.2.2.2 p hp
        unfold Rec at this hbox
        rw [hpe, hbox] at this
        cases this
  refine ⟨h5.at hbox hZ, hO.keep hk, hent.keep hk, by simpa using h2, by simpa using h3, h4, hk, h5.toBelow (by have := hbox.lt; omega) ?_, fun s hs' => hk.tag (hf.1 s (by simpa using hs')) (by decide) (by decide), fun s hs' => hk.tag (hf.2.2.1 s (List.mem_append_right _ hs')) (by decide) (by decide)⟩
  intro b hb
  rcases List.mem_cons.1 hb with rfl | hb
  · omega
  · rcases List.mem_cons.1 hb with rfl | hb
    · omega
    · obtain ⟨p, hp, rfl⟩ := List.mem_map.1 hb
      exact hcn p hp

theorem run_len_map {t k e : TypeId} (ht : Yba.prog.underlying t = some (.map k e)) {w : World} {M : Nat} {ps : List (Nat × Value)} (h : MapIs w M ps) (q : Nat) : (Builtin.len_ #[t] 3 #[.map (some M)]).run Yba.prog (w.drewN q) = .ok (.int .i64 (ps.length : Int)) (w.drewN q) := by
  obtain ⟨es, c, h1, h2⟩ := h
  have h1' : (w.drewN q).heap[M]? = some (.map es c) := h1
  have e : es.size = ps.length := by have := h2.length; simpa using this
  simp [Builtin.len_, run_underlying ht, MapKept.run_getObj_map h1', goInt, e]
theorem zS_len (F : Int) : ∀ l : List Nat, (zS F l).length = l.length
  | [] => rfl
  | x :: l => by simp [zS, zS_len (F + 1) l]
theorem zJ_len (F : Int) (l : List (Nat × Nat × Nat × Nat)) : (zJ F l).length = l.length := by simp [zJ]
theorem zS_mem : ∀ (l : List Nat) (F : Int) (i s : Nat), l[i]? = some s → (s, Value.int .i64 (wrap64 (F + i))) ∈ zS F l
  | x :: l, F, 0, s, h => by
    simp only [List.getElem?_cons_zero, Option.some.injEq] at h
    simp [zS, h]
  | x :: l, F, i + 1, s, h => by
    have := zS_mem l (F + 1) i s (by simpa using h)
    rw [show F + 1 + (i : Int) = F + ((i + 1 : Nat) : Int) by omega] at this
    exact List.mem_cons_of_mem _ this
  | [], _, _, _, h => by simp at h
end Go.Proofs.Ybulkedqq
