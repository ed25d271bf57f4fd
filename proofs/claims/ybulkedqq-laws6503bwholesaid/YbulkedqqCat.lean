import Derived.Test.YbulkedqqRow
import Derived.Deep.DeepCutAuto
import Derived.Deep.CutBlock
import Derived.Handy
import Derived.Laws.Rows
namespace Go.Proofs.Ybulkedqq
open Go.RowKit
set_option linter.unusedVariables false

def jc (x : Nat × Nat × Nat × Nat) : List Value := [pt x.1, .int .i64 (x.2.1 : Int), .int .i64 (x.2.2.1 : Int), .int .i64 (x.2.2.2 : Int)]
/-- The three lists of an entry, to be read. -/
def EntR (w : World) (T : Pl) (sv jv nv : Value) : Prop :=
  RowR w 32 1 sv T.s.length (T.s.map pt) ∧ RowR w 70 4 jv T.j.length (T.j.flatMap jc) ∧ RowR w 49 1 nv T.n.length (T.n.map fun p => pt p.1)
theorem EntR.keep {w w' : World} {T : Pl} {sv jv nv : Value} (h : EntR w T sv jv nv) (hk : Kept w w') : EntR w' T sv jv nv :=
  ⟨h.1.keep hk (by decide) (by decide), h.2.1.keep hk (by decide) (by decide), h.2.2.keep hk (by decide) (by decide)⟩
/-- .. and to be appended to. -/
def EntO (w : World) (B : Nat) (T : Pl) (sv jv nv : Value) : Prop :=
  w.ownsRow B 32 1 sv T.s.length (T.s.map pt) ∧ w.ownsRow B 70 4 jv T.j.length (T.j.flatMap jc) ∧ w.ownsRow B 49 1 nv T.n.length (T.n.map fun p => pt p.1)
theorem EntO.row {w : World} {B : Nat} {T : Pl} {sv jv nv : Value} (h : EntO w B T sv jv nv) : EntR w T sv jv nv := ⟨own_row h.1, own_row h.2.1, own_row h.2.2⟩

theorem Rec.alloc {W : World} {B : Nat} {t : TypeId} {cs : Array Value} (h : Rec W B t cs) (o : Obj) : Rec (W.alloc o) B t cs := (Below.heap_alloc W o B h.lt).trans h
theorem Rec.set {W : World} {B : Nat} {t : TypeId} {cs : Array Value} (h : Rec W B t cs) (j : Nat) (u : Value) : Rec (W.setCell ⟨B, j, none⟩ u) B t (cs.setIfInBounds j u) := heap_setCell_same W B j cs t u h
theorem rec_new (W : World) (t : TypeId) (cs : Array Value) : Rec (W.alloc (.cells cs t)) W.heap.size t cs := World.alloc_heap_new _ _
theorem rec_new' (W : World) (t : TypeId) (cs : Array Value) (N : Nat) (h : W.heap.size = N) : Rec (W.alloc (.cells cs t)) N t cs := by rw [← h]; exact rec_new W t cs
theorem row_one {w : World} {g e c : Nat} {x : Value} (h : Rec w g e #[x]) : RowR w e 1 (.slice (some ⟨g, 0, none⟩) 1 c) 1 [x] :=
  ⟨rfl, _, c, rfl, fun h => by simp at h, fun _ => ⟨g, _, rfl, h, fun j u hu => by simpa using hu⟩⟩

theorem row_four {w : World} {g e c : Nat} {x y z u : Value} (h : Rec w g e #[x, y, z, u]) : RowR w e 4 (.slice (some ⟨g, 0, none⟩) 1 c) 1 [x, y, z, u] :=
  ⟨rfl, _, c, rfl, fun h => by simp at h, fun _ => ⟨g, _, rfl, h, fun j u hu => by simpa using hu⟩⟩

theorem size30 : (Yba.prog.info? 30).map (·.size) = some 4 := by kernel_rfl

theorem scan_any (w : World) : Calls Yba.prog 4 #[] w fun e w' => ∃ b s sv, e = .returned (.agg #[.iface 76 (pt b), sv, .slice none 0 0, .slice none 0 0]) ∧ EntR w' (oneS s) sv (.slice none 0 0) (.slice none 0 0) ∧ IsT 1 w' (.iface 76 (pt b)) (oneS s) ∧ Tag w' s 35 ∧ w.heap.size ≤ s ∧ Below w.heap.size w w' := by
  go_enter Yba.func4, Yba.ntmps4
  go_wp2
  go_returns
  obtain ⟨w1, hw1⟩ : ∃ w1, w.alloc (.cells #[.iface 76 (.pointer (some ⟨w.heap.size + 1 + 1, 0, none⟩)), .slice (some ⟨w.heap.size + 1 + 1 + 1, 0, none⟩) 1 1, .slice none 0 0, .slice none 0 0] 30) = w1 := ⟨_, rfl⟩
  have hs1 : w1.heap.size = w.heap.size + 1 := by rw [← hw1]; simp
  have hb1 : Below w.heap.size w w1 := by rw [← hw1]; exact (Below.refl _ w).alloc (Nat.le_refl _) _
  rw [hw1]
  have hS := rec_new' w1 35 #[.pointer none, .string ⟨#[]⟩] _ hs1
  have hC := rec_new' (w1.alloc (.cells #[.pointer none, .string ⟨#[]⟩] 35)) 78 #[.pointer (some ⟨w.heap.size + 1, 0, none⟩), .slice none 0 0] (w.heap.size + 1 + 1) (by simp [hs1])
  have hD := rec_new' ((w1.alloc (.cells #[.pointer none, .string ⟨#[]⟩] 35)).alloc (.cells #[.pointer (some ⟨w.heap.size + 1, 0, none⟩), .slice none 0 0] 78)) 32 #[.pointer (some ⟨w.heap.size + 1, 0, none⟩)] (w.heap.size + 1 + 1 + 1) (by simp [hs1])
  refine ⟨w.heap.size + 1 + 1, w.heap.size + 1, _, rfl, ⟨row_one hD, RowR.nil _ _ _, RowR.nil _ _ _⟩, .inl ⟨_, _, _, rfl, hC.alloc _, rfl, rfl⟩, ⟨_, (hS.alloc _).alloc _⟩, by omega, ?_⟩
  exact ((hb1.alloc (by omega) _).alloc (by simp; omega) _).alloc (by simp; omega) _

/-- What cat hands out. -/
def Catd (w : World) (T : Pl) (e : Ending) (w' : World) : Prop :=
  ∃ sv jv nv, e = .returned (.agg #[.nilIface, sv, jv, nv]) ∧ EntO w' w.heap.size T sv jv nv ∧ Below w.heap.size w w'

theorem jc_len (l : List (Nat × Nat × Nat × Nat)) : (l.flatMap jc).length = l.length * 4 := by
  induction l with
  | nil => rfl
  | cons x l ih => simp only [List.flatMap_cons, List.length_append, ih, List.length_cons]; simp [jc]; omega
theorem jc_one (l : List (Nat × Nat × Nat × Nat)) : ∀ u ∈ l.flatMap jc, u.oneCell' = true := by
  intro u hu
  obtain ⟨x, _, hx⟩ := List.mem_flatMap.1 hu
  simp only [jc, pt, List.mem_cons, List.not_mem_nil, or_false] at hx
  rcases hx with rfl | rfl | rfl | rfl <;> rfl
theorem pt_one {α : Type} (f : α → Nat) (l : List α) : ∀ u ∈ l.map (fun p => pt (f p)), u.oneCell' = true := by
  intro u hu
  obtain ⟨x, _, rfl⟩ := List.mem_map.1 hu
  rfl
theorem jc_at : ∀ (l : List (Nat × Nat × Nat × Nat)) (k : Nat) (x : Nat × Nat × Nat × Nat), l[k]? = some x → (l.flatMap jc)[k * 4]? = some (pt x.1) ∧ (l.flatMap jc)[k * 4 + 1]? = some (.int .i64 (x.2.1 : Int)) ∧ (l.flatMap jc)[k * 4 + 2]? = some (.int .i64 (x.2.2.1 : Int)) ∧ (l.flatMap jc)[k * 4 + 3]? = some (.int .i64 (x.2.2.2 : Int))
  | y :: l, 0, x, h => by
    simp only [List.getElem?_cons_zero, Option.some.injEq] at h
    subst h
    simp [jc]
  | y :: l, k + 1, x, h => by
    have ih := jc_at l k x (by simpa using h)
    rw [show (k + 1) * 4 = k * 4 + 1 + 1 + 1 + 1 by omega]
    simp only [List.flatMap_cons, jc, List.cons_append, List.nil_append, List.getElem?_cons_succ]
    exact ih

theorem own_set {w : World} {B B' e sz m : Nat} {v u : Value} {ys : List Value} {p : Addr} (h : w.ownsRow B e sz v m ys) (hp : p.block < B) (hB : B' ≤ B) : (w.setCell p u).ownsRow B' e sz v m ys := by
  refine ⟨h.1, ?_⟩
  rcases h.2 with hn | ⟨g, cap, cur, hv, hb, hg, r⟩
  · exact .inl hn
  · exact .inr ⟨g, cap, cur, hv, by omega, (Below.heap_setCell _ _ _ _ (by omega)).trans hg, r⟩
/-- The boxes of cat's two arguments and of its result: blocks N, N + 1, N + 2. -/
def Bxs (w : World) (N : Nat) (a b r : Array Value) : Prop := Rec w N 30 a ∧ Rec w (N + 1) 30 b ∧ Rec w (N + 2) 30 r
theorem Bxs.below {w w' : World} {N : Nat} {a b r : Array Value} (h : Bxs w N a b r) (hb : Below (N + 3) w w') : Bxs w' N a b r :=
  ⟨(hb.block _ (by omega)).trans h.1, (hb.block _ (by omega)).trans h.2.1, (hb.block _ (by omega)).trans h.2.2⟩

set_option maxRecDepth 20000 in
set_option maxHeartbeats 4000000 in
theorem cat_any (T1 T2 : Pl) (p q sv jv nv sv' jv' nv' : Value) (hp : p.oneCell' = true) (hq : q.oneCell' = true) (w : World) (h1 : EntR w T1 sv jv nv) (h2 : EntR w T2 sv' jv' nv')
    (b1 : T1.s.length ≤ 100000) (b2 : T1.j.length ≤ 100000) (b3 : T1.n.length ≤ 100000) (c1 : T2.s.length ≤ 100000) (c2 : T2.j.length ≤ 100000) (c3 : T2.n.length ≤ 100000) (hsp : ∀ x ∈ T2.j, x.2.1 ≤ 100000 ∧ x.2.2.1 ≤ 100000 ∧ x.2.2.2 ≤ 100000) :
    Calls Yba.prog 5 #[.agg #[p, sv, jv, nv], .agg #[q, sv', jv', nv']] w fun e w' => Catd w (T1.cat T2) e w' := by
  have HR1 : Hid (EntR w T1 sv jv nv) := h1
  have HR2 : Hid (EntR w T2 sv' jv' nv') := h2
  obtain ⟨⟨_, sa, sc, rfl, _⟩, ⟨_, ja, jcp, rfl, _⟩, ⟨_, na, nc, rfl, _⟩⟩ := h1
  obtain ⟨⟨_, sa', sc', rfl, _⟩, ⟨_, ja', jcp', rfl, _⟩, ⟨_, na', nc', rfl, _⟩⟩ := h2
  obtain ⟨n1, hn1⟩ : ∃ n, T1.s.length = n := ⟨_, rfl⟩
  obtain ⟨n2, hn2⟩ : ∃ n, T1.j.length = n := ⟨_, rfl⟩
  obtain ⟨n3, hn3⟩ : ∃ n, T1.n.length = n := ⟨_, rfl⟩
  obtain ⟨m1, hm1⟩ : ∃ n, T2.s.length = n := ⟨_, rfl⟩
  obtain ⟨m2, hm2⟩ : ∃ n, T2.j.length = n := ⟨_, rfl⟩
  obtain ⟨m3, hm3⟩ : ∃ n, T2.n.length = n := ⟨_, rfl⟩
  rw [hn1, hn2, hn3] at HR1
  rw [hm1, hm2, hm3] at HR2
  rw [hn1] at b1
  rw [hn2] at b2
  rw [hn3] at b3
  rw [hm1] at c1
  rw [hm2] at c2
  rw [hm3] at c3
  rw [hn1, hn2, hn3, hm1, hm2, hm3]
  go_enter Yba.func5, Yba.ntmps5
  go_upto_region 1 with fail
  obtain ⟨N, hN⟩ : ∃ N, w.heap.size = N := ⟨_, rfl⟩
  obtain ⟨w3, hw3⟩ : ∃ w3, ((w.alloc (.cells #[p, .slice sa n1 sc, .slice ja n2 jcp, .slice na n3 nc] 30)).alloc (.cells #[q, .slice sa' m1 sc', .slice ja' m2 jcp', .slice na' m3 nc'] 30)).alloc (.cells #[.nilIface, .slice none 0 0, .slice none 0 0, .slice none 0 0] 30) = w3 := ⟨_, rfl⟩
  rw [hw3, hN]
  have hB3 : Bxs w3 N #[p, .slice sa n1 sc, .slice ja n2 jcp, .slice na n3 nc] #[q, .slice sa' m1 sc', .slice ja' m2 jcp', .slice na' m3 nc'] #[.nilIface, .slice none 0 0, .slice none 0 0, .slice none 0 0] := by
    rw [← hw3]
    exact ⟨((rec_new' w _ _ _ hN).alloc _).alloc _, (rec_new' _ _ _ _ (by simp [hN])).alloc _, rec_new' _ _ _ _ (by simp [hN])⟩
  have hb3 : Below N w w3 := by
    rw [← hw3]
    exact (((Below.refl _ w).alloc (by omega) _).alloc (by simp; omega) _).alloc (by simp; omega) _
  have hs3 : w3.heap.size = N + 3 := by rw [← hw3]; simp [hN]
  have HB3 : Hid (Bxs w3 N #[p, .slice sa n1 sc, .slice ja n2 jcp, .slice na n3 nc] #[q, .slice sa' m1 sc', .slice ja' m2 jcp', .slice na' m3 nc'] #[.nilIface, .slice none 0 0, .slice none 0 0, .slice none 0 0]) := hB3
  have HR1' : Hid (∀ wk, Below (N + 3) w3 wk → RowR wk 32 1 (.slice sa n1 sc) n1 (T1.s.map pt) ∧ RowR wk 70 4 (.slice ja n2 jcp) n2 (T1.j.flatMap jc) ∧ RowR wk 49 1 (.slice na n3 nc) n3 (T1.n.map fun p => pt p.1)) := fun wk hk => by
    have hbk : Below w.heap.size w wk := by rw [hN]; exact hb3.trans (hk.mono (by omega))
    have h := HR1.out.keep (Kept.below hbk)
    unfold EntR at h
    rw [hn1, hn2, hn3] at h
    exact h
  have HR2' : Hid (∀ wk, Below (N + 3) w3 wk → RowR wk 32 1 (.slice sa' m1 sc') m1 (T2.s.map pt) ∧ RowR wk 70 4 (.slice ja' m2 jcp') m2 (T2.j.flatMap jc) ∧ RowR wk 49 1 (.slice na' m3 nc') m3 (T2.n.map fun p => pt p.1)) := fun wk hk => by
    have hbk : Below w.heap.size w wk := by rw [hN]; exact hb3.trans (hk.mono (by omega))
    have h := HR2.out.keep (Kept.below hbk)
    unfold EntR at h
    rw [hm1, hm2, hm3] at h
    exact h
  clear hw3 HR1 HR2
  clear hB3
  have cells := fun wk (hk : Below (N + 3) w3 wk) => HB3.out.below hk
  have a1 := rec_cell HB3.out.1 1 _ rfl
  have e1 := rec_cell HB3.out.2.1 1 _ rfl
  go_upto_region 2 with (at_make; refine make_row row26 (N + 3) (n1 + m1) rfl _ rfl (by omega) (by omega) (by omega) ?_; intro v5 w4 ho4 hg4 hv5; obtain ⟨ao5, cap5, rfl⟩ := hv5)
  have hk4 : Below (N + 3) w3 w4 := (Below.refl _ w3).grown hg4 (by omega) (by simp)
  have hB4 := HB3.out.below hk4
  have a1 := rec_cell hB4.1 1 _ rfl
  have e1 := rec_cell hB4.2.1 1 _ rfl
  have hs4 := hk4.size
  go_upto_region 3 with (at_builtin; refine app_row row26 (N + 3) _ 0 [] rfl ho4 _ n1 _ rfl (HR1'.out w4 hk4).1 (pt_one _ _) (by omega) (by omega) ?_; intro v6 w5 ho5 hg5 hv6; obtain ⟨ao6, cap6, rfl⟩ := hv6)
  rw [Nat.zero_add, List.nil_append] at ho5
  have hk5 : Below (N + 3) w3 w5 := hk4.trans (grown_below ho4 (by omega) hg5)
  have hB5 := HB3.out.below hk5
  have a1 := rec_cell hB5.1 1 _ rfl
  have e1 := rec_cell hB5.2.1 1 _ rfl
  have hs5 := hk5.size
  go_upto_region 4 with (at_builtin; refine app_row row26 (N + 3) _ n1 _ rfl ho5 _ m1 _ rfl (HR2'.out w5 hk5).1 (pt_one _ _) (by omega) (by omega) ?_; intro v7 w6 ho6 hg6 hv7; obtain ⟨ao7, cap7, rfl⟩ := hv7)
  have hk6 : Below (N + 3) w3 w6 := hk5.trans (grown_below ho5 (by omega) hg6)
  have hB6 := HB3.out.below hk6
  have a1 := rec_cell hB6.1 2 _ rfl
  have e1 := rec_cell hB6.2.1 2 _ rfl
  have hs6 := hk6.size
  clear ho4 ho5 hk4 hk5 hB4 hB5 hg4 hg5 hg6
  go_upto_region 5 with (at_make; refine make_row row27 (N + 3) (n2 + m2) rfl _ rfl (by omega) (by omega) (by omega) ?_; intro v8 w7 ho7 hg7 hv8; obtain ⟨ao8, cap8, rfl⟩ := hv8)
  have hk7 : Below (N + 3) w3 w7 := hk6.trans ((Below.refl _ w6).grown hg7 (by omega) (by simp))
  have ho7s := ho6.kept hg7 (by simp [Value.ownBlock]; cases ao7 <;> simp)
  have hB7 := HB3.out.below hk7
  have a1 := rec_cell hB7.1 2 _ rfl
  have hs7 := hk7.size
  go_upto_region 6 with (at_builtin; refine app_row row27 (N + 3) _ 0 [] rfl ho7 _ n2 _ rfl (HR1'.out w7 hk7).2.1 (jc_one _) (by omega) (by omega) ?_; intro v9 w8 ho8 hg8 hv9; obtain ⟨ao9, cap9, rfl⟩ := hv9)
  rw [Nat.zero_add, List.nil_append] at ho8
  have hk8 : Below (N + 3) w3 w8 := hk7.trans (grown_below ho7 (by omega) hg8)
  have ho8s := own_other ho7s ho7 (by decide) hg8
  have hB8 := HB3.out.below hk8
  have a1 := rec_cell hB8.1 1 _ rfl
  have e1 := rec_cell hB8.2.1 2 _ rfl
  have hs8 := hk8.size
  have HO8 : Hid (w8.ownsRow (N + 3) 70 4 (.slice ao9 n2 cap9) n2 (T1.j.flatMap jc)) := ho8
  have HS8 : Hid (w8.ownsRow (N + 3) 32 1 (.slice ao7 (n1 + m1) cap7) (n1 + m1) (T1.s.map pt ++ T2.s.map pt)) := ho8s
  have HK8 : Hid (Below (N + 3) w3 w8) := hk8
  clear ho6 ho7 ho8 hk6 hk7 hk8 hB6 hB7 hB8 hg7 hg8 ho7s ho8s cells
  go_wp2_with fail
  go_loopw [6, 45] (fun v i wr => ∃ (k : Nat) (ao : Option Addr) (cap : Nat), i = .int .i64 k ∧ k ≤ m2 ∧ v = .slice ao (n2 + k) cap ∧ Hid (wr.ownsRow (N + 3) 70 4 (.slice ao (n2 + k) cap) (n2 + k) (T1.j.flatMap jc ++ ((T2.j.take k).map (shf n1)).flatMap jc)) ∧ Hid (wr.ownsRow (N + 3) 32 1 (.slice ao7 (n1 + m1) cap7) (n1 + m1) (T1.s.map pt ++ T2.s.map pt)) ∧ Hid (Below (N + 3) w3 wr)) (fun _ i _ => m2 - (intOf i).toNat)
  case atStart => exact ⟨0, ao9, cap9, rfl, by omega, rfl, by simpa using HO8, HS8, HK8⟩
  case round =>
    obtain ⟨k, ao, cap, rfl, hk, rfl, HO, HSS, HK⟩ := hrel
    clear HO8 HS8 HK8 a1 e1
    by_cases hlt : k < m2
    · have hlt' : (k : Int) < (m2 : Int) := by omega
      obtain ⟨⟨x0, x1, x2, x3⟩, hx⟩ : ∃ x, T2.j[k]? = some x := ⟨_, List.getElem?_eq_getElem (by omega)⟩
      obtain ⟨_, ao', cap', heq, _, hrow⟩ := (HR2'.out wr HK.out).2.1
      injection heq with q1 q2 q3
      subst q1
      obtain ⟨g, cs, rfl, hrg, hcs⟩ := hrow (by omega)
      obtain ⟨j0, j1, j2, j3⟩ := jc_at T2.j k _ hx
      have d0 := rec_cell hrg (k * 4) _ (hcs _ _ j0)
      have d1 := rec_cell hrg (k * 4 + 1) _ (hcs _ _ j1)
      have d2 := rec_cell hrg (k * 4 + 2) _ (hcs _ _ j2)
      have d3 := rec_cell hrg (k * 4 + 3) _ (hcs _ _ j3)
      have hbd := hsp _ (List.mem_of_getElem? hx)
      have HX : Hid (T2.j[k]? = some (x0, x1, x2, x3)) := hx
      have hszr := HK.out.size
      simp only at d0 d1 d2 d3 hbd
      clear hrow hrg hcs j0 j1 j2 j3 hx q2 q3
      unfold pt at d0
      obtain ⟨wb, hwb⟩ : ∃ wb, (wr.alloc (.cells #[.pointer (some ⟨x0, 0, none⟩), .int .i64 x1, .int .i64 x2, .int .i64 x3] 70)).alloc (.cells #[.pointer (some ⟨x0, 0, none⟩), .int .i64 (x1 + n1), .int .i64 (x2 + n1), .int .i64 (x3 + n1)] 70) = wb := ⟨_, rfl⟩
      have hob : wb.ownsRow (N + 3) 70 4 (.slice ao (n2 + k) cap) (n2 + k) (T1.j.flatMap jc ++ ((T2.j.take k).map (shf n1)).flatMap jc) := by rw [← hwb]; exact (HO.out.alloc _).alloc _
      have hsb : wb.ownsRow (N + 3) 32 1 (.slice ao7 (n1 + m1) cap7) (n1 + m1) (T1.s.map pt ++ T2.s.map pt) := by rw [← hwb]; exact (HSS.out.alloc _).alloc _
      have hkb : Below (N + 3) w3 wb := by rw [← hwb]; exact (HK.out.alloc (by omega) _).alloc (by simp; omega) _
      have hrb : RowR wb 70 4 (.slice (some ⟨wr.heap.size + 1, 0, none⟩) 1 1) 1 [.pointer (some ⟨x0, 0, none⟩), .int .i64 (x1 + n1), .int .i64 (x2 + n1), .int .i64 (x3 + n1)] := by
        rw [← hwb]; exact row_four (rec_new' _ _ _ _ (by simp))
      have hszb : N + 3 ≤ wb.heap.size := by have := hkb.size; omega
      have HWB : Hid ((wr.alloc (.cells #[.pointer (some ⟨x0, 0, none⟩), .int .i64 x1, .int .i64 x2, .int .i64 x3] 70)).alloc (.cells #[.pointer (some ⟨x0, 0, none⟩), .int .i64 (x1 + n1), .int .i64 (x2 + n1), .int .i64 (x3 + n1)] 70) = wb) := hwb
      have HOB : Hid (wb.ownsRow (N + 3) 70 4 (.slice ao (n2 + k) cap) (n2 + k) (T1.j.flatMap jc ++ ((T2.j.take k).map (shf n1)).flatMap jc)) := hob
      have HSB : Hid (wb.ownsRow (N + 3) 32 1 (.slice ao7 (n1 + m1) cap7) (n1 + m1) (T1.s.map pt ++ T2.s.map pt)) := hsb
      have HRB : Hid (RowR wb 70 4 (.slice (some ⟨wr.heap.size + 1, 0, none⟩) 1 1) 1 [.pointer (some ⟨x0, 0, none⟩), .int .i64 (x1 + n1), .int .i64 (x2 + n1), .int .i64 (x3 + n1)]) := hrb
      clear hwb hob hsb hrb
      go_wp2_with (at_builtin; rw [HWB.out]; refine app_row row27 (N + 3) _ (n2 + k) _ rfl HOB.out _ 1 _ rfl HRB.out (by intro u hu; simp only [List.mem_cons, List.not_mem_nil, or_false] at hu; rcases hu with rfl | rfl | rfl | rfl <;> rfl) (by omega) hszb ?_; intro v' w9 ho9 hg9 hv9; obtain ⟨ao9', cap9', rfl⟩ := hv9)
      refine ⟨⟨k + 1, ao9', cap9', by simp, by omega, by rw [Nat.add_assoc], ?_, own_other HSB.out HOB.out (by decide) hg9, hkb.trans (grown_below HOB.out hszb hg9)⟩, by simp [intOf]; omega⟩
      have e : T1.j.flatMap jc ++ ((T2.j.take (k + 1)).map (shf n1)).flatMap jc = (T1.j.flatMap jc ++ ((T2.j.take k).map (shf n1)).flatMap jc) ++ [.pointer (some ⟨x0, 0, none⟩), .int .i64 (x1 + n1), .int .i64 (x2 + n1), .int .i64 (x3 + n1)] := by
        rw [List.take_add_one, HX.out]
        simp [jc, shf, pt]
      rw [e]
      exact ho9
    · obtain rfl : k = m2 := by omega
      have hB9 := HB3.out.below HK.out
      have a1 := rec_cell hB9.1 3 _ rfl
      have e1 := rec_cell hB9.2.1 3 _ rfl
      have hs9 := HK.out.size
      go_upto_region 13 with (at_make; refine make_row row28 (N + 3) (n3 + m3) rfl _ rfl (by omega) (by omega) (by omega) ?_; intro v10 w10 ho10 hg10 hv10; obtain ⟨ao10, cap10, rfl⟩ := hv10)
      have hk10 : Below (N + 3) w3 w10 := HK.out.trans ((Below.refl _ wr).grown hg10 (by omega) (by simp))
      have hoj10 := HO.out.kept hg10 (by simp [Value.ownBlock]; cases ao <;> simp)
      have hos10 := HSS.out.kept hg10 (by simp [Value.ownBlock]; cases ao7 <;> simp)
      have hB10 := HB3.out.below hk10
      have a1 := rec_cell hB10.1 3 _ rfl
      have e1 := rec_cell hB10.2.1 3 _ rfl
      have hs10 := hk10.size
      have HJ10 : Hid (w10.ownsRow (N + 3) 70 4 (.slice ao (n2 + k) cap) (n2 + k) (T1.j.flatMap jc ++ ((T2.j.take k).map (shf n1)).flatMap jc)) := hoj10
      have HS10 : Hid (w10.ownsRow (N + 3) 32 1 (.slice ao7 (n1 + m1) cap7) (n1 + m1) (T1.s.map pt ++ T2.s.map pt)) := hos10
      clear HO HSS hoj10 hos10 hB9
      go_upto_region 14 with (at_builtin; refine app_row row28 (N + 3) _ 0 [] rfl ho10 _ n3 _ rfl (HR1'.out w10 hk10).2.2 (pt_one _ _) (by omega) (by omega) ?_; intro v11 w11 ho11 hg11 hv11; obtain ⟨ao11, cap11, rfl⟩ := hv11)
      rw [Nat.zero_add, List.nil_append] at ho11
      have hk11 : Below (N + 3) w3 w11 := hk10.trans (grown_below ho10 (by omega) hg11)
      have HJ11 : Hid (w11.ownsRow (N + 3) 70 4 (.slice ao (n2 + k) cap) (n2 + k) (T1.j.flatMap jc ++ ((T2.j.take k).map (shf n1)).flatMap jc)) := own_other HJ10.out ho10 (by decide) hg11
      have HS11 : Hid (w11.ownsRow (N + 3) 32 1 (.slice ao7 (n1 + m1) cap7) (n1 + m1) (T1.s.map pt ++ T2.s.map pt)) := own_other HS10.out ho10 (by decide) hg11
      have hB11 := HB3.out.below hk11
      have a1 := rec_cell hB11.1 3 _ rfl
      have e1 := rec_cell hB11.2.1 3 _ rfl
      have hs11 := hk11.size
      clear ho10 hg10 hg11 HJ10 HS10 hk10 hB10
      go_upto_region 15 with (at_builtin; refine app_row row28 (N + 3) _ n3 _ rfl ho11 _ m3 _ rfl (HR2'.out w11 hk11).2.2 (pt_one _ _) (by omega) (by omega) ?_; intro v12 w12 ho12 hg12 hv12; obtain ⟨ao12, cap12, rfl⟩ := hv12)
      have hk12 : Below (N + 3) w3 w12 := hk11.trans (grown_below ho11 (by omega) hg12)
      have HJ12 : Hid (w12.ownsRow (N + 3) 70 4 (.slice ao (n2 + k) cap) (n2 + k) (T1.j.flatMap jc ++ ((T2.j.take k).map (shf n1)).flatMap jc)) := own_other HJ11.out ho11 (by decide) hg12
      have HS12 : Hid (w12.ownsRow (N + 3) 32 1 (.slice ao7 (n1 + m1) cap7) (n1 + m1) (T1.s.map pt ++ T2.s.map pt)) := own_other HS11.out ho11 (by decide) hg12
      have hB12 := HB3.out.below hk12
      have r0 := rec_cell hB12.2.2 0 _ rfl
      have r1 := rec_cell hB12.2.2 1 _ rfl
      have r2 := rec_cell hB12.2.2 2 _ rfl
      have r3 := rec_cell hB12.2.2 3 _ rfl
      have fr : ∀ j, w12.frozen? ⟨N + 2, j, none⟩ = false := fun j => frozen_of_row w12 (N + 2) j _ _ hB12.2.2
      have f0 := fr 0
      have f1 := fr 1
      have f2 := fr 2
      have f3 := fr 3
      have HN12 : Hid (w12.ownsRow (N + 3) 49 1 (.slice ao12 (n3 + m3) cap12) (n3 + m3) ((T1.n.map fun p => pt p.1) ++ (T2.n.map fun p => pt p.1))) := ho12
      clear fr ho12 ho11 hg12 HJ11 HS11 hk11 hB11
      go_wp2_with fail
      obtain ⟨wz, hwz⟩ : ∃ wz, (((w12.setCell ⟨N + 1 + 1, 0, none⟩ .nilIface).setCell ⟨N + 1 + 1, 1, none⟩ (.slice ao7 (n1 + m1) cap7)).setCell ⟨N + 1 + 1, 2, none⟩ (.slice ao (n2 + k) cap)).setCell ⟨N + 1 + 1, 3, none⟩ (.slice ao12 (n3 + m3) cap12) = wz := ⟨_, rfl⟩
      have hrz : Rec wz (N + 1 + 1) 30 #[.nilIface, .slice ao7 (n1 + m1) cap7, .slice ao (n2 + k) cap, .slice ao12 (n3 + m3) cap12] := by
        rw [← hwz]; exact (((hB12.2.2.set 0 _).set 1 _).set 2 _).set 3 _
      rw [hwz]
      refine bodyPost_ret (results_cell_row Yba.results5 _ wz (N + 1 + 1) 30 _ _ _ rfl hrz Yba.underlying30 rfl size30) rfl ?_
      subst hwz
      have hb : Below w.heap.size w w12 := by rw [hN]; exact hb3.trans (hk12.mono (by omega))
      refine ⟨_, _, _, rfl, ⟨?_, ?_, ?_⟩, (((hb.setCell (p := ⟨N + 1 + 1, 0, none⟩) (by simp; omega) _).setCell (p := ⟨N + 1 + 1, 1, none⟩) (by simp; omega) _).setCell (p := ⟨N + 1 + 1, 2, none⟩) (by simp; omega) _).setCell (p := ⟨N + 1 + 1, 3, none⟩) (by simp; omega) _⟩
      · have e : (T1.cat T2).s.length = n1 + m1 := by simp [Pl.cat, hn1, hm1]
        rw [e, hN]
        simp only [Pl.cat, List.map_append]
        exact own_set (B := N + 3) (own_set (B := N + 3) (own_set (B := N + 3) (own_set HS12.out (by simp) (Nat.le_refl _)) (by simp) (Nat.le_refl _)) (by simp) (Nat.le_refl _)) (by simp) (by omega)
      · have e : (T1.cat T2).j.length = n2 + k := by simp [Pl.cat, hn2, hm2]
        rw [e, hN]
        have e2 : (T1.cat T2).j.flatMap jc = T1.j.flatMap jc ++ ((T2.j.take k).map (shf n1)).flatMap jc := by
          rw [List.take_of_length_le (by omega)]
          simp only [Pl.cat, List.flatMap_append, hn1]
        rw [e2]
        exact own_set (B := N + 3) (own_set (B := N + 3) (own_set (B := N + 3) (own_set HJ12.out (by simp) (Nat.le_refl _)) (by simp) (Nat.le_refl _)) (by simp) (Nat.le_refl _)) (by simp) (by omega)
      · have e : (T1.cat T2).n.length = n3 + m3 := by simp [Pl.cat, hn3, hm3]
        rw [e, hN]
        simp only [Pl.cat, List.map_append]
        exact own_set (B := N + 3) (own_set (B := N + 3) (own_set (B := N + 3) (own_set HN12.out (by simp) (Nat.le_refl _)) (by simp) (Nat.le_refl _)) (by simp) (Nat.le_refl _)) (by simp) (by omega)
end Go.Proofs.Ybulkedqq
