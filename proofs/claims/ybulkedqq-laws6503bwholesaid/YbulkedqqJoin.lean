import Derived.Test.YbulkedqqCat
import Derived.Test.YbulkedqqNum
namespace Go.Proofs.Ybulkedqq
open Go.RowKit
set_option linter.unusedVariables false

/-- The bounds of a subtree, for the walks. -/
def Sml (T : Pl) : Prop := T.s.length ≤ 100000 ∧ T.j.length ≤ 100000 ∧ T.n.length ≤ 100000 ∧ ∀ x ∈ T.j, x.2.1 ≤ 100000 ∧ x.2.2.1 ≤ 100000 ∧ x.2.2.2 ≤ 100000
theorem rec_other {w w' : World} {g e B e' sz' m' : Nat} {cs : Array Value} {v' : Value} {ys' : List Value} (h : Rec w g e cs) (h' : w.ownsRow B e' sz' v' m' ys') (hne : e ≠ e') (hg : w.grownBy w' v'.ownBlock) : Rec w' g e cs := by
  refine (hg.block g h.lt ?_).trans h
  rcases h'.2 with ⟨rfl, _⟩ | ⟨g', cap', cur', rfl, _, hg2, _⟩
  · simp [Value.ownBlock]
  · simp only [Value.ownBlock, ne_eq, Option.some.injEq]
    rintro rfl
    unfold Rec at h
    rw [h] at hg2
    cases hg2
    exact hne rfl
theorem Rec.other {W : World} {B : Nat} {t : TypeId} {cs : Array Value} (h : Rec W B t cs) {a : Addr} (hne : B ≠ a.block) (u : Value) : Rec (W.setCell a u) B t cs := (Below.heap_setCell W a u B hne).trans h
theorem own_set' {w : World} {B e sz m g e' : Nat} {cs : Array Value} {v u : Value} {ys : List Value} {p : Addr} (h : w.ownsRow B e sz v m ys) (hr : Rec w p.block e' cs) (hne : e ≠ e') : (w.setCell p u).ownsRow B e sz v m ys := by
  refine ⟨h.1, ?_⟩
  rcases h.2 with hn | ⟨g, cap, cur, hv, hb, hg, r⟩
  · exact .inl hn
  · refine .inr ⟨g, cap, cur, hv, hb, (Below.heap_setCell _ _ _ _ ?_).trans hg, r⟩
    rintro rfl
    unfold Rec at hr
    rw [hr] at hg
    cases hg
    exact hne rfl
theorem RowR.set' {w : World} {e sz m e' : Nat} {cs : Array Value} {v u : Value} {ys : List Value} {p : Addr} (h : RowR w e sz v m ys) (hr : Rec w p.block e' cs) (hne : e ≠ e') : RowR (w.setCell p u) e sz v m ys := by
  obtain ⟨hl, ao, cap, h1, h2, h4⟩ := h
  refine ⟨hl, ao, cap, h1, h2, fun h0 => ?_⟩
  obtain ⟨g, cs', q1, q2, q3⟩ := h4 h0
  refine ⟨g, cs', q1, q2.other ?_ u, q3⟩
  rintro rfl
  unfold Rec at hr q2
  rw [hr] at q2
  cases q2
  exact hne rfl
theorem Kept.set' {w : World} {e' : Nat} {cs : Array Value} {p : Addr} (hr : Rec w p.block e' cs) (he : e' = 3 ∨ e' = 30) (u : Value) : Kept w (w.setCell p u) := by
  intro b t cs' r h3 h30
  refine r.other ?_ u
  rintro rfl
  unfold Rec at hr r
  rw [hr] at r
  cases r
  rcases he with h | h
  · exact h3 h
  · exact h30 h

def set4 (w : World) (g : Nat) (a b c d : Value) : World := (((w.setCell ⟨g, 0, none⟩ a).setCell ⟨g, 1, none⟩ b).setCell ⟨g, 2, none⟩ c).setCell ⟨g, 3, none⟩ d
theorem set4_rec {w : World} {g e : Nat} {x0 x1 x2 x3 : Value} (h : Rec w g e #[x0, x1, x2, x3]) (a b c d : Value) : Rec (set4 w g a b c d) g e #[a, b, c, d] := (((h.set 0 a).set 1 b).set 2 c).set 3 d
theorem set4_kept {w : World} {g : Nat} {x0 x1 x2 x3 : Value} (h : Rec w g 30 #[x0, x1, x2, x3]) (a b c d : Value) : Kept w (set4 w g a b c d) :=
  (Kept.set' (p := ⟨g, 0, none⟩) h (.inr rfl) a).trans ((Kept.set' (p := ⟨g, 1, none⟩) (h.set 0 a) (.inr rfl) b).trans ((Kept.set' (p := ⟨g, 2, none⟩) ((h.set 0 a).set 1 b) (.inr rfl) c).trans (Kept.set' (p := ⟨g, 3, none⟩) (((h.set 0 a).set 1 b).set 2 c) (.inr rfl) d)))
theorem set4_below {B : Nat} {w0 w : World} {g : Nat} (h : Below B w0 w) (hg : B ≤ g) (a b c d : Value) : Below B w0 (set4 w g a b c d) :=
  (((h.setCell (p := ⟨g, 0, none⟩) hg a).setCell (p := ⟨g, 1, none⟩) hg b).setCell (p := ⟨g, 2, none⟩) hg c).setCell (p := ⟨g, 3, none⟩) hg d

def Joind (w : World) (n : Nat) (T1 T2 : Pl) (e : Ending) (w' : World) : Prop :=
  ∃ b sv jv nv, e = .returned (.agg #[.iface 68 (pt b), sv, jv, nv]) ∧ EntR w' (joinT b T1 T2) sv jv nv ∧ IsT (n + 1) w' (.iface 68 (pt b)) (joinT b T1 T2) ∧ Tag w' b 81 ∧ w.heap.size ≤ b ∧ Below w.heap.size w w'

set_option maxRecDepth 20000 in
set_option maxHeartbeats 4000000 in
theorem join_any (n : Nat) (T1 T2 : Pl) (p q sv jv nv sv' jv' nv' : Value) (w : World) (h1 : EntR w T1 sv jv nv) (h2 : EntR w T2 sv' jv' nv') (hT1 : IsT n w p T1) (hT2 : IsT n w q T2) (b1 : Sml T1) (b2 : Sml T2) :
    Calls Yba.prog 6 #[.agg #[p, sv, jv, nv], .agg #[q, sv', jv', nv']] w fun e w' => Joind w n T1 T2 e w' := by
  have HR1 : Hid (EntR w T1 sv jv nv) := h1
  have HR2 : Hid (EntR w T2 sv' jv' nv') := h2
  have HT1 : Hid (IsT n w p T1) := hT1
  have HT2 : Hid (IsT n w q T2) := hT2
  obtain ⟨t1, p1, rfl⟩ := hT1.shape
  obtain ⟨t2, p2, rfl⟩ := hT2.shape
  obtain ⟨⟨_, sa, sc, rfl, _⟩, ⟨_, ja, jcp, rfl, _⟩, ⟨_, na, nc, rfl, _⟩⟩ := h1
  obtain ⟨⟨_, sa', sc', rfl, _⟩, ⟨_, ja', jcp', rfl, _⟩, ⟨_, na', nc', rfl, _⟩⟩ := h2
  obtain ⟨B1, B2, B3, B4⟩ := b1
  obtain ⟨C1, C2, C3, C4⟩ := b2
  obtain ⟨N, hN⟩ : ∃ N, w.heap.size = N := ⟨_, rfl⟩
  clear hT1 hT2
  unfold pt
  go_enter Yba.func6, Yba.ntmps6
  go_upto_region 2 with fail
  obtain ⟨w4, hw4⟩ : ∃ w4, (((w.alloc (.cells #[.iface t1 (.pointer (some ⟨p1, 0, none⟩)), .slice sa T1.s.length sc, .slice ja T1.j.length jcp, .slice na T1.n.length nc] 30)).alloc (.cells #[.iface t2 (.pointer (some ⟨p2, 0, none⟩)), .slice sa' T2.s.length sc', .slice ja' T2.j.length jcp', .slice na' T2.n.length nc'] 30)).alloc (.cells #[.nilIface, .slice none 0 0, .slice none 0 0, .slice none 0 0] 30)).alloc (.cells #[.int .i64 0, .slice none 0 0, .slice none 0 0, .iface t1 (.pointer (some ⟨p1, 0, none⟩)), .iface t2 (.pointer (some ⟨p2, 0, none⟩))] 81) = w4 := ⟨_, rfl⟩
  rw [hw4]
  have hB4 : Bxs w4 N #[.iface t1 (.pointer (some ⟨p1, 0, none⟩)), .slice sa T1.s.length sc, .slice ja T1.j.length jcp, .slice na T1.n.length nc] #[.iface t2 (.pointer (some ⟨p2, 0, none⟩)), .slice sa' T2.s.length sc', .slice ja' T2.j.length jcp', .slice na' T2.n.length nc'] #[.nilIface, .slice none 0 0, .slice none 0 0, .slice none 0 0] := by
    rw [← hw4]
    exact ⟨(((rec_new' w _ _ _ hN).alloc _).alloc _).alloc _, ((rec_new' _ _ _ _ (by simp [hN])).alloc _).alloc _, (rec_new' _ _ _ _ (by simp [hN])).alloc _⟩
  have hJ4 : Rec w4 (N + 3) 81 #[.int .i64 0, .slice none 0 0, .slice none 0 0, .iface t1 (.pointer (some ⟨p1, 0, none⟩)), .iface t2 (.pointer (some ⟨p2, 0, none⟩))] := by
    rw [← hw4]; exact rec_new' _ _ _ _ (by simp [hN])
  have hb4 : Below w.heap.size w w4 := by
    rw [← hw4]
    exact ((((Below.refl _ w).alloc (by omega) _).alloc (by simp) _).alloc (by simp; omega) _).alloc (by simp; omega) _
  have hs4 : w4.heap.size = N + 4 := by rw [← hw4]; simp [hN]
  have hcat := cat_any T1 T2 (.iface t1 (pt p1)) (.iface t2 (pt p2)) _ _ _ _ _ _ rfl rfl w4 (HR1.out.keep (Kept.below hb4)) (HR2.out.keep (Kept.below hb4)) B1 B2 B3 C1 C2 C3 C4
  have HB4 : Hid (Bxs w4 N #[.iface t1 (.pointer (some ⟨p1, 0, none⟩)), .slice sa T1.s.length sc, .slice ja T1.j.length jcp, .slice na T1.n.length nc] #[.iface t2 (.pointer (some ⟨p2, 0, none⟩)), .slice sa' T2.s.length sc', .slice ja' T2.j.length jcp', .slice na' T2.n.length nc'] #[.nilIface, .slice none 0 0, .slice none 0 0, .slice none 0 0]) := hB4
  have HJ4 : Hid (Rec w4 (N + 3) 81 #[.int .i64 0, .slice none 0 0, .slice none 0 0, .iface t1 (.pointer (some ⟨p1, 0, none⟩)), .iface t2 (.pointer (some ⟨p2, 0, none⟩))]) := hJ4
  have HT14 : Hid (IsT n w4 (.iface t1 (pt p1)) T1) := HT1.out.keep (Kept.below hb4)
  have HT24 : Hid (IsT n w4 (.iface t2 (pt p2)) T2) := HT2.out.keep (Kept.below hb4)
  have a0 := rec_cell hB4.1 0 _ rfl
  have a1 := rec_cell hB4.1 1 _ rfl
  have a2 := rec_cell hB4.1 2 _ rfl
  have a3 := rec_cell hB4.1 3 _ rfl
  have e0 := rec_cell hB4.2.1 0 _ rfl
  have e1 := rec_cell hB4.2.1 1 _ rfl
  have e2 := rec_cell hB4.2.1 2 _ rfl
  have e3 := rec_cell hB4.2.1 3 _ rfl
  clear hw4 hB4 hJ4 HR1 HR2 HT1 HT2
  unfold pt at hcat
  go_upto_region 3 with (go_at_call 5; refine hcat.mono ?_; rintro e w5 ⟨sv2, jv2, nv2, rfl, ho5, hb5⟩; have hsh := ho5; obtain ⟨hsh1, hsh2, hsh3⟩ := hsh; obtain ⟨xa, xc, rfl⟩ := own_shape hsh1; obtain ⟨ya, yc, rfl⟩ := own_shape hsh2; obtain ⟨za, zc, rfl⟩ := own_shape hsh3)
  obtain ⟨E, hE⟩ : ∃ E, w5.heap.size = E := ⟨_, rfl⟩
  obtain ⟨u1, hu1⟩ : ∃ u, (T1.cat T2).s.length = u := ⟨_, rfl⟩
  obtain ⟨u2, hu2⟩ : ∃ u, (T1.cat T2).j.length = u := ⟨_, rfl⟩
  obtain ⟨u3, hu3⟩ : ∃ u, (T1.cat T2).n.length = u := ⟨_, rfl⟩
  obtain ⟨k1, hk1⟩ : ∃ u, T1.s.length = u := ⟨_, rfl⟩
  have hu1' : u1 ≤ 200000 := by rw [← hu1]; simp [Pl.cat]; omega
  have hu2' : u2 ≤ 200000 := by rw [← hu2]; simp [Pl.cat]; omega
  have hk1' : k1 ≤ 100000 := by omega
  rw [hu1, hu2, hu3, hE]
  unfold EntO at ho5
  rw [hu1, hu2, hu3, hs4] at ho5
  obtain ⟨w6, hw6⟩ : ∃ w6, w5.alloc (.cells #[.nilIface, .slice xa u1 xc, .slice ya u2 yc, .slice za u3 zc] 30) = w6 := ⟨_, rfl⟩
  rw [hw6]
  have hb46 : Below (N + 4) w4 w6 := by
    rw [← hw6]
    rw [hs4] at hb5
    exact hb5.alloc (by have := hb5.size; omega) _
  have hB6 := HB4.out.below (hb46.mono (by omega))
  have hJ6 : Rec w6 (N + 3) 81 #[.int .i64 0, .slice none 0 0, .slice none 0 0, .iface t1 (.pointer (some ⟨p1, 0, none⟩)), .iface t2 (.pointer (some ⟨p2, 0, none⟩))] := (hb46.block _ (by omega)).trans HJ4.out
  have hE6 : Rec w6 E 30 #[.nilIface, .slice xa u1 xc, .slice ya u2 yc, .slice za u3 zc] := by rw [← hw6]; exact rec_new' _ _ _ _ hE
  have ho6 : w6.ownsRow (N + 4) 32 1 (.slice xa u1 xc) u1 ((T1.cat T2).s.map pt) ∧ w6.ownsRow (N + 4) 70 4 (.slice ya u2 yc) u2 ((T1.cat T2).j.flatMap jc) ∧ w6.ownsRow (N + 4) 49 1 (.slice za u3 zc) u3 ((T1.cat T2).n.map fun p => pt p.1) := by
    rw [← hw6]; exact ⟨ho5.1.alloc _, ho5.2.1.alloc _, ho5.2.2.alloc _⟩
  have hs6 : w6.heap.size = E + 1 := by rw [← hw6]; simp [hE]
  have hNE : N + 4 ≤ E := by rw [← hE]; have := hb5.size; omega
  have a1 := rec_cell hB6.1 1 _ rfl
  have z1 := rec_cell hE6 1 _ rfl
  have z2 := rec_cell hE6 2 _ rfl
  rw [hk1] at a1
  obtain ⟨w7, hw7⟩ : ∃ w7, w6.alloc (.cells #[.pointer (some ⟨N + 1 + 1 + 1, 0, none⟩), .int .i64 0, .int .i64 k1, .int .i64 u1] 70) = w7 := ⟨_, rfl⟩
  have ho7 : w7.ownsRow (N + 4) 32 1 (.slice xa u1 xc) u1 ((T1.cat T2).s.map pt) ∧ w7.ownsRow (N + 4) 70 4 (.slice ya u2 yc) u2 ((T1.cat T2).j.flatMap jc) ∧ w7.ownsRow (N + 4) 49 1 (.slice za u3 zc) u3 ((T1.cat T2).n.map fun p => pt p.1) := by
    rw [← hw7]; exact ⟨ho6.1.alloc _, ho6.2.1.alloc _, ho6.2.2.alloc _⟩
  have hrow : RowR w7 70 4 (.slice (some ⟨E + 1, 0, none⟩) 1 1) 1 [.pointer (some ⟨N + 1 + 1 + 1, 0, none⟩), .int .i64 0, .int .i64 k1, .int .i64 u1] := by rw [← hw7]; exact row_four (rec_new' _ _ _ _ hs6)
  have hE7 : Rec w7 E 30 #[.nilIface, .slice xa u1 xc, .slice ya u2 yc, .slice za u3 zc] := by rw [← hw7]; exact hE6.alloc _
  have hb47 : Below (N + 4) w4 w7 := by rw [← hw7]; exact hb46.alloc (by omega) _
  have hs7 : N + 4 ≤ w7.heap.size := by rw [← hw7]; simp [hs6]; omega
  have HW7 : Hid (w6.alloc (.cells #[.pointer (some ⟨N + 1 + 1 + 1, 0, none⟩), .int .i64 0, .int .i64 k1, .int .i64 u1] 70) = w7) := hw7
  have HO7 : Hid (w7.ownsRow (N + 4) 70 4 (.slice ya u2 yc) u2 ((T1.cat T2).j.flatMap jc)) := ho7.2.1
  have HS7 : Hid (w7.ownsRow (N + 4) 32 1 (.slice xa u1 xc) u1 ((T1.cat T2).s.map pt)) := ho7.1
  have HN7 : Hid (w7.ownsRow (N + 4) 49 1 (.slice za u3 zc) u3 ((T1.cat T2).n.map fun p => pt p.1)) := ho7.2.2
  have HR7 : Hid (RowR w7 70 4 (.slice (some ⟨E + 1, 0, none⟩) 1 1) 1 [.pointer (some ⟨N + 1 + 1 + 1, 0, none⟩), .int .i64 0, .int .i64 k1, .int .i64 u1]) := hrow
  have HE7 : Hid (Rec w7 E 30 #[.nilIface, .slice xa u1 xc, .slice ya u2 yc, .slice za u3 zc]) := hE7
  clear hw6 hw7 ho5 ho6 ho7 hrow hE6 hE7 hE hsh1 hsh2 hsh3 hcat a0 a2 a3 e0 e1 e2 e3
  go_upto_region 4 with (at_builtin; rw [HW7.out]; refine app_row row27 (N + 4) _ u2 _ rfl HO7.out _ 1 _ rfl HR7.out (by intro u hu; simp only [List.mem_cons, List.not_mem_nil, or_false] at hu; rcases hu with rfl | rfl | rfl | rfl <;> rfl) (by omega) hs7 ?_; intro v8 w8 ho8 hg8 hv8; obtain ⟨va, vc, rfl⟩ := hv8; have hE8 := rec_other HE7.out HO7.out (by decide) hg8; have y2 := rec_cell hE8 2 _ rfl; have f2 := frozen_of_row w8 E 2 _ _ hE8; clear hE8)
  have hE8 := rec_other HE7.out HO7.out (by decide) hg8
  have hS8 := own_other HS7.out HO7.out (by decide) hg8
  have hN8 := own_other HN7.out HO7.out (by decide) hg8
  have hb48 : Below (N + 4) w4 w8 := hb47.trans (grown_below HO7.out hs7 hg8)
  obtain ⟨w9, hw9⟩ : ∃ w9, w8.setCell ⟨E, 2, none⟩ (.slice va (u2 + 1) vc) = w9 := ⟨_, rfl⟩
  rw [hw9]
  have hE9 : Rec w9 E 30 #[.nilIface, .slice xa u1 xc, .slice va (u2 + 1) vc, .slice za u3 zc] := by rw [← hw9]; exact hE8.set 2 _
  have hS9 : RowR w9 32 1 (.slice xa u1 xc) u1 ((T1.cat T2).s.map pt) := by rw [← hw9]; exact (own_row hS8).set' (p := ⟨E, 2, none⟩) hE8 (by decide)
  have hJ9 : RowR w9 70 4 (.slice va (u2 + 1) vc) (u2 + 1) ((T1.cat T2).j.flatMap jc ++ [.pointer (some ⟨N + 1 + 1 + 1, 0, none⟩), .int .i64 0, .int .i64 k1, .int .i64 u1]) := by rw [← hw9]; exact (own_row ho8).set' (p := ⟨E, 2, none⟩) hE8 (by decide)
  have hN9 : RowR w9 49 1 (.slice za u3 zc) u3 ((T1.cat T2).n.map fun p => pt p.1) := by rw [← hw9]; exact (own_row hN8).set' (p := ⟨E, 2, none⟩) hE8 (by decide)
  have hb49 : Below (N + 4) w4 w9 := by rw [← hw9]; exact hb48.setCell (p := ⟨E, 2, none⟩) hNE _
  have y0 := rec_cell hE9 0 _ rfl
  have f0 := frozen_of_row w9 E 0 _ _ hE9
  clear hw9 hE8 hS8 hN8 ho8 hg8 y2 f2
  have HE9 : Hid (Rec w9 E 30 #[.nilIface, .slice xa u1 xc, .slice va (u2 + 1) vc, .slice za u3 zc]) := hE9
  have HS9 : Hid (RowR w9 32 1 (.slice xa u1 xc) u1 ((T1.cat T2).s.map pt)) := hS9
  have HJ9 : Hid (RowR w9 70 4 (.slice va (u2 + 1) vc) (u2 + 1) ((T1.cat T2).j.flatMap jc ++ [.pointer (some ⟨N + 1 + 1 + 1, 0, none⟩), .int .i64 0, .int .i64 k1, .int .i64 u1])) := hJ9
  have HN9 : Hid (RowR w9 49 1 (.slice za u3 zc) u3 ((T1.cat T2).n.map fun p => pt p.1)) := hN9
  clear hE9 hS9 hJ9 hN9
  go_upto_region 5 with fail
  obtain ⟨w10, hw10⟩ : ∃ w10, w9.setCell ⟨E, 0, none⟩ (.iface 68 (.pointer (some ⟨N + 1 + 1 + 1, 0, none⟩))) = w10 := ⟨_, rfl⟩
  rw [hw10]
  have hE10 : Rec w10 E 30 #[.iface 68 (.pointer (some ⟨N + 1 + 1 + 1, 0, none⟩)), .slice xa u1 xc, .slice va (u2 + 1) vc, .slice za u3 zc] := by rw [← hw10]; exact HE9.out.set 0 _
  have hb410 : Below (N + 4) w4 w10 := by rw [← hw10]; exact hb49.setCell (p := ⟨E, 0, none⟩) hNE _
  have hk910 : Kept w9 w10 := by rw [← hw10]; exact Kept.set' (p := ⟨E, 0, none⟩) HE9.out (.inr rfl) _
  have hB10 := HB4.out.below (hb410.mono (by omega))
  have y0 := rec_cell hE10 0 _ rfl
  have y1 := rec_cell hE10 1 _ rfl
  have y2 := rec_cell hE10 2 _ rfl
  have y3 := rec_cell hE10 3 _ rfl
  have r0 := rec_cell hB10.2.2 0 _ rfl
  have r1 := rec_cell hB10.2.2 1 _ rfl
  have r2 := rec_cell hB10.2.2 2 _ rfl
  have r3 := rec_cell hB10.2.2 3 _ rfl
  have f0 := frozen_of_row w10 (N + 2) 0 _ _ hB10.2.2
  have f1 := frozen_of_row w10 (N + 2) 1 _ _ hB10.2.2
  have f2 := frozen_of_row w10 (N + 2) 2 _ _ hB10.2.2
  have f3 := frozen_of_row w10 (N + 2) 3 _ _ hB10.2.2
  clear hw10
  go_wp2_with fail
  obtain ⟨wz, hwz⟩ : ∃ wz, set4 w10 (N + 1 + 1) (.iface 68 (.pointer (some ⟨N + 1 + 1 + 1, 0, none⟩))) (.slice xa u1 xc) (.slice va (u2 + 1) vc) (.slice za u3 zc) = wz := ⟨_, rfl⟩
  have hrz : Rec wz (N + 1 + 1) 30 #[.iface 68 (.pointer (some ⟨N + 1 + 1 + 1, 0, none⟩)), .slice xa u1 xc, .slice va (u2 + 1) vc, .slice za u3 zc] := by rw [← hwz]; exact set4_rec hB10.2.2 _ _ _ _
  have hkz : Kept w10 wz := by rw [← hwz]; exact set4_kept hB10.2.2 _ _ _ _
  have hbz : Below N w wz := by
    rw [← hwz]
    rw [hN] at hb4
    exact set4_below (hb4.trans (hb410.mono (by omega))) (by omega) _ _ _ _
  unfold set4 at hwz
  rw [hwz]
  refine bodyPost_ret (results_cell_row Yba.results6 _ wz (N + 1 + 1) 30 _ _ _ rfl hrz Yba.underlying30 rfl size30) rfl ?_
  have hk := hk910.trans hkz
  have hJz : Rec wz (N + 3) 81 #[.int .i64 0, .slice none 0 0, .slice none 0 0, .iface t1 (.pointer (some ⟨p1, 0, none⟩)), .iface t2 (.pointer (some ⟨p2, 0, none⟩))] := hkz _ _ _ ((hb410.block _ (by omega)).trans HJ4.out) (by decide) (by decide)
  have hk4z : Kept w4 wz := by
    have hk410 : Kept w4 w10 := Kept.below (by rw [hs4]; exact hb410)
    exact hk410.trans hkz
  refine ⟨N + 3, _, _, _, rfl, ⟨?_, ?_, ?_⟩, ?_, ⟨_, hJz⟩, by omega, by rw [hN]; exact hbz⟩
  · have e : (joinT (N + 3) T1 T2).s.length = u1 := hu1
    rw [e]
    exact HS9.out.keep hk (by decide) (by decide)
  · have e : (joinT (N + 3) T1 T2).j.length = u2 + 1 := by simp [joinT, hu2]
    rw [e]
    have e2 : (joinT (N + 3) T1 T2).j.flatMap jc = (T1.cat T2).j.flatMap jc ++ [.pointer (some ⟨N + 1 + 1 + 1, 0, none⟩), .int .i64 0, .int .i64 k1, .int .i64 u1] := by
      have e3 : (T1.s ++ T2.s).length = u1 := hu1
      simp only [joinT, List.flatMap_append, List.flatMap_cons, List.flatMap_nil, List.append_nil, jc, pt, hk1, e3]
      rfl
    rw [e2]
    exact HJ9.out.keep hk (by decide) (by decide)
  · have e : (joinT (N + 3) T1 T2).n.length = u3 := hu3
    rw [e]
    exact HN9.out.keep hk (by decide) (by decide)
  · exact .inr (.inr (.inr (.inl ⟨N + 3, _, _, _, T1, T2, rfl, hJz, rfl, rfl, HT14.out.keep hk4z, HT24.out.keep hk4z, rfl⟩)))
end Go.Proofs.Ybulkedqq
