import Derived.Test.YbulkedqqJoin
namespace Go.Proofs.Ybulkedqq
open Go.RowKit
set_option linter.unusedVariables false

/-- An entry of the law's stack. -/
structure Ent where
  p : Value
  sv : Value
  jv : Value
  nv : Value
  T : Pl
def ec (E : Ent) : List Value := [E.p, E.sv, E.jv, E.nv]
def Ent.val (E : Ent) : Value := .agg #[E.p, E.sv, E.jv, E.nv]

/-- Every row of cells whose type is not 30 is kept. -/
def KeptB (W W' : World) : Prop := ∀ b t cs, Rec W b t cs → t ≠ 30 → Rec W' b t cs
theorem KeptB.kept {W W' : World} (h : KeptB W W') : Kept W W' := fun b t cs r _ h30 => h b t cs r h30
theorem KeptB.refl (W : World) : KeptB W W := fun _ _ _ h _ => h
theorem KeptB.trans {a b c : World} (h : KeptB a b) (k : KeptB b c) : KeptB a c := fun x t cs r h30 => k x t cs (h x t cs r h30) h30
theorem KeptB.below {W W' : World} (h : Below W.heap.size W W') : KeptB W W' := fun b t cs r _ => (h.block b r.lt).trans r
theorem KeptB.set' {w : World} {cs : Array Value} {p : Addr} (hr : Rec w p.block 30 cs) (u : Value) : KeptB w (w.setCell p u) := by
  intro b t cs' r h30
  refine r.other ?_ u
  rintro rfl
  unfold Rec at hr r
  rw [hr] at r
  cases r
  exact h30 rfl
theorem KeptB.set4 {w : World} {g : Nat} {x0 x1 x2 x3 : Value} (h : Rec w g 30 #[x0, x1, x2, x3]) (a b c d : Value) : KeptB w (set4 w g a b c d) :=
  (KeptB.set' (p := ⟨g, 0, none⟩) h a).trans ((KeptB.set' (p := ⟨g, 1, none⟩) (h.set 0 a) b).trans ((KeptB.set' (p := ⟨g, 2, none⟩) ((h.set 0 a).set 1 b) c).trans (KeptB.set' (p := ⟨g, 3, none⟩) (((h.set 0 a).set 1 b).set 2 c) d)))
theorem KeptB.grown {w w' : World} {B sz m : Nat} {v : Value} {ys : List Value} (h : w.ownsRow B 30 sz v m ys) (hg : w.grownBy w' v.ownBlock) : KeptB w w' := fun b t cs r h30 => rec_other r h h30 hg
theorem KeptB.tag {W W' : World} (h : KeptB W W') {b : Nat} {t : TypeId} (ht : Tag W b t) (h30 : t ≠ 30) : Tag W' b t := by
  obtain ⟨cs, r⟩ := ht
  exact ⟨cs, h b t cs r h30⟩

def EntOK (w : World) (d : Nat) (E : Ent) : Prop := EntR w E.T E.sv E.jv E.nv ∧ IsT d w E.p E.T
theorem EntOK.keep {w w' : World} {d : Nat} {E : Ent} (h : EntOK w d E) (hk : KeptB w w') : EntOK w' d E := ⟨h.1.keep hk.kept, h.2.keep hk.kept⟩

def fS (Ts : List Pl) : List Nat := Ts.flatMap (·.s)
def fJ (Ts : List Pl) : List Nat := Ts.flatMap fun T => T.j.map (·.1)
def fN (Ts : List Pl) : List Nat := Ts.flatMap fun T => T.n.map (·.2)
theorem fS_append (a b : List Pl) : fS (a ++ b) = fS a ++ fS b := by simp [fS]
theorem fJ_append (a b : List Pl) : fJ (a ++ b) = fJ a ++ fJ b := by simp [fJ]
theorem fN_append (a b : List Pl) : fN (a ++ b) = fN a ++ fN b := by simp [fN]
theorem fS_one (T : Pl) : fS [T] = T.s := by simp [fS]
theorem fJ_one (T : Pl) : fJ [T] = T.j.map (·.1) := by simp [fJ]
theorem fN_one (T : Pl) : fN [T] = T.n.map (·.2) := by simp [fN]

/-- All sources, joins, counters of the stack lie apart; the counters stand at nought. -/
def Good (w : World) (B : Nat) (Ts : List Pl) : Prop :=
  (fS Ts).Nodup ∧ (∀ s ∈ fS Ts, Tag w s 35) ∧ (fJ Ts).Nodup ∧ (∀ s ∈ fJ Ts, Tag w s 81) ∧ (fN Ts).Nodup ∧ ∀ c ∈ fN Ts, Rec w c 3 #[.int .i64 0] ∧ B ≤ c
theorem Good.keep {w w' : World} {B : Nat} {Ts : List Pl} (h : Good w B Ts) (hk : KeptB w w') : Good w' B Ts :=
  ⟨h.1, fun s hs => hk.tag (h.2.1 s hs) (by decide), h.2.2.1, fun s hs => hk.tag (h.2.2.2.1 s hs) (by decide), h.2.2.2.2.1, fun c hc => ⟨hk _ _ _ (h.2.2.2.2.2 c hc).1 (by decide), (h.2.2.2.2.2 c hc).2⟩⟩
theorem Tag.lt {w : World} {b t : Nat} (h : Tag w b t) : b < w.heap.size := by
  obtain ⟨cs, r⟩ := h
  exact r.lt

theorem nodup_mid {pre pop fs : List Nat} {N : Nat} (h : (pre ++ pop).Nodup) (hlt : ∀ x ∈ pre ++ pop, x < N) (hf : fs.Nodup) (hge : ∀ x ∈ fs, N ≤ x) (l : List Nat) (hl : l.Perm (fs ++ pop)) : (pre ++ l).Nodup := by
  have h1 : (pre ++ (fs ++ pop)).Nodup := by
    rw [List.nodup_append] at h ⊢
    refine ⟨h.1, ?_, ?_⟩
    · rw [List.nodup_append]
      refine ⟨hf, h.2.1, fun a ha b hb => ?_⟩
      have := hge a ha
      have := hlt b (by simp [hb])
      omega
    · intro a ha b hb
      rcases List.mem_append.1 hb with hb | hb
      · have := hge b hb
        have := hlt a (by simp [ha])
        omega
      · exact h.2.2 a ha b hb
  exact ((hl.append_left pre).nodup_iff).2 h1

/-- The top of the stack, pop, gives way to one subtree. -/
theorem Good.step {w w' : World} {B : Nat} {pre pop : List Pl} {T : Pl} {fs fj fn : List Nat} (h : Good w B (pre ++ pop)) (hk : KeptB w w') (hB : B ≤ w.heap.size)
    (hs : T.s.Perm (fs ++ fS pop)) (hj : (T.j.map (·.1)).Perm (fj ++ fJ pop)) (hn : (T.n.map (·.2)).Perm (fn ++ fN pop))
    (ns : fs.Nodup) (nj : fj.Nodup) (nn : fn.Nodup) (gs : ∀ x ∈ fs, w.heap.size ≤ x ∧ Tag w' x 35) (gj : ∀ x ∈ fj, w.heap.size ≤ x ∧ Tag w' x 81) (gn : ∀ x ∈ fn, w.heap.size ≤ x ∧ Rec w' x 3 #[.int .i64 0]) : Good w' B (pre ++ [T]) := by
  obtain ⟨h1, h2, h3, h4, h5, h6⟩ := h
  rw [fS_append] at h1 h2
  rw [fJ_append] at h3 h4
  rw [fN_append] at h5 h6
  refine ⟨?_, ?_, ?_, ?_, ?_, ?_⟩
  · rw [fS_append, fS_one]
    exact nodup_mid h1 (fun x hx => (h2 x hx).lt) ns (fun x hx => (gs x hx).1) _ hs
  · rw [fS_append, fS_one]
    intro x hx
    rcases List.mem_append.1 hx with hx | hx
    · exact hk.tag (h2 x (by simp [hx])) (by decide)
    · rcases List.mem_append.1 (hs.mem_iff.1 hx) with hx | hx
      · exact (gs x hx).2
      · exact hk.tag (h2 x (by simp [hx])) (by decide)
  · rw [fJ_append, fJ_one]
    exact nodup_mid h3 (fun x hx => (h4 x hx).lt) nj (fun x hx => (gj x hx).1) _ hj
  · rw [fJ_append, fJ_one]
    intro x hx
    rcases List.mem_append.1 hx with hx | hx
    · exact hk.tag (h4 x (by simp [hx])) (by decide)
    · rcases List.mem_append.1 (hj.mem_iff.1 hx) with hx | hx
      · exact (gj x hx).2
      · exact hk.tag (h4 x (by simp [hx])) (by decide)
  · rw [fN_append, fN_one]
    exact nodup_mid h5 (fun x hx => (h6 x hx).1.lt) nn (fun x hx => (gn x hx).1) _ hn
  · rw [fN_append, fN_one]
    intro x hx
    rcases List.mem_append.1 hx with hx | hx
    · exact ⟨hk _ _ _ (h6 x (by simp [hx])).1 (by decide), (h6 x (by simp [hx])).2⟩
    · rcases List.mem_append.1 (hn.mem_iff.1 hx) with hx | hx
      · exact ⟨(gn x hx).2, Nat.le_trans hB (gn x hx).1⟩
      · exact ⟨hk _ _ _ (h6 x (by simp [hx])).1 (by decide), (h6 x (by simp [hx])).2⟩

/-- How much there is. -/
def Cnt (Ts : List Pl) (a b c : Nat) : Prop := (fS Ts).length ≤ a ∧ (fJ Ts).length + Ts.length ≤ b ∧ (fN Ts).length ≤ c
theorem Cnt.step {pre pop : List Pl} {T : Pl} {fs fj fn : List Nat} {a b c : Nat} (h : Cnt (pre ++ pop) a b c) (hs : T.s.Perm (fs ++ fS pop)) (hj : (T.j.map (·.1)).Perm (fj ++ fJ pop)) (hn : (T.n.map (·.2)).Perm (fn ++ fN pop)) (a' b' c' : Nat) (ha : a + fs.length ≤ a') (hb : b + fj.length + 1 ≤ b' + pop.length) (hc : c + fn.length ≤ c') : Cnt (pre ++ [T]) a' b' c' := by
  obtain ⟨h1, h2, h3⟩ := h
  have e1 := hs.length_eq
  have e2 := hj.length_eq
  have e3 := hn.length_eq
  rw [fS_append] at h1
  rw [fJ_append] at h2
  rw [fN_append] at h3
  simp only [List.length_append] at h1 h2 h3 e1 e2 e3
  refine ⟨?_, ?_, ?_⟩
  · rw [fS_append, fS_one]; simp only [List.length_append]; omega
  · rw [fJ_append, fJ_one]; simp only [List.length_append, List.length_cons, List.length_nil]; omega
  · rw [fN_append, fN_one]; simp only [List.length_append]; omega
theorem Cnt.mono {Ts : List Pl} {a b c a' b' c' : Nat} (h : Cnt Ts a b c) (ha : a ≤ a') (hb : b ≤ b') (hc : c ≤ c') : Cnt Ts a' b' c' := ⟨Nat.le_trans h.1 ha, Nat.le_trans h.2.1 hb, Nat.le_trans h.2.2 hc⟩

theorem IsT.spans : ∀ {n : Nat} {W : World} {v : Value} {T : Pl}, IsT n W v T → ∀ x ∈ T.j, x.2.1 ≤ T.s.length ∧ x.2.2.1 ≤ T.s.length ∧ x.2.2.2 ≤ T.s.length := by
  have hcat : ∀ a b : Pl, (∀ x ∈ a.j, x.2.1 ≤ a.s.length ∧ x.2.2.1 ≤ a.s.length ∧ x.2.2.2 ≤ a.s.length) → (∀ x ∈ b.j, x.2.1 ≤ b.s.length ∧ x.2.2.1 ≤ b.s.length ∧ x.2.2.2 ≤ b.s.length) → ∀ x ∈ (a.cat b).j, x.2.1 ≤ (a.cat b).s.length ∧ x.2.2.1 ≤ (a.cat b).s.length ∧ x.2.2.2 ≤ (a.cat b).s.length := by
    intro a b ha hb x hx
    simp only [Pl.cat, List.length_append] at hx ⊢
    rcases List.mem_append.1 hx with hx | hx
    · have := ha x hx; omega
    · obtain ⟨y, hy, rfl⟩ := List.mem_map.1 hx
      have := hb y hy
      simp only [shf]
      omega
  have hall : ∀ (l : List Pl) (t : Pl), (∀ x ∈ t.j, x.2.1 ≤ t.s.length ∧ x.2.2.1 ≤ t.s.length ∧ x.2.2.2 ≤ t.s.length) → (∀ T ∈ l, ∀ x ∈ T.j, x.2.1 ≤ T.s.length ∧ x.2.2.1 ≤ T.s.length ∧ x.2.2.2 ≤ T.s.length) → ∀ x ∈ (catAll l t).j, x.2.1 ≤ (catAll l t).s.length ∧ x.2.2.1 ≤ (catAll l t).s.length ∧ x.2.2.2 ≤ (catAll l t).s.length := by
    intro l
    induction l with
    | nil => intro t ht _; exact ht
    | cons y l ih => intro t ht hl; exact ih (t.cat y) (hcat t y ht (hl y (by simp))) (fun T hT => hl T (by simp [hT]))
  intro n
  induction n with
  | zero => intro W v T h; exact h.elim
  | succ n ih =>
    intro W v T h
    rcases h with ⟨b, s, cs, _, _, _, rfl⟩ | ⟨b, s, cs, _, _, _, rfl⟩ | ⟨b, s, u, cs, T', _, _, _, _, h5, rfl⟩ | ⟨b, u1, u2, cs, T1, T2, _, _, _, _, h5, h6, rfl⟩ | ⟨b, u, cs, _, _, _, h4⟩ | ⟨b, c, cs, ao, cap, ks, _, _, _, _, _, h6, rfl, _⟩
    · simp [oneS]
    · simp [oneS]
    · exact hcat _ _ (by simp [oneS]) (ih h5)
    · intro x hx
      rcases List.mem_append.1 hx with hx | hx
      · exact hcat _ _ (ih h5) (ih h6) x hx
      · obtain rfl : x = _ := by simpa using hx
        simp [joinT]
    · exact ih h4
    · intro x hx
      have hx' : x ∈ (catAll (ks.map fun k => k.2) Pl.nil).j := hx
      refine hall (ks.map fun k => k.2) Pl.nil (by simp [Pl.nil]) ?_ x hx'
      intro T hT
      obtain ⟨k, hk, rfl⟩ := List.mem_map.1 hT
      exact ih (h6 k hk)
theorem flat_le {f : Pl → List Nat} : ∀ {Ts : List Pl} {T : Pl}, T ∈ Ts → (f T).length ≤ (Ts.flatMap f).length
  | x :: Ts, T, h => by
    simp only [List.flatMap_cons, List.length_append]
    rcases List.mem_cons.1 h with rfl | h
    · omega
    · have := flat_le (f := f) h; omega
  | [], _, h => by simp at h
theorem sml_of {Ts : List Pl} {T : Pl} {a b c n : Nat} {W : World} {v : Value} (hc : Cnt Ts a b c) (hT : T ∈ Ts) (h : IsT n W v T) (ha : a ≤ 100000) (hb : b ≤ 100000) (hcc : c ≤ 100000) : Sml T := by
  obtain ⟨h1, h2, h3⟩ := hc
  have e1 : T.s.length ≤ (fS Ts).length := by
    exact flat_le (f := fun T => T.s) hT
  have e2 : T.j.length ≤ (fJ Ts).length := by
    have := flat_le (f := fun T => T.j.map (·.1)) hT
    simpa [fJ] using this
  have e3 : T.n.length ≤ (fN Ts).length := by
    have := flat_le (f := fun T => T.n.map (·.2)) hT
    simpa [fN] using this
  refine ⟨by omega, by omega, by omega, fun x hx => ?_⟩
  have := h.spans x hx
  omega

/-- The law's stack, in the slice v. -/
def St (w : World) (B : Nat) (v : Value) (Es : List Ent) (a b c : Nat) : Prop :=
  w.ownsRow B 30 4 v Es.length (Es.flatMap ec) ∧ (∃ d, ∀ E ∈ Es, EntOK w d E) ∧ Good w B (Es.map (·.T)) ∧ Cnt (Es.map (·.T)) a b c
theorem St.below {w w' : World} {B a b c : Nat} {v : Value} {Es : List Ent} (h : St w B v Es a b c) (hb : Below w.heap.size w w') : St w' B v Es a b c := by
  obtain ⟨h1, ⟨d, h2⟩, h3, h4⟩ := h
  have hk := KeptB.below hb
  refine ⟨h1.kept (row := none) ⟨hb.os, hb.tape, hb.output, hb.size, fun k hk _ => hb.block k hk⟩ ?_, ⟨d, fun E hE => (h2 E hE).keep hk⟩, h3.keep hk, h4⟩
  by_cases e : v.ownBlock = none
  · exact .inl e
  · exact .inr e
theorem St.step {w w' : World} {B a b c : Nat} {v : Value} {pre pop : List Ent} {fs fj fn : List Nat} (h : St w B v (pre ++ pop) a b c) (hk : KeptB w w') (hB : B ≤ w.heap.size) (E : Ent) (d : Nat) (hE : EntOK w' d E) (v' : Value) (ho : w'.ownsRow B 30 4 v' (pre.length + 1) (pre.flatMap ec ++ ec E))
    (hs : E.T.s.Perm (fs ++ fS (pop.map (·.T)))) (hj : (E.T.j.map (·.1)).Perm (fj ++ fJ (pop.map (·.T)))) (hn : (E.T.n.map (·.2)).Perm (fn ++ fN (pop.map (·.T))))
    (ns : fs.Nodup) (nj : fj.Nodup) (nn : fn.Nodup) (gs : ∀ x ∈ fs, w.heap.size ≤ x ∧ Tag w' x 35) (gj : ∀ x ∈ fj, w.heap.size ≤ x ∧ Tag w' x 81) (gn : ∀ x ∈ fn, w.heap.size ≤ x ∧ Rec w' x 3 #[.int .i64 0])
    (a' b' c' : Nat) (ha : a + fs.length ≤ a') (hb : b + fj.length + 1 ≤ b' + pop.length) (hc : c + fn.length ≤ c') : St w' B v' (pre ++ [E]) a' b' c' := by
  obtain ⟨h1, ⟨d0, h2⟩, h3, h4⟩ := h
  rw [List.map_append] at h3 h4
  refine ⟨by simpa using ho, ⟨d0 + d, fun E' hE' => ?_⟩, ?_, ?_⟩
  · rcases List.mem_append.1 hE' with hE' | hE'
    · have := (h2 E' (by simp [hE'])).keep hk
      exact ⟨this.1, this.2.mono (by omega)⟩
    · obtain rfl : E' = E := by simpa using hE'
      exact ⟨hE.1, hE.2.mono (by omega)⟩
  · rw [List.map_append]
    exact h3.step hk hB hs hj hn ns nj nn gs gj gn
  · rw [List.map_append]
    exact h4.step hs hj hn a' b' c' ha (by simpa using hb) hc
theorem St.nil (w : World) (B : Nat) : St w B (.slice none 0 0) [] 0 0 0 :=
  ⟨World.ownsRow_nil _ _ _ _, ⟨0, by simp⟩, ⟨by simp [fS], by simp [fS], by simp [fJ], by simp [fJ], by simp [fN], by simp [fN]⟩, by simp [fS], by simp [fJ], by simp [fN]⟩

theorem own_prefix {w : World} {B e sz n cap k : Nat} {ao : Option Addr} {xs : List Value} (h : w.ownsRow B e sz (.slice ao n cap) n xs) (hk : k ≤ n) : w.ownsRow B e sz (.slice ao k cap) k (xs.take (k * sz)) := by
  refine ⟨?_, ?_⟩
  · rw [List.length_take, h.1]
    exact Nat.min_eq_left (Nat.mul_le_mul_right _ hk)
  · rcases h.2 with ⟨hv, h0⟩ | ⟨g, cap', cur, hv, hb, hg, h1, h2, h3, h4⟩
    · injection hv with e1 e2 e3
      subst e1
      subst e3
      obtain rfl : k = 0 := by omega
      exact .inl ⟨rfl, rfl⟩
    · injection hv with e1 e2 e3
      subst e1
      subst e3
      refine .inr ⟨g, _, cur, rfl, hb, hg, by omega, h2, h3, ?_⟩
      rw [← h4, List.take_take, Nat.min_eq_left (Nat.mul_le_mul_right _ hk)]
theorem ec_len (l : List Ent) : (l.flatMap ec).length = l.length * 4 := by
  induction l with
  | nil => rfl
  | cons x l ih => simp only [List.flatMap_cons, List.length_append, ih, List.length_cons]; simp [ec]; omega
theorem ec_take (pre pop : List Ent) : ((pre ++ pop).flatMap ec).take (pre.length * 4) = pre.flatMap ec := by
  rw [List.flatMap_append, ← ec_len, List.take_left']
  rfl
theorem ec_at (pre post : List Ent) (E : Ent) (j : Nat) (hj : j < 4) : ((pre ++ E :: post).flatMap ec)[pre.length * 4 + j]? = (ec E)[j]? := by
  rw [List.flatMap_append, List.getElem?_append_right (by rw [ec_len]; omega), ec_len, show pre.length * 4 + j - pre.length * 4 = j by omega, List.flatMap_cons, List.getElem?_append_left (by simp [ec]; omega)]

/-- An entry of the stack, to be read. -/
theorem St.at {w : World} {B a b c n cap : Nat} {ao : Option Addr} {pre post : List Ent} {E : Ent} (h : St w B (.slice ao n cap) (pre ++ E :: post) a b c) :
    n = pre.length + post.length + 1 ∧ ∃ g cur, ao = some ⟨g, 0, none⟩ ∧ B ≤ g ∧ Rec w g 30 cur ∧ cur.size = cap * 4 ∧ n ≤ cap ∧ cap ≤ maxLen ∧ cur[pre.length * 4]? = some E.p ∧ cur[pre.length * 4 + 1]? = some E.sv ∧ cur[pre.length * 4 + 2]? = some E.jv ∧ cur[pre.length * 4 + 3]? = some E.nv := by
  have hn := h.1
  obtain ⟨h1, h2⟩ := hn
  rcases h2 with ⟨hv, h0⟩ | ⟨g, cap', cur, hv, hb, hg, h3, h4, h5, h6⟩
  · simp at h0
  · injection hv with e1 e2 e3
    subst e1
    subst e3
    have hnn : n = pre.length + post.length + 1 := by rw [e2]; simp; omega
    have key : ∀ j, j < 4 → cur[pre.length * 4 + j]? = (ec E)[j]? := by
      intro j hj
      rw [← ec_at pre post E j hj, ← h6, List.getElem?_take, if_pos (by simp; omega)]
      simp
    refine ⟨hnn, g, cur, rfl, hb, hg, h5, by omega, h4, ?_, ?_, ?_, ?_⟩
    · exact key 0 (by omega)
    · exact key 1 (by omega)
    · exact key 2 (by omega)
    · exact key 3 (by omega)

theorem row_one' {w : World} {e sz m : Nat} {v : Value} {ys : List Value} (h : RowR w e sz v m ys) : v.oneCell' = true := by
  obtain ⟨_, ao, cap, rfl, _⟩ := h
  rfl
theorem EntOK.one {w : World} {d : Nat} {E : Ent} (h : EntOK w d E) : ∀ u ∈ ec E, u.oneCell' = true := by
  intro u hu
  obtain ⟨ty, b, hp⟩ := h.2.shape
  simp only [ec, List.mem_cons, List.not_mem_nil, or_false] at hu
  rcases hu with rfl | rfl | rfl | rfl
  · rw [hp]; rfl
  · exact row_one' h.1.1
  · exact row_one' h.1.2.1
  · exact row_one' h.1.2.2

/-- The entries pop give way to E, which is laid behind pre. -/
theorem St.push {wr w1 : World} {N a b c m cap : Nat} {ao : Option Addr} {pre pop : List Ent} {fs fj fn : List Nat} (h : St wr N (.slice ao m cap) (pre ++ pop) a b c) (hN : N ≤ wr.heap.size) (hb1 : Below wr.heap.size wr w1) (E : Ent) (d : Nat) (hE : EntOK w1 d E)
    (hs : E.T.s.Perm (fs ++ fS (pop.map (·.T)))) (hj : (E.T.j.map (·.1)).Perm (fj ++ fJ (pop.map (·.T)))) (hn : (E.T.n.map (·.2)).Perm (fn ++ fN (pop.map (·.T))))
    (ns : fs.Nodup) (nj : fj.Nodup) (nn : fn.Nodup) (gs : ∀ x ∈ fs, wr.heap.size ≤ x ∧ Tag w1 x 35) (gj : ∀ x ∈ fj, wr.heap.size ≤ x ∧ Tag w1 x 81) (gn : ∀ x ∈ fn, wr.heap.size ≤ x ∧ Rec w1 x 3 #[.int .i64 0])
    (a' b' c' : Nat) (ha : a + fs.length ≤ a') (hb : b + fj.length + 1 ≤ b' + pop.length) (hc : c + fn.length ≤ c') :
    (w1.alloc (.cells #[E.p, E.sv, E.jv, E.nv] 30)).ownsRow N 30 4 (.slice ao pre.length cap) pre.length (pre.flatMap ec) ∧ RowR (w1.alloc (.cells #[E.p, E.sv, E.jv, E.nv] 30)) 30 4 (.slice (some ⟨w1.heap.size, 0, none⟩) 1 1) 1 (ec E) ∧ N ≤ (w1.alloc (.cells #[E.p, E.sv, E.jv, E.nv] 30)).heap.size ∧
    ∀ v' w3, w3.ownsRow N 30 4 v' (pre.length + 1) (pre.flatMap ec ++ ec E) → (w1.alloc (.cells #[E.p, E.sv, E.jv, E.nv] 30)).grownBy w3 (Value.slice ao pre.length cap).ownBlock → St w3 N v' (pre ++ [E]) a' b' c' ∧ Below N wr w3 := by
  have hb2 : Below wr.heap.size wr (w1.alloc (.cells #[E.p, E.sv, E.jv, E.nv] 30)) := hb1.alloc hb1.size _
  have h2 := h.below hb2
  have hm : m = (pre ++ pop).length := by
    obtain ⟨ao', c', h⟩ := own_shape h.1
    injection h
  have hown : (w1.alloc (.cells #[E.p, E.sv, E.jv, E.nv] 30)).ownsRow N 30 4 (.slice ao pre.length cap) pre.length (pre.flatMap ec) := by
    have := h2.1
    rw [hm] at this
    have := own_prefix this (k := pre.length) (by simp)
    rwa [ec_take] at this
  have hsz : N ≤ (w1.alloc (.cells #[E.p, E.sv, E.jv, E.nv] 30)).heap.size := Nat.le_trans hN hb2.size
  have hk12 : KeptB w1 (w1.alloc (.cells #[E.p, E.sv, E.jv, E.nv] 30)) := KeptB.below ((Below.refl _ w1).alloc (Nat.le_refl _) _)
  refine ⟨hown, row_four (rec_new _ _ _), hsz, fun v' w3 ho3 hg3 => ⟨?_, ?_⟩⟩
  · have hk := KeptB.grown hown hg3
    have hk13 := hk12.trans hk
    refine h.step ((KeptB.below hb2).trans hk) hN E d (hE.keep hk13) v' ho3 hs hj hn ns nj nn (fun x hx => ⟨(gs x hx).1, hk13.tag (gs x hx).2 (by decide)⟩) (fun x hx => ⟨(gj x hx).1, hk13.tag (gj x hx).2 (by decide)⟩) (fun x hx => ⟨(gn x hx).1, hk13 _ _ _ (gn x hx).2 (by decide)⟩) a' b' c' ha hb hc
  · exact (hb2.mono hN).trans (grown_below hown hsz hg3)

def set4o (w : World) (g o : Nat) (a b c d : Value) : World := (((w.setCell ⟨g, o, none⟩ a).setCell ⟨g, o + 1, none⟩ b).setCell ⟨g, o + 2, none⟩ c).setCell ⟨g, o + 3, none⟩ d
theorem set4o_rec {w : World} {g o e : Nat} {cs : Array Value} (h : Rec w g e cs) (a b c d : Value) : Rec (set4o w g o a b c d) g e ((((cs.setIfInBounds o a).setIfInBounds (o + 1) b).setIfInBounds (o + 2) c).setIfInBounds (o + 3) d) := (((h.set o a).set (o + 1) b).set (o + 2) c).set (o + 3) d
theorem set4o_kept {w : World} {g o : Nat} {cs : Array Value} (h : Rec w g 30 cs) (a b c d : Value) : KeptB w (set4o w g o a b c d) :=
  (KeptB.set' (p := ⟨g, o, none⟩) h a).trans ((KeptB.set' (p := ⟨g, o + 1, none⟩) (h.set o a) b).trans ((KeptB.set' (p := ⟨g, o + 2, none⟩) ((h.set o a).set (o + 1) b) c).trans (KeptB.set' (p := ⟨g, o + 3, none⟩) (((h.set o a).set (o + 1) b).set (o + 2) c) d)))
theorem set4o_below {B : Nat} {w0 w : World} {g o : Nat} (h : Below B w0 w) (hg : B ≤ g) (a b c d : Value) : Below B w0 (set4o w g o a b c d) :=
  (((h.setCell (p := ⟨g, o, none⟩) hg a).setCell (p := ⟨g, o + 1, none⟩) hg b).setCell (p := ⟨g, o + 2, none⟩) hg c).setCell (p := ⟨g, o + 3, none⟩) hg d
theorem set_four (A : List Value) (x0 x1 x2 x3 a b c d : Value) : ((((A ++ [x0, x1, x2, x3]).set A.length a).set (A.length + 1) b).set (A.length + 2) c).set (A.length + 3) d = A ++ [a, b, c, d] := by
  induction A with
  | nil => rfl
  | cons y A ih =>
    simp only [List.cons_append, List.length_cons, List.set_cons_succ, show A.length + 1 + 1 = (A.length + 1) + 1 by omega, show A.length + 1 + 2 = (A.length + 2) + 1 by omega, show A.length + 1 + 3 = (A.length + 3) + 1 by omega, ih]
/-- The top of the stack is written anew. -/
theorem own_set4o {w : World} {B cap g : Nat} {pre : List Ent} {E0 : Ent} (h : w.ownsRow B 30 4 (.slice (some ⟨g, 0, none⟩) (pre.length + 1) cap) (pre.length + 1) ((pre ++ [E0]).flatMap ec)) (E : Ent) :
    (set4o w g (pre.length * 4) E.p E.sv E.jv E.nv).ownsRow B 30 4 (.slice (some ⟨g, 0, none⟩) (pre.length + 1) cap) (pre.length + 1) (pre.flatMap ec ++ ec E) := by
  obtain ⟨h0, h1⟩ := h
  rcases h1 with ⟨hv, _⟩ | ⟨g', cap', cur, hv, hb, hg, h3, h4, h5, h6⟩
  · cases hv
  · injection hv with e1 e2 e3
    injection e1 with e1
    injection e1 with e1
    subst e1
    subst e3
    refine ⟨by rw [List.length_append, ec_len]; simp [ec]; omega, .inr ⟨g, cap, _, rfl, hb, set4o_rec hg _ _ _ _, h3, h4, by simpa using h5, ?_⟩⟩
    simp only [Array.toList_setIfInBounds, List.take_set]
    rw [h6, List.flatMap_append]
    have e : [E0].flatMap ec = [E0.p, E0.sv, E0.jv, E0.nv] := by simp [ec]
    rw [e, ← ec_len, set_four]
    rfl
end Go.Proofs.Ybulkedqq
