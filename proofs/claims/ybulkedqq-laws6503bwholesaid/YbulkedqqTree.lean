import Derived.Test.YbulkedqqMap
namespace Go.Proofs.Ybulkedqq
open Go.RowKit
set_option linter.unusedVariables false

/-- A subtree in plain words: its sources, its joins with their spans, its own nodes with their counters: all by block. -/
structure Pl where
  s : List Nat
  j : List (Nat × Nat × Nat × Nat)
  n : List (Nat × Nat)

def shf (k : Nat) (x : Nat × Nat × Nat × Nat) : Nat × Nat × Nat × Nat := (x.1, x.2.1 + k, x.2.2.1 + k, x.2.2.2 + k)
def Pl.nil : Pl := ⟨[], [], []⟩
def Pl.cat (a b : Pl) : Pl := ⟨a.s ++ b.s, a.j ++ b.j.map (shf a.s.length), a.n ++ b.n⟩
def oneS (s : Nat) : Pl := ⟨[s], [], []⟩
def joinT (b : Nat) (l r : Pl) : Pl := ⟨l.s ++ r.s, (l.cat r).j ++ [(b, 0, l.s.length, (l.s ++ r.s).length)], l.n ++ r.n⟩
def nodeT (b c : Nat) (t : Pl) : Pl := ⟨t.s, t.j, t.n ++ [(b, c)]⟩
def catAll : List Pl → Pl → Pl
  | [], t => t
  | x :: xs, t => catAll xs (t.cat x)
theorem catAll_append : ∀ (xs ys : List Pl) (t : Pl), catAll (xs ++ ys) t = catAll ys (catAll xs t)
  | [], _, _ => rfl
  | x :: xs, ys, t => catAll_append xs ys (t.cat x)

/-- The tree under the interface value v, read in the world W: no deeper than the number says. -/
def IsT : Nat → World → Value → Pl → Prop
  | 0, _, _, _ => False
  | n + 1, W, v, T =>
    (∃ b s cs, v = .iface 76 (pt b) ∧ Rec W b 78 cs ∧ cs[0]? = some (pt s) ∧ T = oneS s) ∨
    (∃ b s cs, v = .iface 36 (pt b) ∧ Rec W b 38 cs ∧ cs[0]? = some (pt s) ∧ T = oneS s) ∨
    (∃ b s u cs T', v = .iface 40 (pt b) ∧ Rec W b 42 cs ∧ cs[0]? = some (pt s) ∧ cs[2]? = some u ∧ IsT n W u T' ∧ T = (oneS s).cat T') ∨
    (∃ b u1 u2 cs T1 T2, v = .iface 68 (pt b) ∧ Rec W b 81 cs ∧ cs[3]? = some u1 ∧ cs[4]? = some u2 ∧ IsT n W u1 T1 ∧ IsT n W u2 T2 ∧ T = joinT b T1 T2) ∨
    (∃ b u cs, v = .iface 43 (pt b) ∧ Rec W b 47 cs ∧ cs[2]? = some u ∧ IsT n W u T) ∨
    (∃ b c cs ao cap, ∃ ks : List (Value × Pl), v = .iface 49 (pt b) ∧ Rec W b 52 cs ∧ cs[0]? = some (.slice ao ks.length cap) ∧ cs[1]? = some (pt c) ∧
      (0 < ks.length → ∃ g kc, ao = some ⟨g, 0, none⟩ ∧ Rec W g 25 kc ∧ ∀ (i : Nat) (k : Value × Pl), ks[i]? = some k → kc[i]? = some k.1) ∧
      (∀ k ∈ ks, IsT n W k.1 k.2) ∧ T = nodeT b c (catAll (ks.map (·.2)) Pl.nil) ∧ ks.length ≤ 2)

/-- Every row of cells whose type is neither 3 nor 30 is kept. -/
def Kept (W W' : World) : Prop := ∀ b t cs, Rec W b t cs → t ≠ 3 → t ≠ 30 → Rec W' b t cs
theorem Kept.refl (W : World) : Kept W W := fun _ _ _ h _ _ => h
theorem Kept.trans {a b c : World} (h : Kept a b) (k : Kept b c) : Kept a c := fun x t cs r h3 h30 => k x t cs (h x t cs r h3 h30) h3 h30
theorem Kept.below {W W' : World} (h : Below W.heap.size W W') : Kept W W' := fun b t cs r _ _ => (h.block b r.lt).trans r
theorem Kept.drewN (W : World) (k : Nat) : Kept W (W.drewN k) := fun _ _ _ h _ _ => h
theorem Kept.tag {W W' : World} (h : Kept W W') {b : Nat} {t : TypeId} (ht : Tag W b t) (h3 : t ≠ 3) (h30 : t ≠ 30) : Tag W' b t := by
  obtain ⟨cs, r⟩ := ht
  exact ⟨cs, h b t cs r h3 h30⟩

theorem IsT.keep : ∀ {n : Nat} {W W' : World} {v : Value} {T : Pl}, IsT n W v T → Kept W W' → IsT n W' v T
  | 0, _, _, _, _, h, _ => h
  | n + 1, W, W', v, T, h, hk => by
    rcases h with ⟨b, s, cs, h1, h2, h3⟩ | ⟨b, s, cs, h1, h2, h3⟩ | ⟨b, s, u, cs, T', h1, h2, h3, h4, h5, h6⟩ | ⟨b, u1, u2, cs, T1, T2, h1, h2, h3, h4, h5, h6, h7⟩ | ⟨b, u, cs, h1, h2, h3, h4⟩ | ⟨b, c, cs, ao, cap, ks, h1, h2, h3, h4, h5, h6, h7⟩
    · exact .inl ⟨b, s, cs, h1, hk _ _ _ h2 (by decide) (by decide), h3⟩
    · exact .inr (.inl ⟨b, s, cs, h1, hk _ _ _ h2 (by decide) (by decide), h3⟩)
    · exact .inr (.inr (.inl ⟨b, s, u, cs, T', h1, hk _ _ _ h2 (by decide) (by decide), h3, h4, IsT.keep h5 hk, h6⟩))
    · exact .inr (.inr (.inr (.inl ⟨b, u1, u2, cs, T1, T2, h1, hk _ _ _ h2 (by decide) (by decide), h3, h4, IsT.keep h5 hk, IsT.keep h6 hk, h7⟩)))
    · exact .inr (.inr (.inr (.inr (.inl ⟨b, u, cs, h1, hk _ _ _ h2 (by decide) (by decide), h3, IsT.keep h4 hk⟩))))
    · refine .inr (.inr (.inr (.inr (.inr ⟨b, c, cs, ao, cap, ks, h1, hk _ _ _ h2 (by decide) (by decide), h3, h4, fun h0 => ?_, fun k hk' => IsT.keep (h6 k hk') hk, h7⟩))))
      obtain ⟨g, kc, q1, q2, q3⟩ := h5 h0
      exact ⟨g, kc, q1, hk _ _ _ q2 (by decide) (by decide), q3⟩
theorem IsT.succ : ∀ {n : Nat} {W : World} {v : Value} {T : Pl}, IsT n W v T → IsT (n + 1) W v T
  | 0, _, _, _, h => h.elim
  | n + 1, W, v, T, h => by
    rcases h with h | h | ⟨b, s, u, cs, T', h1, h2, h3, h4, h5, h6⟩ | ⟨b, u1, u2, cs, T1, T2, h1, h2, h3, h4, h5, h6, h7⟩ | ⟨b, u, cs, h1, h2, h3, h4⟩ | ⟨b, c, cs, ao, cap, ks, h1, h2, h3, h4, h5, h6, h7⟩
    · exact .inl h
    · exact .inr (.inl h)
    · exact .inr (.inr (.inl ⟨b, s, u, cs, T', h1, h2, h3, h4, IsT.succ h5, h6⟩))
    · exact .inr (.inr (.inr (.inl ⟨b, u1, u2, cs, T1, T2, h1, h2, h3, h4, IsT.succ h5, IsT.succ h6, h7⟩)))
    · exact .inr (.inr (.inr (.inr (.inl ⟨b, u, cs, h1, h2, h3, IsT.succ h4⟩))))
    · exact .inr (.inr (.inr (.inr (.inr ⟨b, c, cs, ao, cap, ks, h1, h2, h3, h4, h5, fun k hk => IsT.succ (h6 k hk), h7⟩))))
theorem IsT.mono {n m : Nat} {W : World} {v : Value} {T : Pl} (h : IsT n W v T) (hm : n ≤ m) : IsT m W v T := by
  induction hm with
  | refl => exact h
  | step _ ih => exact ih.succ

/-- What a call may do: all blocks but those of ex are as they were. -/
def Fr (ex : List Nat) (W W' : World) : Prop := W'.os = W.os ∧ W'.tape = W.tape ∧ W'.output = W.output ∧ W.heap.size ≤ W'.heap.size ∧ ∀ b, b < W.heap.size → b ∉ ex → W'.heap[b]? = W.heap[b]?
theorem Fr.refl (ex : List Nat) (W : World) : Fr ex W W := ⟨rfl, rfl, rfl, Nat.le_refl _, fun _ _ _ => rfl⟩
theorem Fr.trans {ex : List Nat} {a b c : World} (h : Fr ex a b) (k : Fr ex b c) : Fr ex a c :=
  ⟨k.1.trans h.1, k.2.1.trans h.2.1, k.2.2.1.trans h.2.2.1, Nat.le_trans h.2.2.2.1 k.2.2.2.1, fun x hx hn => (k.2.2.2.2 x (Nat.lt_of_lt_of_le hx h.2.2.2.1) hn).trans (h.2.2.2.2 x hx hn)⟩
theorem Fr.mono {ex ex' : List Nat} {a b : World} (h : Fr ex a b) (hs : ∀ x ∈ ex, x ∈ ex') : Fr ex' a b :=
  ⟨h.1, h.2.1, h.2.2.1, h.2.2.2.1, fun x hx hn => h.2.2.2.2 x hx (fun hm => hn (hs x hm))⟩
theorem Fr.below {W W' : World} (h : Below W.heap.size W W') (ex : List Nat) : Fr ex W W' := ⟨h.os, h.tape, h.output, h.size, fun b hb _ => h.block b hb⟩
theorem Fr.toBelow {ex : List Nat} {W W' : World} {N : Nat} (h : Fr ex W W') (hN : N ≤ W.heap.size) (hx : ∀ b ∈ ex, N ≤ b) : Below N W W' :=
  ⟨h.1, h.2.1, h.2.2.1, h.2.2.2.1, fun b hb => h.2.2.2.2 b (by omega) (fun hm => by have := hx b hm; omega)⟩
theorem Fr.at {ex : List Nat} {W W' : World} (h : Fr ex W W') {b : Nat} {o : Obj} (hb : W.heap[b]? = some o) (hn : b ∉ ex) : W'.heap[b]? = some o :=
  (h.2.2.2.2 b (Array.getElem?_eq_some_iff.1 hb).1 hn).trans hb

/-- Where maps and counters alone are turned, the rows of cells are kept. -/
theorem Fr.kept {ex : List Nat} {W W' : World} (h : Fr ex W W') (hx : ∀ b ∈ ex, (∃ es c, W.heap[b]? = some (.map es c)) ∨ Tag W b 3) : Kept W W' := by
  intro b t cs r h3 h30
  refine h.at r (fun hm => ?_)
  rcases hx b hm with ⟨es, c, q⟩ | ⟨cs', q⟩
  · rw [show W.heap[b]? = _ from r] at q; cases q
  · unfold Rec at q r
    rw [r] at q
    cases q
    exact h3 rfl
end Go.Proofs.Ybulkedqq
