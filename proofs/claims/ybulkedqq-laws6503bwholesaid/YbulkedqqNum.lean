import Derived.Test.YbulkedqqTree
import Derived.Deep.DeepCutAuto
import Derived.Deep.CutBlock
import Derived.OwnWalk
import Derived.RangeFuncRecord
namespace Go.Proofs.Ybulkedqq
open Go.RowKit
open Go.ChangeMaps (setBlock)
set_option linter.unusedVariables false

/-- The optimizer in block O, its two maps in Ms and Mj. -/
def Opt (W : World) (O Ms Mj : Nat) : Prop := ∃ cs, Rec W O 65 cs ∧ cs[1]? = some (.map (some Ms)) ∧ cs[3]? = some (.map (some Mj))
theorem Opt.keep {W W' : World} {O Ms Mj : Nat} (h : Opt W O Ms Mj) (hk : Kept W W') : Opt W' O Ms Mj := by
  obtain ⟨cs, h1, h2⟩ := h
  exact ⟨cs, hk _ _ _ h1 (by decide) (by decide), h2⟩

theorem agg_inputs (b ty b' : Nat) (w : World) (hc : w.cell? ⟨b, 2, none⟩ = some (.iface ty (pt b'))) :
    Calls Yba.prog 29 #[pt b] w fun e w' => e = .returned (.slice (some ⟨w.heap.size, 0, none⟩) 1 1) ∧ w' = w.alloc (.cells #[.iface ty (pt b')] 25) := by
  unfold pt at hc ⊢
  go_enter Yba.func29, Yba.ntmps29
  go_wp2
  go_ret
  exact ⟨rfl, rfl⟩
theorem node_inputs (b c : Nat) (v : Value) (w : World) (h0 : w.cell? ⟨b, 0, none⟩ = some v) (h1 : w.cell? ⟨b, 1, none⟩ = some (pt c)) (hc : w.cell? ⟨c, 0, none⟩ = some (.int .i64 0)) (hf : w.frozen? ⟨c, 0, none⟩ = false) (hbc : b ≠ c) :
    Calls Yba.prog 31 #[pt b] w fun e w' => e = .returned v ∧ w' = w.setCell ⟨c, 0, none⟩ (.int .i64 1) := by
  unfold pt at h1 ⊢
  go_enter Yba.func31, Yba.ntmps31
  go_wp2
  go_ret
  exact ⟨rfl, rfl⟩

/-- What number lays into its maps. -/
def zS (F : Int) : List Nat → List (Nat × Value)
  | [] => []
  | s :: ss => (s, .int .i64 (wrap64 F)) :: zS (F + 1) ss
theorem zS_append (F : Int) : ∀ (a b : List Nat), zS F (a ++ b) = zS F a ++ zS (F + a.length) b
  | [], b => by simp [zS]
  | x :: a, b => by
    simp only [List.cons_append, zS, zS_append (F + 1) a b, List.length_cons]
    rw [show F + 1 + (a.length : Int) = F + ((a.length + 1 : Nat) : Int) by omega]
theorem zS_keys (F : Int) : ∀ l : List Nat, (zS F l).map (·.1) = l
  | [] => rfl
  | x :: l => by simp [zS, zS_keys (F + 1) l]
def span4 (F : Int) (lo mid hi : Nat) : Value := .agg #[.int .i64 (wrap64 (F + lo)), .int .i64 (wrap64 (F + mid)), .int .i64 (wrap64 (F + mid)), .int .i64 (wrap64 (F + hi))]
def zJ (F : Int) (l : List (Nat × Nat × Nat × Nat)) : List (Nat × Value) := l.map fun x => (x.1, span4 F x.2.1 x.2.2.1 x.2.2.2)
theorem zJ_shf (F : Int) (k : Nat) (l : List (Nat × Nat × Nat × Nat)) : zJ F (l.map (shf k)) = zJ (F + k) l := by
  unfold zJ
  rw [List.map_map]
  apply List.map_congr_left
  intro x _
  simp only [Function.comp, shf, span4]
  have e : ∀ y : Nat, F + ((y + k : Nat) : Int) = F + k + y := fun y => by omega
  simp only [e]
theorem zJ_keys (F : Int) (l : List (Nat × Nat × Nat × Nat)) : (zJ F l).map (·.1) = l.map (·.1) := by simp [zJ]
theorem wrap_add (a b : Int) : wrap64 (wrap64 a + b) = wrap64 (a + b) := by unfold wrap64; omega

/-- The keys that a subtree brings are new and lie in the heap; its counters stand at nought. -/
def Fit (W : World) (es ej : List (Nat × Value)) (T : Pl) : Prop :=
  (∀ s ∈ es.map (·.1) ++ T.s, Tag W s 35) ∧ (es.map (·.1) ++ T.s).Nodup ∧ (∀ s ∈ ej.map (·.1) ++ T.j.map (·.1), Tag W s 81) ∧ (ej.map (·.1) ++ T.j.map (·.1)).Nodup ∧
  (T.n.map (·.2)).Nodup ∧ ∀ p ∈ T.n, Rec W p.2 3 #[.int .i64 0]
/-- What number does. -/
def Numd (W : World) (Ms Mj : Nat) (F : Int) (es ej : List (Nat × Value)) (T : Pl) (e : Ending) (W' : World) : Prop :=
  e = .returned (.int .i64 (wrap64 (F + T.s.length))) ∧ MapIs W' Ms (es ++ zS F T.s) ∧ MapIs W' Mj (ej ++ zJ F T.j) ∧ (∀ p ∈ T.n, Rec W' p.2 3 #[.int .i64 1]) ∧ Fr (Ms :: Mj :: T.n.map (·.2)) W W'

theorem map_set {w : World} {M : Nat} {es : Array MapEntry} {c : Nat} {ps : List (Nat × Value)} (hb : w.heap[M]? = some (.map es c)) (h : Entries es.toList ps) (a : Nat) (v : Value) :
    MapIs (setBlock w M (.map (es.push { key := pt a, val := v, born := c }) (c + 1))) M (ps ++ [(a, v)]) := by
  refine ⟨_, _, Go.ChangeMaps.heap_setBlock_same hb _, ?_⟩
  rw [Array.toList_push]
  exact h.push ⟨rfl, rfl⟩
theorem fr_set {w : World} {M : Nat} {es : Array MapEntry} {c : Nat} (hb : w.heap[M]? = some (.map es c)) (o : Obj) (ex : List Nat) (hM : M ∈ ex) : Fr ex w (setBlock w M o) := by
  refine ⟨rfl, rfl, rfl, by simp [setBlock], fun b hb' hn => ?_⟩
  exact Go.ChangeMaps.heap_setBlock_other hb _ (fun e => hn (e ▸ hM))

theorem MapIs.obj {w : World} {M : Nat} {ps : List (Nat × Value)} (h : MapIs w M ps) : ∃ es c, w.heap[M]? = some (.map es c) := by
  obtain ⟨es, c, h, _⟩ := h
  exact ⟨es, c, h⟩
theorem MapIs.fr {w w' : World} {M : Nat} {ps : List (Nat × Value)} {ex : List Nat} (h : MapIs w M ps) (hf : Fr ex w w') (hn : M ∉ ex) : MapIs w' M ps := by
  obtain ⟨es, c, h, hE⟩ := h
  exact ⟨es, c, hf.at h hn, hE⟩
theorem map_not_rec {w : World} {M c : Nat} {t : TypeId} {cs : Array Value} {ps : List (Nat × Value)} (h : MapIs w M ps) (hr : Rec w c t cs) : c ≠ M := by
  intro e
  obtain ⟨es, c', h, _⟩ := h
  unfold Rec at hr
  rw [e, h] at hr
  cases hr
theorem numd_kept {W W' : World} {Ms Mj : Nat} {es ej : List (Nat × Value)} {T : Pl} (hs : MapIs W Ms es) (hj : MapIs W Mj ej) (hf : Fit W es ej T) (h : Fr (Ms :: Mj :: T.n.map (·.2)) W W') : Kept W W' := by
  refine h.kept fun b hb => ?_
  rcases List.mem_cons.1 hb with rfl | hb
  · exact .inl hs.obj
  · rcases List.mem_cons.1 hb with rfl | hb
    · exact .inl hj.obj
    · obtain ⟨p, hp, rfl⟩ := List.mem_map.1 hb
      exact .inr ⟨_, hf.2.2.2.2.2 p hp⟩
theorem cat_j_keys (a b : Pl) : (a.cat b).j.map (·.1) = a.j.map (·.1) ++ b.j.map (·.1) := by
  simp only [Pl.cat, List.map_append, List.map_map]
  congr 1
theorem Fit.left {W : World} {es ej : List (Nat × Value)} {a b : Pl} (h : Fit W es ej (a.cat b)) : Fit W es ej a := by
  obtain ⟨h1, h2, h3, h4, h5, h6⟩ := h
  rw [cat_j_keys] at h3 h4
  simp only [Pl.cat, List.map_append, ← List.append_assoc] at h1 h2 h3 h4 h5 h6
  exact ⟨fun s hs => h1 s (List.mem_append_left _ hs), (List.nodup_append.1 h2).1, fun s hs => h3 s (List.mem_append_left _ hs), (List.nodup_append.1 h4).1, (List.nodup_append.1 h5).1, fun p hp => h6 p (List.mem_append_left _ hp)⟩
theorem Fit.right {W W' : World} {Ms Mj : Nat} {F : Int} {es ej : List (Nat × Value)} {a b : Pl} (h : Fit W es ej (a.cat b)) (hs : MapIs W Ms es) (hj : MapIs W Mj ej) (hfr : Fr (Ms :: Mj :: a.n.map (·.2)) W W') : Fit W' (es ++ zS F a.s) (ej ++ zJ F a.j) b := by
  have hk := numd_kept hs hj h.left hfr
  obtain ⟨h1, h2, h3, h4, h5, h6⟩ := h
  rw [cat_j_keys] at h3 h4
  simp only [Pl.cat, List.map_append, ← List.append_assoc] at h1 h2 h3 h4 h5 h6
  refine ⟨?_, ?_, ?_, ?_, (List.nodup_append.1 h5).2.1, fun p hp => ?_⟩
  · rw [List.map_append, zS_keys]; exact fun s hs => hk.tag (h1 s hs) (by decide) (by decide)
  · rw [List.map_append, zS_keys]; exact h2
  · rw [List.map_append, zJ_keys]; exact fun s hs => hk.tag (h3 s hs) (by decide) (by decide)
  · rw [List.map_append, zJ_keys]; exact h4
  · have hr := h6 p (List.mem_append_right _ hp)
    refine hfr.at hr (fun hm => ?_)
    rcases List.mem_cons.1 hm with e | hm
    · exact map_not_rec hs hr e
    · rcases List.mem_cons.1 hm with e | hm
      · exact map_not_rec hj hr e
      · exact (List.nodup_append.1 h5).2.2 _ hm _ (List.mem_map.2 ⟨p, hp, rfl⟩) rfl
theorem numd_cat {W W1 W2 : World} {Ms Mj : Nat} {F : Int} {es ej : List (Nat × Value)} {a b : Pl} {e1 e2 : Ending} (hs : MapIs W Ms es) (hj : MapIs W Mj ej) (hf : Fit W es ej (a.cat b)) (h1 : Numd W Ms Mj F es ej a e1 W1) (h2 : Numd W1 Ms Mj (F + a.s.length) (es ++ zS F a.s) (ej ++ zJ F a.j) b e2 W2) :
    Numd W Ms Mj F es ej (a.cat b) e2 W2 := by
  obtain ⟨p1, p2, p3, p4, p5⟩ := h1
  obtain ⟨q1, q2, q3, q4, q5⟩ := h2
  refine ⟨?_, ?_, ?_, ?_, ?_⟩
  · rw [q1]
    simp only [Pl.cat, List.length_append]
    rw [show F + (a.s.length : Int) + (b.s.length : Int) = F + ((a.s.length + b.s.length : Nat) : Int) by omega]
  · simp only [Pl.cat, zS_append, ← List.append_assoc]; exact q2
  · have : zJ F (a.cat b).j = zJ F a.j ++ zJ (F + a.s.length) b.j := by
      rw [← zJ_shf]
      simp [Pl.cat, zJ]
    rw [this, ← List.append_assoc]; exact q3
  · intro p hp
    simp only [Pl.cat] at hp
    by_cases hb : p ∈ b.n
    · exact q4 p hb
    · have ha : p ∈ a.n := by
        rcases List.mem_append.1 hp with h | h
        · exact h
        · exact absurd h hb
      have hr := p4 p ha
      refine q5.at hr (fun hm => ?_)
      rcases List.mem_cons.1 hm with e | hm
      · exact map_not_rec p2 hr e
      · rcases List.mem_cons.1 hm with e | hm
        · exact map_not_rec p3 hr e
        · have h5 := hf.2.2.2.2.1
          simp only [Pl.cat, List.map_append] at h5
          exact (List.nodup_append.1 h5).2.2 _ (List.mem_map.2 ⟨p, ha, rfl⟩) _ hm rfl
  · refine (p5.mono ?_).trans (q5.mono ?_)
    · intro x hx
      simp only [Pl.cat, List.map_append, List.mem_cons, List.mem_append] at hx ⊢
      rcases hx with h | h | h
      · exact .inl h
      · exact .inr (.inl h)
      · exact .inr (.inr (.inl h))
    · intro x hx
      simp only [Pl.cat, List.map_append, List.mem_cons, List.mem_append] at hx ⊢
      rcases hx with h | h | h
      · exact .inl h
      · exact .inr (.inl h)
      · exact .inr (.inr (.inr h))
theorem numd_nil {W : World} {Ms Mj : Nat} {F : Int} {es ej : List (Nat × Value)} (hs : MapIs W Ms es) (hj : MapIs W Mj ej) : Numd W Ms Mj F es ej Pl.nil (.returned (.int .i64 (wrap64 F))) W :=
  ⟨by simp [Pl.nil], by simpa [Pl.nil, zS] using hs, by simpa [Pl.nil, zJ] using hj, by simp [Pl.nil], Fr.refl _ _⟩
/-- One source more. -/
theorem numd_one {W W1 : World} {Ms Mj s : Nat} {F : Int} {es ej : List (Nat × Value)} {ea : Array MapEntry} {c : Nat} (hM : W.heap[Ms]? = some (.map ea c)) (hE : Entries ea.toList es) (hj : MapIs W Mj ej) (hne : Ms ≠ Mj) (hw : W1 = setBlock W.drew Ms (.map (ea.push { key := pt s, val := .int .i64 (wrap64 F), born := c }) (c + 1))) :
    Numd W Ms Mj F es ej (oneS s) (.returned (.int .i64 (wrap64 (F + 1)))) W1 := by
  subst hw
  have hM' : W.drew.heap[Ms]? = some (.map ea c) := hM
  have hfr : Fr [Ms] W (setBlock W.drew Ms (.map (ea.push { key := pt s, val := .int .i64 (wrap64 F), born := c }) (c + 1))) := by
    have : Fr [Ms] W W.drew := ⟨rfl, rfl, rfl, Nat.le_refl _, fun _ _ _ => rfl⟩
    exact this.trans (fr_set hM' _ _ (by simp))
  exact ⟨rfl, map_set hM' hE s _, by simpa [oneS, zJ] using hj.fr hfr (by simpa using hne.symm), by simp [oneS], hfr.mono (by simp)⟩
theorem fit_key {W : World} {es ej : List (Nat × Value)} {T : Pl} {s : Nat} (h : Fit W es ej T) (hs : s ∈ T.s) : Tag W s 35 ∧ ∀ p ∈ es, p.1 ≠ s ∧ Tag W p.1 35 :=
  ⟨h.1 s (List.mem_append_right _ hs), fun p hp => ⟨(List.nodup_append.1 h.2.1).2.2 _ (List.mem_map.2 ⟨p, hp, rfl⟩) _ hs, h.1 p.1 (List.mem_append_left _ (List.mem_map.2 ⟨p, hp, rfl⟩))⟩⟩
theorem fit_keyj {W : World} {es ej : List (Nat × Value)} {T : Pl} {s : Nat} (h : Fit W es ej T) (hs : s ∈ T.j.map (·.1)) : Tag W s 81 ∧ ∀ p ∈ ej, p.1 ≠ s ∧ Tag W p.1 81 :=
  ⟨h.2.2.1 s (List.mem_append_right _ hs), fun p hp => ⟨(List.nodup_append.1 h.2.2.2.1).2.2 _ (List.mem_map.2 ⟨p, hp, rfl⟩) _ hs, h.2.2.1 p.1 (List.mem_append_left _ (List.mem_map.2 ⟨p, hp, rfl⟩))⟩⟩
theorem join_keys (b : Nat) (l r : Pl) : (joinT b l r).j.map (·.1) = (l.cat r).j.map (·.1) ++ [b] := by simp [joinT]
theorem Fit.join {W : World} {es ej : List (Nat × Value)} {b : Nat} {l r : Pl} (h : Fit W es ej (joinT b l r)) : Fit W es ej (l.cat r) := by
  obtain ⟨h1, h2, h3, h4, h5, h6⟩ := h
  rw [join_keys, ← List.append_assoc] at h3 h4
  exact ⟨h1, h2, fun s hs => h3 s (List.mem_append_left _ hs), (List.nodup_append.1 h4).1, h5, h6⟩
theorem numd_join {W W2 W3 : World} {Ms Mj b : Nat} {F : Int} {es ej : List (Nat × Value)} {l r : Pl} {e2 : Ending} {ea : Array MapEntry} {c : Nat} (h : Numd W Ms Mj F es ej (l.cat r) e2 W2) (hM : W2.heap[Mj]? = some (.map ea c)) (hne : Ms ≠ Mj)
    (hw : W3 = setBlock W2 Mj (.map (ea.push { key := pt b, val := span4 F 0 l.s.length (l.s ++ r.s).length, born := c }) (c + 1))) : Numd W Ms Mj F es ej (joinT b l r) e2 W3 := by
  subst hw
  obtain ⟨h1, h2, h3, h4, h5⟩ := h
  have hfr : Fr [Mj] W2 (setBlock W2 Mj (.map (ea.push { key := pt b, val := span4 F 0 l.s.length (l.s ++ r.s).length, born := c }) (c + 1))) := fr_set hM _ _ (by simp)
  refine ⟨h1, h2.fr hfr (by simpa using hne), ?_, fun p hp => hfr.at (h4 p hp) ?_, h5.trans (hfr.mono (by simp))⟩
  · obtain ⟨es', c', q1, q2⟩ := h3
    rw [hM] at q1
    cases q1
    have := map_set hM q2 b (span4 F 0 l.s.length (l.s ++ r.s).length)
    simp only [joinT, zJ, List.map_append, List.map_cons, List.map_nil, ← List.append_assoc] at this ⊢
    exact this
  · have := map_not_rec h3 (h4 p hp)
    simpa using this
theorem Fit.node {W : World} {es ej : List (Nat × Value)} {b c : Nat} {t : Pl} (h : Fit W es ej (nodeT b c t)) : Rec W c 3 #[.int .i64 0] ∧ c ∉ t.n.map (·.2) ∧ Fit W es ej t := by
  obtain ⟨h1, h2, h3, h4, h5, h6⟩ := h
  simp only [nodeT, List.map_append, List.map_cons, List.map_nil] at h5 h6
  refine ⟨h6 (b, c) (by simp), fun hm => (List.nodup_append.1 h5).2.2 _ hm c (by simp) rfl, h1, h2, h3, h4, (List.nodup_append.1 h5).1, fun p hp => h6 p (List.mem_append_left _ hp)⟩

theorem ta_yes {t e : TypeId} (ht : Yba.prog.underlying t = some (.pointer e)) (x : TypeId) (v : Value) (w : World) : (Instr.typeAssert (.iface t v) x t true).run Yba.prog w = .ok (.tuple #[v, .bool true]) w := by
  simp [Instr.typeAssert, run_underlying ht]
theorem ta_no {t e u : TypeId} (ht : Yba.prog.underlying t = some (.pointer e)) (hz : ∀ w, (zeroValue t).run Yba.prog w = .ok (.pointer none) w) (hne : u ≠ t) (x : TypeId) (v : Value) (w : World) : (Instr.typeAssert (.iface u v) x t true).run Yba.prog w = .ok (.tuple #[.pointer none, .bool false]) w := by
  simp [Instr.typeAssert, run_underlying ht, hne, hz]

set_option maxRecDepth 20000 in
set_option maxHeartbeats 2000000 in
theorem num_scan (W : World) (O Ms Mj b s : Nat) (F : Int) (es ej : List (Nat × Value)) (hO : Opt W O Ms Mj) (hs : MapIs W Ms es) (hj : MapIs W Mj ej) (hne : Ms ≠ Mj) (cs : Array Value) (hr : Rec W b 78 cs) (hc : cs[0]? = some (pt s)) (hf : Fit W es ej (oneS s)) :
    Calls Yba.prog 7 #[pt O, .iface 76 (pt b), .int .i64 (wrap64 F)] W fun e W' => Numd W Ms Mj F es ej (oneS s) e W' := by
  obtain ⟨oc, ho1, ho2, ho3⟩ := hO
  have c1 := rec_cell ho1 1 _ ho2
  have c0 := rec_cell hr 0 _ hc
  obtain ⟨ea, cl, hM, hE⟩ := hs
  obtain ⟨f, hff⟩ : ∃ f, wrap64 F = f := ⟨_, rfl⟩
  rw [hff]
  have HFF : Hid (wrap64 F = f) := hff
  have hk := fit_key hf (s := s) (by simp [oneS])
  have hu := run_update (w := W.drew) Yba.underlying54 ptr32 hM hE s (.int .i64 f) hk.1 hk.2
  clear hff
  have hta := ta_yes Yba.underlying76 25 (pt b)
  unfold pt at c0 hu hta ⊢
  go_enter Yba.func7, Yba.ntmps7
  go_wp2_with fail
  go_region
  go_wp2_with fail
  go_ret
  have hff := HFF.out
  subst hff
  rw [wrap_add]
  exact numd_one hM hE hj hne rfl
set_option maxRecDepth 20000 in
set_option maxHeartbeats 2000000 in
theorem num_cte (W : World) (O Ms Mj b s : Nat) (F : Int) (es ej : List (Nat × Value)) (hO : Opt W O Ms Mj) (hs : MapIs W Ms es) (hj : MapIs W Mj ej) (hne : Ms ≠ Mj) (cs : Array Value) (hr : Rec W b 38 cs) (hc : cs[0]? = some (pt s)) (hf : Fit W es ej (oneS s)) :
    Calls Yba.prog 7 #[pt O, .iface 36 (pt b), .int .i64 (wrap64 F)] W fun e W' => Numd W Ms Mj F es ej (oneS s) e W' := by
  obtain ⟨oc, ho1, ho2, ho3⟩ := hO
  have c1 := rec_cell ho1 1 _ ho2
  have c0 := rec_cell hr 0 _ hc
  obtain ⟨ea, cl, hM, hE⟩ := hs
  obtain ⟨f, hff⟩ : ∃ f, wrap64 F = f := ⟨_, rfl⟩
  rw [hff]
  have HFF : Hid (wrap64 F = f) := hff
  have hk := fit_key hf (s := s) (by simp [oneS])
  have hu := run_update (w := W.drew) Yba.underlying54 ptr32 hM hE s (.int .i64 f) hk.1 hk.2
  clear hff
  have hta1 := ta_no (u := 36) Yba.underlying76 Yba.zeroValue76 (by decide) 25 (pt b)
  have hta2 := ta_yes Yba.underlying36 25 (pt b)
  unfold pt at c0 hu hta1 hta2 ⊢
  go_enter Yba.func7, Yba.ntmps7
  go_wp2_with fail
  go_region
  go_wp2_with fail
  go_ret
  have hff := HFF.out
  subst hff
  rw [wrap_add]
  exact numd_one hM hE hj hne rfl

/-- What the induction gives. -/
def NumOK (n : Nat) : Prop := ∀ (W : World) (v : Value) (T : Pl) (O Ms Mj : Nat) (F : Int) (es ej : List (Nat × Value)), IsT n W v T → Opt W O Ms Mj → MapIs W Ms es → MapIs W Mj ej → Ms ≠ Mj → Fit W es ej T →
  Calls Yba.prog 7 #[pt O, v, .int .i64 (wrap64 F)] W fun e W' => Numd W Ms Mj F es ej T e W'
theorem IsT.shape {n : Nat} {W : World} {v : Value} {T : Pl} (h : IsT n W v T) : ∃ ty b, v = .iface ty (pt b) := by
  cases n with
  | zero => exact h.elim
  | succ n =>
    rcases h with ⟨b, s, cs, h1, _⟩ | ⟨b, s, cs, h1, _⟩ | ⟨b, s, u, cs, T', h1, _⟩ | ⟨b, u1, u2, cs, T1, T2, h1, _⟩ | ⟨b, u, cs, h1, _⟩ | ⟨b, c, cs, ao, cap, ks, h1, _⟩ <;> exact ⟨_, _, h1⟩

set_option maxRecDepth 20000 in
set_option maxHeartbeats 2000000 in
theorem num_derived (n : Nat) (ih : NumOK n) (W : World) (O Ms Mj b s : Nat) (u : Value) (T' : Pl) (F : Int) (es ej : List (Nat × Value)) (hO : Opt W O Ms Mj) (hs : MapIs W Ms es) (hj : MapIs W Mj ej) (hne : Ms ≠ Mj) (cs : Array Value) (hr : Rec W b 42 cs) (hc : cs[0]? = some (pt s)) (hc2 : cs[2]? = some u) (hT : IsT n W u T') (hf : Fit W es ej ((oneS s).cat T')) :
    Calls Yba.prog 7 #[pt O, .iface 40 (pt b), .int .i64 (wrap64 F)] W fun e W' => Numd W Ms Mj F es ej ((oneS s).cat T') e W' := by
  have HO : Hid (Opt W O Ms Mj) := hO
  have HS : Hid (MapIs W Ms es) := hs
  obtain ⟨oc, ho1, ho2, ho3⟩ := hO
  have c1 := rec_cell ho1 1 _ ho2
  have c0 := rec_cell hr 0 _ hc
  obtain ⟨ea, cl, hM, hE⟩ := hs
  obtain ⟨f, hff⟩ : ∃ f, wrap64 F = f := ⟨_, rfl⟩
  rw [hff]
  have HFF : Hid (wrap64 F = f) := hff
  have hk := fit_key hf (s := s) (by simp [oneS, Pl.cat])
  have hu := run_update (w := W.drew) Yba.underlying54 ptr32 hM hE s (.int .i64 f) hk.1 hk.2
  obtain ⟨W1, hW1⟩ : ∃ W1, setBlock W.drew Ms (.map (ea.push { key := pt s, val := .int .i64 f, born := cl }) (cl + 1)) = W1 := ⟨_, rfl⟩
  rw [hW1] at hu
  have hn1 : Numd W Ms Mj F es ej (oneS s) (.returned (.int .i64 (wrap64 (F + 1)))) W1 := by
    refine numd_one hM hE hj hne ?_
    rw [← hW1, hff]
  have hkept : Kept W W1 := numd_kept HS.out hj hf.left hn1.2.2.2.2
  have hf1 := Fit.right (F := F) hf HS.out hj hn1.2.2.2.2
  have hih := ih W1 u T' O Ms Mj (F + 1) _ _ (hT.keep hkept) (HO.out.keep hkept) hn1.2.1 hn1.2.2.1 hne hf1
  have hw1 : wrap64 (f + 1) = wrap64 (F + 1) := by rw [← hff, wrap_add]
  have c2 := rec_cell (hkept _ _ _ hr (by decide) (by decide)) 2 _ hc2
  obtain ⟨ty, b', rfl⟩ := hT.shape
  have HN1 : Hid (Numd W Ms Mj F es ej (oneS s) (.returned (.int .i64 (wrap64 (F + 1)))) W1) := hn1
  have HF : Hid (Fit W es ej ((oneS s).cat T')) := hf
  have HIH : Hid (Calls Yba.prog 7 #[pt O, .iface ty (pt b'), .int .i64 (wrap64 (f + 1))] W1 fun e W' => Numd W1 Ms Mj (F + 1) (es ++ zS F (oneS s).s) (ej ++ zJ F (oneS s).j) T' e W') := by rw [hw1]; exact hih
  clear hff hih hW1 hf1 hf hn1 hw1 hT hkept ih
  have hta1 := ta_no (u := 40) Yba.underlying76 Yba.zeroValue76 (by decide) 25 (pt b)
  have hta2 := ta_no (u := 40) Yba.underlying36 Yba.zeroValue36 (by decide) 25 (pt b)
  have hta3 := ta_yes Yba.underlying40 25 (pt b)
  unfold pt at c0 c2 hu hta1 hta2 hta3 HIH ⊢
  go_enter Yba.func7, Yba.ntmps7
  go_wp2_with fail
  go_region
  go_wp2_with (go_at_call 7; refine HIH.out.mono ?_; rintro e W2 hn2; have he := hn2.1; subst he)
  go_ret
  exact numd_cat HS.out hj HF.out HN1.out hn2

set_option maxRecDepth 20000 in
set_option maxHeartbeats 2000000 in
theorem num_join (n : Nat) (ih : NumOK n) (W : World) (O Ms Mj b : Nat) (u1 u2 : Value) (T1 T2 : Pl) (F : Int) (es ej : List (Nat × Value)) (hO : Opt W O Ms Mj) (hs : MapIs W Ms es) (hj : MapIs W Mj ej) (hne : Ms ≠ Mj) (cs : Array Value) (hr : Rec W b 81 cs) (hc1 : cs[3]? = some u1) (hc2 : cs[4]? = some u2) (hT1 : IsT n W u1 T1) (hT2 : IsT n W u2 T2) (hf : Fit W es ej (joinT b T1 T2)) :
    Calls Yba.prog 7 #[pt O, .iface 68 (pt b), .int .i64 (wrap64 F)] W fun e W' => Numd W Ms Mj F es ej (joinT b T1 T2) e W' := by
  have HO : Hid (Opt W O Ms Mj) := hO
  have HS : Hid (MapIs W Ms es) := hs
  have HJ : Hid (MapIs W Mj ej) := hj
  have HF : Hid (Fit W es ej (joinT b T1 T2)) := hf
  have HT2 : Hid (IsT n W u2 T2) := hT2
  have HIH : Hid (NumOK n) := ih
  have HR : Hid (Rec W b 81 cs) := hr
  have c3 := rec_cell hr 3 _ hc1
  have hih := ih W u1 T1 O Ms Mj F es ej hT1 hO hs hj hne hf.join.left
  obtain ⟨f, hff⟩ : ∃ f, wrap64 F = f := ⟨_, rfl⟩
  rw [hff] at hih ⊢
  have HFF : Hid (wrap64 F = f) := hff
  have HIH1 : Hid (Calls Yba.prog 7 #[pt O, u1, .int .i64 f] W fun e W' => Numd W Ms Mj F es ej T1 e W') := hih
  obtain ⟨ty1, b1, rfl⟩ := hT1.shape
  obtain ⟨ty2, b2, rfl⟩ := hT2.shape
  clear hff hih hf hT1 hT2 ih hO hs hj hr
  have hta1 := ta_no (u := 68) Yba.underlying76 Yba.zeroValue76 (by decide) 25 (pt b)
  have hta2 := ta_no (u := 68) Yba.underlying36 Yba.zeroValue36 (by decide) 25 (pt b)
  have hta3 := ta_no (u := 68) Yba.underlying40 Yba.zeroValue40 (by decide) 25 (pt b)
  have hta4 := ta_yes Yba.underlying68 25 (pt b)
  unfold pt at c3 hta1 hta2 hta3 hta4 HIH1 ⊢
  go_enter Yba.func7, Yba.ntmps7
  go_upto_region 17 with (go_at_call 7; refine HIH1.out.mono ?_; rintro e W1 hn1; have he := hn1.1; subst he)
  have hkept : Kept W W1 := numd_kept HS.out HJ.out HF.out.join.left hn1.2.2.2.2
  have hf1 := Fit.right (F := F) HF.out.join HS.out HJ.out hn1.2.2.2.2
  have hih2 := HIH.out W1 _ T2 O Ms Mj (F + T1.s.length) _ _ (HT2.out.keep hkept) (HO.out.keep hkept) hn1.2.1 hn1.2.2.1 hne hf1
  have hr1 := hkept _ _ _ HR.out (by decide) (by decide)
  have c4 := rec_cell hr1 4 _ hc2
  have HN1 : Hid (Numd W Ms Mj F es ej T1 (.returned (.int .i64 (wrap64 (F + T1.s.length)))) W1) := hn1
  have HK1 : Hid (Kept W W1) := hkept
  have HF1 : Hid (Fit W1 (es ++ zS F T1.s) (ej ++ zJ F T1.j) T2) := hf1
  clear hn1 hkept hf1 hr1
  unfold pt at c4 hih2
  go_upto_region 18 with (go_at_call 7; refine hih2.mono ?_; rintro e W2 hn2; have he := hn2.1; subst he)
  have hkept2 : Kept W1 W2 := numd_kept HN1.out.2.1 HN1.out.2.2.1 HF1.out hn2.2.2.2.2
  have hkept := HK1.out.trans hkept2
  have hn3 := numd_cat HS.out HJ.out HF.out.join HN1.out hn2
  have HN3 : Hid (Numd W Ms Mj F es ej (T1.cat T2) (.returned (.int .i64 (wrap64 (F + T1.s.length + T2.s.length)))) W2) := hn3
  obtain ⟨ea, cl, hM, hE⟩ := hn3.2.2.1
  have hO2 := HO.out.keep hkept
  obtain ⟨oc, ho1, ho2, ho3⟩ := hO2
  have c5 := rec_cell ho1 3 _ ho3
  have hu := fun v => run_update (w := W2) Yba.underlying55 ptr68 hM hE b v (hkept.tag (fit_keyj HF.out (s := b) (by simp [joinT])).1 (by decide) (by decide)) (by
    intro p hp
    have hnd := HF.out.2.2.2.1
    have htg := HF.out.2.2.1
    rw [join_keys, ← List.append_assoc] at hnd htg
    have hmem : p.1 ∈ ej.map (·.1) ++ (T1.cat T2).j.map (·.1) := by
      have : p.1 ∈ (ej ++ zJ F (T1.cat T2).j).map (·.1) := List.mem_map.2 ⟨p, hp, rfl⟩
      rwa [List.map_append, zJ_keys] at this
    exact ⟨(List.nodup_append.1 hnd).2.2 _ hmem b (by simp), hkept.tag (htg _ (List.mem_append_left _ hmem)) (by decide) (by decide)⟩)
  clear hn2 hn3 hkept hkept2 ho1 ho2 ho3 hih2 c4
  unfold pt at hu
  go_wp2_with fail
  go_ret
  have hff := HFF.out
  subst hff
  refine numd_join HN3.out hM hne ?_
  have e : span4 F 0 T1.s.length (T1.s ++ T2.s).length = .agg #[.int .i64 (wrap64 F), .int .i64 (wrap64 (F + T1.s.length)), .int .i64 (wrap64 (F + T1.s.length)), .int .i64 (wrap64 (F + T1.s.length + T2.s.length))] := by
    simp [span4, Int.add_assoc]
  rw [e]
  rfl

theorem method43 (a : Addr) (w : World) : (method 224 43 (.pointer (some a)) "Inputs").run Yba.prog w = .ok (29, .pointer (some a)) w := by kernel_rfl
theorem method49 (a : Addr) (w : World) : (method 224 49 (.pointer (some a)) "Inputs").run Yba.prog w = .ok (31, .pointer (some a)) w := by kernel_rfl
theorem shf_zero (l : List (Nat × Nat × Nat × Nat)) : l.map (shf 0) = l := by
  have : shf 0 = _root_.id := by funext x; rfl
  rw [this, List.map_id]
theorem nil_cat (T : Pl) : Pl.nil.cat T = T := by
  cases T
  simp [Pl.cat, Pl.nil, shf_zero]
theorem alloc_fr (W : World) (o : Obj) (ex : List Nat) : Fr ex W (W.alloc o) := Fr.below ((Below.refl _ W).alloc (Nat.le_refl _) o) ex
theorem Fit.keep {W W' : World} {es ej : List (Nat × Value)} {T : Pl} (h : Fit W es ej T) (hk : Kept W W') (hc : ∀ p ∈ T.n, Rec W' p.2 3 #[.int .i64 0]) : Fit W' es ej T :=
  ⟨fun s hs => hk.tag (h.1 s hs) (by decide) (by decide), h.2.1, fun s hs => hk.tag (h.2.2.1 s hs) (by decide) (by decide), h.2.2.2.1, h.2.2.2.2.1, hc⟩

set_option maxRecDepth 20000 in
set_option maxHeartbeats 2000000 in
theorem num_agg (n : Nat) (ih : NumOK n) (W : World) (O Ms Mj b : Nat) (u : Value) (T : Pl) (F : Int) (es ej : List (Nat × Value)) (hO : Opt W O Ms Mj) (hs : MapIs W Ms es) (hj : MapIs W Mj ej) (hne : Ms ≠ Mj) (cs : Array Value) (hr : Rec W b 47 cs) (hc : cs[2]? = some u) (hT : IsT n W u T) (hf : Fit W es ej T) :
    Calls Yba.prog 7 #[pt O, .iface 43 (pt b), .int .i64 (wrap64 F)] W fun e W' => Numd W Ms Mj F es ej T e W' := by
  obtain ⟨f, hff⟩ : ∃ f, wrap64 F = f := ⟨_, rfl⟩
  rw [hff]
  have HFF : Hid (wrap64 F = f) := hff
  have c2 := rec_cell hr 2 _ hc
  obtain ⟨ty, b1, rfl⟩ := hT.shape
  have hin := agg_inputs b ty b1 W c2
  have hta1 := ta_no (u := 43) Yba.underlying76 Yba.zeroValue76 (by decide) 25 (pt b)
  have hta2 := ta_no (u := 43) Yba.underlying36 Yba.zeroValue36 (by decide) 25 (pt b)
  have hta3 := ta_no (u := 43) Yba.underlying40 Yba.zeroValue40 (by decide) 25 (pt b)
  have hta4 := ta_no (u := 43) Yba.underlying68 Yba.zeroValue68 (by decide) 25 (pt b)
  have hm := method43 ⟨b, 0, none⟩
  obtain ⟨W1, hW1⟩ : ∃ W1, W.alloc (.cells #[.iface ty (pt b1)] 25) = W1 := ⟨_, rfl⟩
  obtain ⟨g, hg⟩ : ∃ g, W.heap.size = g := ⟨_, rfl⟩
  rw [hW1, hg] at hin
  have hfr1 : ∀ ex, Fr ex W W1 := fun ex => by rw [← hW1]; exact alloc_fr W _ ex
  have hrg : Rec W1 g 25 #[.iface ty (pt b1)] := by rw [← hW1, ← hg]; exact World.alloc_heap_new _ _
  have hk1 : Kept W W1 := (hfr1 []).kept (by simp)
  have hih := ih W1 _ T O Ms Mj F es ej (hT.keep hk1) (hO.keep hk1) (hs.fr (hfr1 []) (by simp)) (hj.fr (hfr1 []) (by simp)) hne (hf.keep hk1 (fun p hp => (hfr1 []).at (hf.2.2.2.2.2 p hp) (by simp)))
  rw [hff] at hih
  have HIH : Hid (Calls Yba.prog 7 #[pt O, .iface ty (pt b1), .int .i64 f] W1 fun e W' => Numd W1 Ms Mj F es ej T e W') := hih
  have HFR : Hid (∀ ex, Fr ex W W1) := hfr1
  have cg := rec_cell hrg 0 _ rfl
  clear hff hW1 hg hih hfr1 hrg hk1 hT hO hs hj hf ih
  unfold pt at hta1 hta2 hta3 hta4 hin HIH cg ⊢
  go_enter Yba.func7, Yba.ntmps7
  go_wp2_with (go_at_call 29; refine hin.mono ?_; rintro e w1 ⟨rfl, rfl⟩)
  go_loopw [2, 97] (fun v i wr => (v = .int .i64 f ∧ i = .int .i64 0 ∧ wr = w1) ∨ (i = .int .i64 1 ∧ Numd w1 Ms Mj F es ej T (.returned v) wr)) (fun _ i _ => 2 - (intOf i).toNat)
  case atStart => exact .inl ⟨rfl, rfl, rfl⟩
  case round =>
    rcases hrel with ⟨rfl, rfl, rfl⟩ | ⟨rfl, hn⟩
    · go_wp2_with (go_at_call 7; refine HIH.out.mono ?_; rintro e W2 hn2; have he := hn2.1; subst he)
      exact ⟨.inr ⟨rfl, hn2⟩, by simp [intOf]⟩
    · have he := hn.1
      injection he with he
      subst he
      go_wp2_with fail
      go_ret
      exact ⟨hn.1, hn.2.1, hn.2.2.1, hn.2.2.2.1, (HFR.out _).trans hn.2.2.2.2⟩

theorem take_succ_map {ks : List (Value × Pl)} {i : Nat} {k : Value × Pl} (h : ks[i]? = some k) : (ks.take (i + 1)).map (·.2) = (ks.take i).map (·.2) ++ [k.2] := by
  rw [List.take_add_one, h]
  simp
theorem catAll_snoc (l : List Pl) (x t : Pl) : catAll (l ++ [x]) t = (catAll l t).cat x := by rw [catAll_append]; rfl
theorem Fit.pre : ∀ {l : List Pl} {W : World} {es ej : List (Nat × Value)} {t : Pl}, Fit W es ej (catAll l t) → Fit W es ej t
  | [], _, _, _, _, h => h
  | x :: l, _, _, _, t, h => Fit.left (Fit.pre (l := l) h)
theorem numd_node {W W1 W2 : World} {Ms Mj b c : Nat} {F : Int} {es ej : List (Nat × Value)} {t : Pl} {e : Ending} (hf : Fit W es ej (nodeT b c t)) (hs : MapIs W Ms es) (hj : MapIs W Mj ej) (hw : W1 = W.setCell ⟨c, 0, none⟩ (.int .i64 1)) (h : Numd W1 Ms Mj F es ej t e W2) (hs1 : MapIs W1 Ms es) (hj1 : MapIs W1 Mj ej) (hfr : Fr [c] W W1) (hr1 : Rec W1 c 3 #[.int .i64 1]) : Numd W Ms Mj F es ej (nodeT b c t) e W2 := by
  obtain ⟨h1, h2, h3, h4, h5⟩ := h
  obtain ⟨f1, f2, f3⟩ := hf.node
  refine ⟨h1, h2, h3, ?_, ?_⟩
  · intro p hp
    rcases List.mem_append.1 hp with hp | hp
    · exact h4 p hp
    · obtain rfl : p = (b, c) := by simpa using hp
      refine h5.at hr1 (fun hm => ?_)
      rcases List.mem_cons.1 hm with e | hm
      · exact map_not_rec hs1 hr1 e
      · rcases List.mem_cons.1 hm with e | hm
        · exact map_not_rec hj1 hr1 e
        · exact f2 hm
  · refine (hfr.mono ?_).trans (h5.mono ?_)
    · intro x hx
      simp only [List.mem_singleton] at hx
      simp [nodeT, hx]
    · intro x hx
      simp only [nodeT, List.map_append, List.mem_cons, List.mem_append] at hx ⊢
      rcases hx with h | h | h
      · exact .inl h
      · exact .inr (.inl h)
      · exact .inr (.inr (.inl h))

set_option maxRecDepth 20000 in
set_option maxHeartbeats 2000000 in
theorem num_node (n : Nat) (ih : NumOK n) (W : World) (O Ms Mj b c : Nat) (F : Int) (es ej : List (Nat × Value)) (hO : Opt W O Ms Mj) (hs : MapIs W Ms es) (hj : MapIs W Mj ej) (hne : Ms ≠ Mj) (cs : Array Value) (ao : Option Addr) (cap : Nat) (ks : List (Value × Pl)) (hr : Rec W b 52 cs) (h0 : cs[0]? = some (.slice ao ks.length cap)) (h1 : cs[1]? = some (pt c)) (hkl : ks.length ≤ 1000000)
    (hks : 0 < ks.length → ∃ g kc, ao = some ⟨g, 0, none⟩ ∧ Rec W g 25 kc ∧ ∀ (i : Nat) (k : Value × Pl), ks[i]? = some k → kc[i]? = some k.1) (hT : ∀ k ∈ ks, IsT n W k.1 k.2) (hf : Fit W es ej (nodeT b c (catAll (ks.map (·.2)) Pl.nil))) :
    Calls Yba.prog 7 #[pt O, .iface 49 (pt b), .int .i64 (wrap64 F)] W fun e W' => Numd W Ms Mj F es ej (nodeT b c (catAll (ks.map (·.2)) Pl.nil)) e W' := by
  obtain ⟨f, hff⟩ : ∃ f, wrap64 F = f := ⟨_, rfl⟩
  rw [hff]
  have HFF : Hid (wrap64 F = f) := hff
  obtain ⟨hrc, hcn, hft⟩ := hf.node
  have hbc : b ≠ c := by
    intro e
    unfold Rec at hr hrc
    rw [e, hrc] at hr
    cases hr
  have hin := node_inputs b c (.slice ao ks.length cap) W (rec_cell hr 0 _ h0) (rec_cell hr 1 _ h1) (rec_cell hrc 0 _ rfl) (by unfold Rec at hrc; simp [World.frozen?, hrc]) hbc
  obtain ⟨W1, hW1⟩ : ∃ W1, W1 = W.setCell ⟨c, 0, none⟩ (.int .i64 1) := ⟨_, rfl⟩
  rw [← hW1] at hin
  have hfr1 : Fr [c] W W1 := by
    rw [hW1]
    exact ⟨rfl, rfl, rfl, by simp [World.setCell], fun x hx hn => Below.heap_setCell _ _ _ _ (by simpa using hn)⟩
  have hr1 : Rec W1 c 3 #[.int .i64 1] := by
    rw [hW1]
    exact heap_setCell_same W c 0 _ _ _ hrc
  have hk1 : Kept W W1 := hfr1.kept (fun x hx => .inr (by simp at hx; rw [hx]; exact ⟨_, hrc⟩))
  have hs1 := hs.fr hfr1 (by simpa using (map_not_rec hs hrc).symm)
  have hj1 := hj.fr hfr1 (by simpa using (map_not_rec hj hrc).symm)
  have hft1 : Fit W1 es ej (catAll (ks.map (·.2)) Pl.nil) := hft.keep hk1 (fun p hp => hfr1.at (hft.2.2.2.2.2 p hp) (by
    intro hm
    simp at hm
    exact hcn (List.mem_map.2 ⟨p, hp, hm⟩)))
  have hO1 := hO.keep hk1
  have hT1 : ∀ k ∈ ks, IsT n W1 k.1 k.2 := fun k hk => (hT k hk).keep hk1
  have hks1 : 0 < ks.length → ∃ g kc, ao = some ⟨g, 0, none⟩ ∧ Rec W1 g 25 kc ∧ ∀ (i : Nat) (k : Value × Pl), ks[i]? = some k → kc[i]? = some k.1 := fun h => by
    obtain ⟨g, kc, q1, q2, q3⟩ := hks h
    exact ⟨g, kc, q1, hk1 _ _ _ q2 (by decide) (by decide), q3⟩
  have hend : ∀ e W2, Numd W1 Ms Mj F es ej (catAll (ks.map (·.2)) Pl.nil) e W2 → Numd W Ms Mj F es ej (nodeT b c (catAll (ks.map (·.2)) Pl.nil)) e W2 := fun e W2 h => numd_node hf hs hj hW1 h hs1 hj1 hfr1 hr1
  have HEND : Hid (∀ e W2, Numd W1 Ms Mj F es ej (catAll (ks.map (·.2)) Pl.nil) e W2 → Numd W Ms Mj F es ej (nodeT b c (catAll (ks.map (·.2)) Pl.nil)) e W2) := hend
  have HFT : Hid (Fit W1 es ej (catAll (ks.map (·.2)) Pl.nil)) := hft1
  have HS : Hid (MapIs W1 Ms es) := hs1
  have HJ : Hid (MapIs W1 Mj ej) := hj1
  have HO : Hid (Opt W1 O Ms Mj) := hO1
  have HT : Hid (∀ k ∈ ks, IsT n W1 k.1 k.2) := hT1
  have HKS : Hid (0 < ks.length → ∃ g kc, ao = some ⟨g, 0, none⟩ ∧ Rec W1 g 25 kc ∧ ∀ (i : Nat) (k : Value × Pl), ks[i]? = some k → kc[i]? = some k.1) := hks1
  have HIH : Hid (NumOK n) := ih
  obtain ⟨m, hm⟩ : ∃ m, ks.length = m := ⟨_, rfl⟩
  rw [hm] at hin hkl
  have hta1 := ta_no (u := 49) Yba.underlying76 Yba.zeroValue76 (by decide) 25 (pt b)
  have hta2 := ta_no (u := 49) Yba.underlying36 Yba.zeroValue36 (by decide) 25 (pt b)
  have hta3 := ta_no (u := 49) Yba.underlying40 Yba.zeroValue40 (by decide) 25 (pt b)
  have hta4 := ta_no (u := 49) Yba.underlying68 Yba.zeroValue68 (by decide) 25 (pt b)
  have hmd := method49 ⟨b, 0, none⟩
  clear hff hW1 hfr1 hr1 hk1 hs1 hj1 hft1 hO1 hT1 hks1 hend hks hT hf hft hcn hrc hbc hO hs hj ih h0 h1 hr
  unfold pt at hta1 hta2 hta3 hta4 hin ⊢
  go_enter Yba.func7, Yba.ntmps7
  go_wp2_with (go_at_call 31; refine hin.mono ?_; rintro e w1 ⟨rfl, rfl⟩)
  go_loopw [2, 97] (fun v i wr => ∃ (k : Nat) (x : Int), i = .int .i64 k ∧ k ≤ m ∧ v = .int .i64 x ∧ Hid (Numd w1 Ms Mj F es ej (catAll ((ks.take k).map (·.2)) Pl.nil) (.returned v) wr)) (fun _ i _ => m - (intOf i).toNat)
  case atStart =>
    refine ⟨0, f, rfl, by omega, rfl, ?_⟩
    have := numd_nil (F := F) HS.out HJ.out
    rw [HFF.out] at this
    exact this
  case round =>
    obtain ⟨k, x, rfl, hk, rfl, HN⟩ := hrel
    by_cases hlt : k < m
    · have hlt' : (k : Int) < (m : Int) := by omega
      obtain ⟨kd, hkd⟩ : ∃ kd, ks[k]? = some kd := ⟨_, List.getElem?_eq_getElem (by omega)⟩
      obtain ⟨g, kc, rfl, hrg, hcell⟩ := HKS.out (by omega)
      obtain ⟨v, T⟩ := kd
      have hmem : (v, T) ∈ ks := List.mem_of_getElem? hkd
      have hcat : Fit w1 es ej ((catAll ((ks.take k).map (·.2)) Pl.nil).cat T) := by
        have h := HFT.out
        rw [← List.take_append_drop (k + 1) ks, List.map_append, catAll_append] at h
        have h2 := h.pre
        rw [take_succ_map hkd, catAll_snoc] at h2
        exact h2
      have hn := HN.out
      have hkp : Kept w1 wr := numd_kept HS.out HJ.out hcat.left hn.2.2.2.2
      have hf2 := Fit.right (F := F) hcat HS.out HJ.out hn.2.2.2.2
      have hih := HIH.out wr v T O Ms Mj (F + (catAll ((ks.take k).map (·.2)) Pl.nil).s.length) _ _ ((HT.out _ hmem).keep hkp) (HO.out.keep hkp) hn.2.1 hn.2.2.1 hne hf2
      have hx : x = wrap64 (F + (catAll ((ks.take k).map (·.2)) Pl.nil).s.length) := by
        have := hn.1
        injection this with this
        injection this
      rw [← hx] at hih
      have cg := rec_cell (hkp _ _ _ hrg (by decide) (by decide)) k _ (hcell k _ hkd)
      obtain ⟨ty, b', hv⟩ := (HT.out _ hmem).shape
      simp only at hv cg
      subst hv
      have HTK : Hid (catAll ((ks.take (k + 1)).map (·.2)) Pl.nil = (catAll ((ks.take k).map (·.2)) Pl.nil).cat T) := by
        show catAll ((ks.take (k + 1)).map (·.2)) Pl.nil = (catAll ((ks.take k).map (·.2)) Pl.nil).cat T
        rw [take_succ_map hkd, catAll_snoc]
      obtain ⟨A, hA⟩ : ∃ A, catAll ((ks.take k).map (·.2)) Pl.nil = A := ⟨_, rfl⟩
      rw [hA] at hcat hn hih HTK
      have HCAT : Hid (Fit w1 es ej (A.cat T)) := hcat
      have HNA : Hid (Numd w1 Ms Mj F es ej A (.returned (.int .i64 x)) wr) := hn
      clear hA HN
      clear hcat hn hkp hf2 hx hrg hcell hmem hkd
      unfold pt at hih cg
      go_wp2_with (go_at_call 7; refine hih.mono ?_; rintro e W2 hn2; have he := hn2.1; subst he)
      refine ⟨⟨k + 1, _, by simp, by omega, rfl, ?_⟩, by simp [intOf]; omega⟩
      have h := numd_cat HS.out HJ.out HCAT.out HNA.out hn2
      rw [← HTK.out] at h
      exact h
    · obtain rfl : k = m := by omega
      go_wp2_with fail
      go_ret
      have h := HN.out
      rw [List.take_of_length_le (by omega)] at h
      exact HEND.out _ _ h

theorem number_any : ∀ n : Nat, NumOK n
  | 0 => fun _ _ _ _ _ _ _ _ _ h => h.elim
  | n + 1 => by
    have ih := number_any n
    intro W v T O Ms Mj F es ej h hO hs hj hne hf
    rcases h with ⟨b, s, cs, rfl, h2, h3, rfl⟩ | ⟨b, s, cs, rfl, h2, h3, rfl⟩ | ⟨b, s, u, cs, T', rfl, h2, h3, h4, h5, rfl⟩ | ⟨b, u1, u2, cs, T1, T2, rfl, h2, h3, h4, h5, h6, rfl⟩ | ⟨b, u, cs, rfl, h2, h3, h4⟩ | ⟨b, c, cs, ao, cap, ks, rfl, h2, h3, h4, h5, h6, rfl, h7⟩
    · exact num_scan W O Ms Mj b s F es ej hO hs hj hne cs h2 h3 hf
    · exact num_cte W O Ms Mj b s F es ej hO hs hj hne cs h2 h3 hf
    · exact num_derived n ih W O Ms Mj b s u T' F es ej hO hs hj hne cs h2 h3 h4 h5 hf
    · exact num_join n ih W O Ms Mj b u1 u2 T1 T2 F es ej hO hs hj hne cs h2 h3 h4 h5 h6 hf
    · exact num_agg n ih W O Ms Mj b u T F es ej hO hs hj hne cs h2 h3 h4 hf
    · exact num_node n ih W O Ms Mj b c F es ej hO hs hj hne cs ao cap ks h2 h3 h4 (by omega) h5 h6 hf
end Go.Proofs.Ybulkedqq
