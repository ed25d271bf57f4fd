import Derived.Test.YbulkedtiPl
namespace Go.Proofs.Ybulkedti
open Go.RowKit
set_option linter.unusedVariables false

/-- The visible elements as the law's slice holds them: n of them; X: the ID, G: the data's block, D: the data. All lies below N. -/
def VisRd (w : World) (N : Nat) (s : Value) (n : Nat) (X : Nat → Int) (G : Nat → Nat) (D : Nat → List Int) : Prop :=
  ∃ vao vcap gv, s = .slice vao n vcap ∧ (0 < n → vao = some ⟨gv, 0, none⟩ ∧ gv < N) ∧ ∀ k, k < n → w.cell? ⟨gv, k * 2, none⟩ = some (.int .u8 (X k)) ∧ w.cell? ⟨gv, k * 2 + 1, none⟩ = some (.slice (some ⟨G k, 0, none⟩) (D k).length (D k).length) ∧ G k < N ∧ (D k).length ≤ 255 ∧
    ∀ j, j < (D k).length → w.cell? ⟨G k, j, none⟩ = some (.int .u8 ((D k)[j]?.getD 0))
theorem VisRd.below {w w' : World} {N n : Nat} {s : Value} {X : Nat → Int} {G : Nat → Nat} {D : Nat → List Int} (h : VisRd w N s n X G D) (hb : Below N w w') : VisRd w' N s n X G D := by
  obtain ⟨vao, vcap, gv, h1, h2, h3⟩ := h
  refine ⟨vao, vcap, gv, h1, h2, fun k hk => ?_⟩
  obtain ⟨q1, q2, q3, q4, q5⟩ := h3 k hk
  have hg := (h2 (by omega)).2
  exact ⟨(hb.cell (p := ⟨gv, k * 2, none⟩) hg).trans q1, (hb.cell (p := ⟨gv, k * 2 + 1, none⟩) hg).trans q2, q3, q4, fun j hj => (hb.cell (p := ⟨G k, j, none⟩) q3).trans (q5 j hj)⟩

theorem vcells_at : ∀ (vs : List (Int × Nat × List Int)) (k : Nat), k < vs.length → (vs.flatMap vcells)[k * 2]? = some (.int .u8 (vs[k]?.getD (0, 0, [])).1) ∧
    (vs.flatMap vcells)[k * 2 + 1]? = some (.slice (some ⟨(vs[k]?.getD (0, 0, [])).2.1, 0, none⟩) (vs[k]?.getD (0, 0, [])).2.2.length (vs[k]?.getD (0, 0, [])).2.2.length)
  | v :: vs, 0, _ => by simp [vcells]
  | v :: vs, k + 1, h => by
    obtain ⟨h1, h2⟩ := vcells_at vs k (by simpa using h)
    rw [show (k + 1) * 2 = k * 2 + 1 + 1 by omega]
    simp only [List.flatMap_cons, vcells, List.cons_append, List.nil_append, List.getElem?_cons_succ]
    exact ⟨h1, h2⟩

theorem visRd_of {w : World} {n₀ : Nat} {bv vv : Value} {bs : List Int} {vs : List (Int × Nat × List Int)} (h : Phys w n₀ bv bs vv vs) (hl : ∀ v ∈ vs, v.2.2.length ≤ 255) :
    VisRd w w.heap.size vv vs.length (fun k => (vs[k]?.getD (0, 0, [])).1) (fun k => (vs[k]?.getD (0, 0, [])).2.1) (fun k => (vs[k]?.getD (0, 0, [])).2.2) := by
  obtain ⟨_, h2, h3⟩ := h
  rcases h2.2 with ⟨rfl, h0⟩ | ⟨g, cap, cur, rfl, hb, hg, hc, _⟩
  · exact ⟨none, 0, 0, by rw [h0], fun h => by omega, fun k hk => by omega⟩
  · refine ⟨_, _, g, rfl, fun _ => ⟨rfl, (Array.getElem?_eq_some_iff.1 hg).1⟩, fun k hk => ?_⟩
    obtain ⟨e1, e2⟩ := vcells_at vs k hk
    have c1 := h2.cells (g := g) rfl _ _ e1
    have c2 := h2.cells (g := g) rfl _ _ e2
    rw [add_at, Nat.zero_add] at c1 c2
    have hmem : (vs[k]?.getD (0, 0, [])) ∈ vs := by rw [List.getElem?_eq_getElem hk]; simp
    obtain ⟨q1, _, _⟩ := h3 _ hmem
    refine ⟨c1, c2, q1.lt, hl _ hmem, fun j hj => ?_⟩
    have := news_rec q1 j _ (by rw [List.getElem?_map, List.getElem?_eq_getElem hj]; rfl)
    rw [add_at, Nat.zero_add] at this
    rw [this, List.getElem?_eq_getElem hj]
    rfl

/-- An owned row of bytes, for the readers. -/
def Full (w : World) (N : Nat) (ao : Option Addr) (cap g : Nat) (bs : List Int) : Prop :=
  (ao = none → bs.length = 0 ∧ cap = 0) ∧ (∀ ad, ao = some ad → ad = ⟨g, 0, none⟩) ∧ (0 < bs.length → ao = some ⟨g, 0, none⟩ ∧ g < N) ∧ (∀ j, j < bs.length → w.cell? ⟨g, j, none⟩ = some (.int .u8 (bs[j]?.getD 0))) ∧ bs.length ≤ cap ∧ cap ≤ maxLen
theorem Bys.full {w : World} {base : Nat} {v : Value} {bs : List Int} (h : Bys w base v bs) : ∃ ao cap g, v = .slice ao bs.length cap ∧ Full w w.heap.size ao cap g bs := by
  obtain ⟨ao, cap, hv, hc, h1, h2⟩ := h.at
  subst hv
  unfold Bys at h
  rcases h.2 with ⟨hv, h0⟩ | ⟨g, cap', cur, hv, hb, hg, hc', hm, _⟩
  · injection hv with e1 e2 e3
    subst e1
    subst e3
    exact ⟨none, 0, 0, rfl, fun _ => ⟨h0, rfl⟩, (fun ad h => by cases h), (fun h => by omega), (fun j hj => by omega), by omega, by simp⟩
  · injection hv with e1 e2 e3
    subst e1
    subst e3
    exact ⟨_, cap, g, rfl, (fun h => by cases h), (fun ad h => by cases h; rfl), fun _ => ⟨rfl, (Array.getElem?_eq_some_iff.1 hg).1⟩, h2 g rfl, hc', hm⟩
theorem Full.below {w w' : World} {N cap g : Nat} {ao : Option Addr} {bs : List Int} (h : Full w N ao cap g bs) (hb : Below N w w') : Full w' N ao cap g bs :=
  ⟨h.1, h.2.1, h.2.2.1, fun j hj => (hb.cell (p := ⟨g, j, none⟩) (h.2.2.1 (by omega)).2).trans (h.2.2.2.1 j hj), h.2.2.2.2⟩
theorem Full.mono {w : World} {N N' cap g : Nat} {ao : Option Addr} {bs : List Int} (h : Full w N ao cap g bs) (hn : N ≤ N') : Full w N' ao cap g bs :=
  ⟨h.1, h.2.1, fun h0 => ⟨(h.2.2.1 h0).1, by have := (h.2.2.1 h0).2; omega⟩, h.2.2.2⟩
theorem clone_full {w : World} {N cap g : Nat} {ao : Option Addr} {bs : List Int} (h : Full w N ao cap g bs) (hb : bs.length ≤ 100000000) :
    Calls Yba.prog 6 #[.slice ao bs.length cap] w fun e w' => ∃ v, e = .returned v ∧ Bys w' w.heap.size v bs ∧ Below w.heap.size w w' :=
  clone_any ao cap bs w hb h.1 g 0 h.2.1 (fun j hj => by rw [Nat.zero_add]; exact h.2.2.2.1 j hj)

theorem clone_zero (ad : Addr) (cap : Nat) (w : World) :
    Calls Yba.prog 6 #[.slice (some ad) 0 cap] w fun e w' => ∃ v, e = .returned v ∧ Bys w' w.heap.size v [] ∧ Below w.heap.size w w' := by
  have hq := eql_some ad 0 cap w
  have hown : Bys (w.alloc (.cells #[] 5)) w.heap.size (.slice (some ⟨w.heap.size, 0, none⟩) 0 0) [] :=
    ⟨rfl, .inr ⟨w.heap.size, 0, #[], rfl, Nat.le_refl _, World.alloc_heap_new w _, Nat.le_refl _, by simp [maxLen], rfl, rfl⟩⟩
  have hnews : ∀ j u, (([] : List Int).map u8v)[j]? = some u → (w.alloc (.cells #[] 5)).cell? (ad.add j) = some u := by
    intro j u hu
    simp at hu
  go_enter Yba.func6, Yba.ntmps6
  go_wp2_with (at_builtin; refine append_bytes w.heap.size (.slice (some ⟨w.heap.size, 0, none⟩) 0 0) [] rfl hown ad 0 cap [] rfl rfl hnews (by simp) (by simp) 0 rfl ?_; intro ao1 c1 w1 hb1 he1)
  go_ret
  exact ⟨_, rfl, hb1, ((Below.refl _ w).alloc (Nat.le_refl _) _).grown he1.by (by simp) (fun q hq => (World.ownsRow.lt hown q hq).1)⟩
theorem clone_all (ao : Option Addr) (cap : Nat) (bs : List Int) (w : World) (hb : bs.length ≤ 100000000) (hnil : ao = none → bs.length = 0 ∧ cap = 0) (b o : Nat) (hao : ∀ ad, ao = some ad → 0 < bs.length → ad = ⟨b, o, none⟩) (hcs : ∀ j, j < bs.length → w.cell? ⟨b, o + j, none⟩ = some (.int .u8 (bs[j]?.getD 0))) :
    Calls Yba.prog 6 #[.slice ao bs.length cap] w fun e w' => ∃ v, e = .returned v ∧ Bys w' w.heap.size v bs ∧ Below w.heap.size w w' := by
  by_cases h0 : 0 < bs.length
  · exact clone_any ao cap bs w hb hnil b o (fun ad h => hao ad h h0) hcs
  · obtain rfl : bs = [] := List.eq_nil_of_length_eq_zero (by omega)
    cases ao with
    | none => exact clone_any none cap [] w hb hnil 0 0 (by simp) (by simp)
    | some ad => exact clone_zero ad cap w

/-- What the law knows of the block and of what is visible. -/
def Link (ext : Bool) (m : Nat) (bs : List Int) (ts : List (Option (Int × List Int))) (n : Nat) (X : Nat → Int) (D : Nat → List Int) : Prop :=
  (m < 2 → Blk (hlen m) ts bs) ∧ ∃ L : List (Int × List Int), L.length = n ∧ (∀ k, k < n → L[k]?.getD (0, []) = (X k, D k)) ∧ Agree bs (shown ext m ts) L ∧ ∀ v ∈ L, v.2.length ≤ 255

theorem link_nil (ext : Bool) (m : Nat) (bs : List Int) (ts : List (Option (Int × List Int))) (X : Nat → Int) (D : Nat → List Int) (hb : m < 2 → Blk (hlen m) ts bs) (h : ext = false ∨ 2 ≤ m) : Link ext m bs ts 0 X D := by
  refine ⟨hb, [], rfl, fun k hk => by omega, ?_, by simp⟩
  have : shown ext m ts = [] := by
    unfold shown
    rw [if_neg]
    rintro ⟨h1, h2⟩
    rcases h with h | h
    · rw [h] at h1; cases h1
    · omega
  rw [this]
  trivial
theorem means_blk {m : Nat} {bs : List Int} {vs : List (Int × Nat × List Int)} {st : Bool} (hme : Means (bh m) bs vs st) : ∃ ts, (m < 2 → Blk (hlen m) ts bs) ∧ vs.map (fun v => (v.1, v.2.2)) = ts.filterMap _root_.id ∧ (∀ t ∈ ts, okTok (bh m) t) ∧ ∃ junk, bs = encs (bh m) ts ++ junk := by
  obtain ⟨ts, junk, h1, h2, h3, h4, h5⟩ := hme
  refine ⟨ts, fun hm => ?_, h5, h2, junk, h1⟩
  have e : bh m = hlen m := by unfold bh hlen; have : m = 0 ∨ m = 1 := by omega
                               rcases this with rfl | rfl <;> rfl
  rw [e] at h1 h2 h3
  exact ⟨h2, junk, h1, h3⟩
theorem vis_len {h : Nat} {vs : List (Int × Nat × List Int)} {ts : List (Option (Int × List Int))} (h1 : vs.map (fun v => (v.1, v.2.2)) = ts.filterMap _root_.id) (h2 : ∀ t ∈ ts, okTok h t) : ∀ v ∈ vs, v.2.2.length ≤ 255 := by
  intro v hv
  have : (v.1, v.2.2) ∈ ts.filterMap _root_.id := by rw [← h1]; exact List.mem_map.2 ⟨v, hv, rfl⟩
  obtain ⟨t, ht, e⟩ := List.mem_filterMap.1 this
  simp only [_root_.id] at e
  subst e
  exact okTok_len (h2 _ ht)
theorem link_vis {m : Nat} {bs : List Int} {vs : List (Int × Nat × List Int)} {ts : List (Option (Int × List Int))} {junk : List Int} (hm : m < 2) (hb : m < 2 → Blk (hlen m) ts bs) (h1 : vs.map (fun v => (v.1, v.2.2)) = ts.filterMap _root_.id) (h2 : ∀ t ∈ ts, okTok (bh m) t) (h3 : bs = encs (bh m) ts ++ junk) :
    Link true m bs ts vs.length (fun k => (vs[k]?.getD (0, 0, [])).1) (fun k => (vs[k]?.getD (0, 0, [])).2.2) := by
  have e : bh m = hlen m := by unfold bh hlen; have : m = 0 ∨ m = 1 := by omega
                               rcases this with rfl | rfl <;> rfl
  refine ⟨hb, ts.filterMap _root_.id, by rw [← h1]; simp, fun k hk => ?_, ?_, ?_⟩
  · rw [← h1, List.getElem?_map, List.getElem?_eq_getElem hk]
    simp [List.getElem?_eq_getElem hk]
  · have hs : shown true m ts = seen (hlen m) 0 ts := by simp [shown, hm]
    rw [hs, ← e]
    exact seen_agree (bh m) (by unfold bh; split <;> simp) bs ts [] junk (by simpa using h3)
  · intro v hv
    rw [← h1] at hv
    obtain ⟨u, hu, rfl⟩ := List.mem_map.1 hv
    exact vis_len h1 h2 u hu

theorem rec_cell {w : World} {g : Nat} {t : TypeId} {cs : Array Value} (h : Rec w g t cs) (j : Nat) (u : Value) (hu : cs.toList[j]? = some u) : w.cell? ⟨g, j, none⟩ = some u := by
  have := World.news_of_block (cs := cs) (t := t) (fr := (0, 0)) h j u hu
  rwa [add_at, Nat.zero_add] at this

/-- What the mixer hands out, in the law's own words. -/
def Res (w' : World) (base : Nat) (iao : Option Addr) (icap nd c nv : Nat) (F : Int) (D : Nat → List Int) (ds : List Int) (e : Ending) : Prop :=
  (F < 0 ∧ e = .returned (.tuple #[.slice iao nd icap, .bool false, .nilIface])) ∨
  ∃ k : Nat, F = k ∧ k < nv ∧ (((D k).length ≠ c ∧ e = .returned (.tuple #[.slice iao nd icap, .bool true, lvErr])) ∨
    ((D k).length = c ∧ ∃ ao' c', e = .returned (.tuple #[.slice ao' (nd + c) c', .bool true, .nilIface]) ∧ Bys w' base (.slice ao' (nd + c) c') (ds ++ (List.range c).map (fun j => bits BinOp.and IntKind.u8 ((D k)[j]?.getD 0) 127))))
theorem mixed_res {w w' : World} {base icap m nv N c : Nat} {iao : Option Addr} {ext : Bool} {id F : Int} {ds bs : List Int} {ts : List (Option (Int × List Int))} {X : Nat → Int} {D : Nat → List Int} {L : List (Int × List Int)} {e : Ending}
    (hM : Mixed w base iao icap ds (shown ext m ts) id N bs e w') (hN : N / 4 = c) (h1 : L.length = nv) (h2 : ∀ k, k < nv → L[k]?.getD (0, []) = (X k, D k)) (h3 : Agree bs (shown ext m ts) L)
    (hF : (F = -1 ∧ ∀ k, k < nv → X k ≠ id) ∨ ∃ k : Nat, k < nv ∧ F = k ∧ X k = id ∧ ∀ j, j < k → X j ≠ id) : Res w' base iao icap ds.length c nv F D ds e ∧ InRd w' iao ds ∧ Below base w w' := by
  obtain ⟨hM, hi, hb⟩ := hM
  refine ⟨?_, hi, hb⟩
  rcases hM with ⟨hno, he⟩ | ⟨pre, x, post, hsh, hpre, hx, hM⟩
  · rcases hF with ⟨hF, _⟩ | ⟨k, hk, hF, hX, _⟩
    · exact .inl ⟨by omega, he⟩
    · have := Agree.none h3 hno (L[k]?.getD (0, [])) (by rw [List.getElem?_eq_getElem (by omega)]; simp)
      rw [h2 k hk] at this
      exact absurd hX this
  · rw [hsh] at h3
    obtain ⟨k, q1, q2, q3, q4, q5⟩ := Agree.first h3 hpre hx
    rw [h1] at q1
    rw [h2 k q1] at q3 q4 q5
    have hFk : F = k := by
      rcases hF with ⟨_, hF⟩ | ⟨k', hk', hF, hX, hj⟩
      · exact absurd q3 (hF k q1)
      · by_cases hlt : k < k'
        · exact absurd q3 (hj k hlt)
        · by_cases hgt : k' < k
          · have := q2 k' hgt
            rw [h2 k' hk'] at this
            exact absurd hX this
          · rw [hF]; congr 1; omega
    refine .inr ⟨k, hFk, q1, ?_⟩
    simp only at q4 q5
    rw [hN] at hM
    rcases hM with ⟨hM, he⟩ | ⟨hM, ao', c', he, hB⟩
    · exact .inl ⟨by omega, he⟩
    · refine .inr ⟨by omega, ao', c', by rw [he, hM], ?_⟩
      rw [hM] at hB
      have e2 : (List.range c).map (lev bs x.2.1) = (List.range c).map (fun j => bits BinOp.and IntKind.u8 ((D k)[j]?.getD 0) 127) := by
        apply List.map_congr_left
        intro j hj
        have := List.mem_range.1 hj
        unfold lev
        rw [q5 j (by omega)]
      rw [e2] at hB
      exact hB

/-- The same behind the three results. -/
def Out (w' : World) (base : Nat) (iao : Option Addr) (icap nd c nv : Nat) (F : Int) (D : Nat → List Int) (ds : List Int) (o1 : Value) (o2 : Bool) (o3 : Value) : Prop :=
  (F < 0 ∧ o1 = .slice iao nd icap ∧ o2 = false ∧ o3 = .nilIface) ∨
  ∃ k : Nat, F = k ∧ k < nv ∧ (((D k).length ≠ c ∧ o1 = .slice iao nd icap ∧ o2 = true ∧ o3 = lvErr) ∨
    ((D k).length = c ∧ ∃ ao' c', o1 = .slice ao' (nd + c) c' ∧ o2 = true ∧ o3 = .nilIface ∧ Bys w' base (.slice ao' (nd + c) c') (ds ++ (List.range c).map (fun j => bits BinOp.and IntKind.u8 ((D k)[j]?.getD 0) 127))))
theorem Res.out {w' : World} {base : Nat} {iao : Option Addr} {icap nd c nv : Nat} {F : Int} {D : Nat → List Int} {ds : List Int} {e : Ending} (h : Res w' base iao icap nd c nv F D ds e) :
    ∃ o1 o2 o3, e = .returned (.tuple #[o1, .bool o2, o3]) ∧ Out w' base iao icap nd c nv F D ds o1 o2 o3 := by
  rcases h with ⟨h, rfl⟩ | ⟨k, hk, hn, ⟨h, rfl⟩ | ⟨h, ao', c', rfl, hb⟩⟩
  · exact ⟨_, _, _, rfl, .inl ⟨h, rfl, rfl, rfl⟩⟩
  · exact ⟨_, _, _, rfl, .inr ⟨k, hk, hn, .inl ⟨h, rfl, rfl, rfl⟩⟩⟩
  · exact ⟨_, _, _, rfl, .inr ⟨k, hk, hn, .inr ⟨h, ao', c', rfl, rfl, rfl, hb⟩⟩⟩

theorem info41 : ∃ i, Yba.prog.info? 41 = some i ∧ i.comparable = true := by
  exact ⟨_, by with_unfolding_all exact rfl, by with_unfolding_all exact rfl⟩
theorem eql_err (w : World) : (binOp .eql 37 (.iface 41 (.string { data := #[108, 101, 118, 101, 108, 45, 99, 111, 117, 110, 116] })) (.iface 41 (.string { data := #[108, 101, 118, 101, 108, 45, 99, 111, 117, 110, 116] }))).run Yba.prog w = .ok (.bool true) w := by
  obtain ⟨i, hi, hc⟩ := info41
  have h : ∀ d : Nat, (Op.equalIn (d + 2) 37 lvErr lvErr).run Yba.prog w = .ok true w := fun d => by
    simp [Op.equalIn, lvErr, run_underlying Yba.underlying37, run_underlying Yba.underlying41, typeInfo, hi, hc]
    rfl
  have h' := h 9998
  unfold lvErr at h'
  simp only [binOp]
  simp [Op.equal, Op.maxDepth, h']

set_option maxRecDepth 20000 in
set_option maxHeartbeats 4000000 in
theorem lawB (dao eao : Option Addr) (nd dc ne ec b off db dof m : Nat) (E : Nat → El) (ds : List Int) (ext : Bool) (id form app term sel ex : Int) (hid0 : 0 ≤ id) (hid1 : id ≤ 255) (hf0 : 0 ≤ form) (hf1 : form ≤ 255) (ha0 : 0 ≤ app) (ha1 : app ≤ 255) (ht0 : 0 ≤ term) (ht1 : term ≤ 255) (hs0 : 0 ≤ sel) (hs1 : sel ≤ 255) (hx0 : 0 ≤ ex) (hx1 : ex ≤ 255)
    (hm : form % 3 = (m : Int)) (hne : ne ≤ 1024) (hnd : nd ≤ 1048576) (w : World) (hE : IsElems w eao ne b off E) (hdl : ds.length = nd) (hdnil : dao = none → nd = 0 ∧ dc = 0) (hdao : ∀ ad, dao = some ad → 0 < nd → ad = ⟨db, dof, none⟩) (hdb : 0 < nd → db < w.heap.size) (hds : ∀ j, j < nd → w.cell? ⟨db, dof + j, none⟩ = some (.int .u8 (ds[j]?.getD 0))) :
    Calls Yba.prog 3 #[.slice dao nd dc, .int .u8 id, .bool ext, .int .u8 form, .int .u8 app, .int .u8 term, .int .u8 sel, .int .u8 ex, .slice eao ne ec] w fun e w' => e = .returned (.bool true) ∧ Below w.heap.size w w' := by
  have hm3 : m < 3 := by omega
  have HB : Hid (Calls Yba.prog 5 #[.slice eao ne ec, .int .u8 form, .int .u8 app, .int .u8 term] w fun e w' => Built w m (app % 16) e w') := build_any eao ne ec b off m E form app term hf0 hf1 ha0 ha1 ht0 ht1 hm hne w hE
  have HDS : Hid (∀ j, j < nd → w.cell? ⟨db, dof + j, none⟩ = some (.int .u8 (ds[j]?.getD 0))) := hds
  clear hE hds
  have hne' : ¬ (1024 : Int) < (ne : Int) := by omega
  have hnd' : ¬ (1048576 : Int) < (nd : Int) := by omega
  go_enter Yba.func3, Yba.ntmps3
  go_upto_if 55 with (go_at_call 5; refine HB.out.mono ?_; rintro e w1 ⟨bv, vv, st, rfl, HBS⟩)
  obtain ⟨vz, hvz⟩ : ∃ vz, (if m = 2 then Value.slice none 0 0 else vv) = vz := ⟨_, rfl⟩
  rw [hvz]
  obtain ⟨⟨bs, vs, hph, hme, hbl⟩, hbel⟩ := HBS
  have hvl := hme.vlen
  obtain ⟨ts, hblk, hvs, hok, junk, hbsj⟩ := means_blk hme
  have hvr := visRd_of hph (vis_len hvs hok)
  obtain ⟨bao, bcap, gb, rfl, hfull⟩ := Bys.full hph.1
  have HV : Hid (VisRd w1 w1.heap.size vv vs.length (fun k => (vs[k]?.getD (0, 0, [])).1) (fun k => (vs[k]?.getD (0, 0, [])).2.1) (fun k => (vs[k]?.getD (0, 0, [])).2.2)) := hvr
  have HBK : Hid (m < 2 → Blk (hlen m) ts bs) := hblk
  have HVS : Hid (vs.map (fun v => (v.1, v.2.2)) = ts.filterMap _root_.id) := hvs
  have HOK : Hid (∀ t ∈ ts, okTok (bh m) t) := hok
  have HBJ : Hid (bs = encs (bh m) ts ++ junk) := hbsj
  have HFB : Hid (Full w1 w1.heap.size bao bcap gb bs) := hfull
  have HVZ : Hid ((if m = 2 then Value.slice none 0 0 else vv) = vz) := hvz
  obtain ⟨bn, hbn⟩ : ∃ bn, bs.length = bn := ⟨_, rfl⟩
  rw [hbn] at hbl hvl ⊢
  clear hvr hblk hvs hok hbsj hfull hph hme hvz HB
  go_cut [21] (fun s wc => (∃ nv X G D, Hid (VisRd w1 w1.heap.size s nv X G D ∧ Link ext m bs ts nv X D ∧ nv ≤ 1000000)) ∧ wc = w1)
  case first =>
    cases ext with
    | false =>
      go_wp2
      go_meet
      case rel => exact ⟨⟨0, fun _ => 0, fun _ => 0, fun _ => [], ⟨none, 0, 0, rfl, fun h => by omega, fun k hk => by omega⟩, link_nil _ _ _ _ _ _ HBK.out (.inl rfl), by omega⟩, rfl⟩
    | true =>
      go_wp2
      go_meet
      case rel =>
        by_cases h2 : m = 2
        · have e := HVZ.out
          rw [if_pos h2] at e
          subst e
          exact ⟨⟨0, fun _ => 0, fun _ => 0, fun _ => [], ⟨none, 0, 0, rfl, fun h => by omega, fun k hk => by omega⟩, link_nil _ _ _ _ _ _ HBK.out (.inr (by omega)), by omega⟩, rfl⟩
        · have e := HVZ.out
          rw [if_neg h2] at e
          subst e
          exact ⟨⟨_, _, _, _, HV.out, link_vis (by omega) HBK.out HVS.out HOK.out HBJ.out, by omega⟩, rfl⟩
  case rest =>
    obtain ⟨⟨nv, X, G, D, HVL⟩, rfl⟩ := hcut
    obtain ⟨w1, rfl⟩ : ∃ w1, w1 = wc := ⟨_, rfl⟩
    clear HV HVS HOK HBJ HVZ HBK
    obtain ⟨vao, vcap, gv, rfl, hvao, hvrd⟩ := HVL.out.1
    have hnv := HVL.out.2.2
    have HVA : Hid (0 < nv → vao = some ⟨gv, 0, none⟩ ∧ gv < w1.heap.size) := hvao
    have HVR : Hid (∀ k, k < nv → w1.cell? ⟨gv, k * 2, none⟩ = some (.int .u8 (X k)) ∧ w1.cell? ⟨gv, k * 2 + 1, none⟩ = some (.slice (some ⟨G k, 0, none⟩) (D k).length (D k).length) ∧ G k < w1.heap.size ∧ (D k).length ≤ 255 ∧ ∀ j, j < (D k).length → w1.cell? ⟨G k, j, none⟩ = some (.int .u8 ((D k)[j]?.getD 0))) := hvrd
    clear hvao hvrd
    go_upto_block 0 with fail
    go_cut [22, 23] (fun f _ wc => (∃ F : Int, f = .int .i64 F ∧ Hid ((F = -1 ∧ ∀ k, k < nv → X k ≠ id) ∨ ∃ k : Nat, k < nv ∧ F = k ∧ X k = id ∧ ∀ j, j < k → X j ≠ id)) ∧ wc = w1)
    case first =>
      go_wp2
      go_loopw [22, 23] (fun f i wr => ∃ k : Nat, i = .int .i64 k ∧ k ≤ nv ∧ f = .int .i64 (-1) ∧ Hid (∀ j, j < k → X j ≠ id) ∧ wr = w1) (fun _ i _ => nv - (intOf i).toNat)
      case atStart => exact ⟨0, rfl, by omega, rfl, (fun j hj => by omega : ∀ j, j < 0 → X j ≠ id), rfl⟩
      case round =>
        obtain ⟨k, rfl, hk, rfl, HJ, rfl⟩ := hrel
        by_cases hlt : k < nv
        · obtain ⟨rfl, hg⟩ := HVA.out (by omega)
          have c1 := (HVR.out k hlt).1
          have hlt' : (k : Int) < (nv : Int) := by omega
          by_cases hx : X k = id
          · have hx' : (X k == id) = true := by simp [hx]
            have HX : Hid (X k = id) := hx
            clear hx
            go_wp2
            go_meet
            case rel => exact ⟨⟨(k : Int), rfl, .inr ⟨k, hlt, rfl, HX.out, HJ.out⟩⟩, rfl⟩
          · have hx' : (X k == id) = false := by simp [hx]
            have HX : Hid (X k ≠ id) := hx
            clear hx
            go_wp2
            go_roundw
            case rel =>
              refine ⟨k + 1, by go_num, by omega, by trivial, ?_, by trivial⟩
              intro j hj
              by_cases hjk : j = k
              · rw [hjk]; exact HX.out
              · exact HJ.out j (by omega)
            case measure => simp [intOf]; omega
        · obtain rfl : nv = k := by omega
          go_wp2
          go_meet
          case rel => exact ⟨⟨-1, rfl, .inl ⟨rfl, HJ.out⟩⟩, rfl⟩
    case rest =>
      obtain ⟨⟨F, rfl, HF⟩, rfl⟩ := hcut
      obtain ⟨w1, rfl⟩ : ∃ w1, w1 = wc := ⟨_, rfl⟩
      go_upto_if 72 with fail
      go_cut [24] (fun s wc' => (∃ c : Nat, s = .int .i64 c ∧ c ≤ 255) ∧ wc' = w1)
      case first =>
        by_cases hs : sel % 2 = 0
        · have hs' : (sel % 2 == 0) = true := by simp [hs]
          rw [hs']
          clear hs hs'
          rcases HF.out with ⟨hF, _⟩ | ⟨k, hk, hF, _⟩
          · have hF0 : F < 0 := by omega
            clear hF
            go_wp2
            go_meet
            case rel => exact ⟨⟨0, rfl, by omega⟩, rfl⟩
          · obtain ⟨rfl, hg⟩ := HVA.out (by omega)
            have c2 := (HVR.out k hk).2.1
            have c4 := (HVR.out k hk).2.2.2.1
            subst hF
            obtain ⟨dl, hdl2⟩ : ∃ dl, (D k).length = dl := ⟨_, rfl⟩
            rw [hdl2] at c2 c4
            have hk' : (k : Int) < (nv : Int) := by omega
            go_wp2
            go_meet
            case rel => exact ⟨⟨dl, rfl, c4⟩, rfl⟩
        · have hs' : (sel % 2 == 0) = false := by simp [hs]
          rw [hs']
          clear hs hs'
          go_wp2
          go_meet
          case rel => exact ⟨⟨(sel / 2 % 20).toNat, by simp; omega, by omega⟩, rfl⟩
      case rest =>
        obtain ⟨⟨c, rfl, hc⟩, rfl⟩ := hcut
        obtain ⟨w1, rfl⟩ : ∃ w1, w1 = wc := ⟨_, rfl⟩
        obtain ⟨N, hN⟩ : ∃ N : Nat, 4 * (c : Int) + ex % 4 = (N : Int) := ⟨4 * c + (ex % 4).toNat, by omega⟩
        have hN1 : N ≤ 1100 := by omega
        have HNC : Hid (N / 4 = c) := by show N / 4 = c; omega
        go_wp2_with (at_make; refine make_bytes N rfl rfl (by omega) ?_; intro w2 hr2 hg2)
        have hb2 : Below w1.heap.size w1 w2 := ⟨hg2.os, hg2.tape, hg2.output, hg2.size, fun k hk => hg2.block k hk (by simp)⟩
        obtain ⟨gc, hgc⟩ : ∃ gc, w1.heap.size = gc := ⟨_, rfl⟩
        rw [hgc] at hr2 ⊢
        clear hN hg2
        go_loopw [26] (fun i wr => ∃ (k : Nat) (l : List Int), i = .int .i64 k ∧ k ≤ N ∧ l.length = N ∧ Hid (Rec wr gc 5 (l.map u8v).toArray ∧ Below w1.heap.size w1 wr)) (fun i _ => N - (intOf i).toNat)
        case atStart => exact ⟨0, List.replicate N 0, rfl, by omega, by simp, by simpa [u8v] using hr2, hb2⟩
        case round =>
          clear hr2 hb2
          obtain ⟨k, l, rfl, hk, hl, HR⟩ := hrel
          obtain ⟨hr, hb⟩ := HR.out
          by_cases hlt : k < N
          · skip
            have hlt' : (k : Int) < (N : Int) := by omega
            have ck : wr.cell? ⟨gc, k, none⟩ = some (.int .u8 (l[k]?.getD 0)) := by
              have := news_rec hr k (u8v (l[k]?.getD 0)) (by rw [List.getElem?_map, List.getElem?_eq_getElem (by omega)]; rfl)
              rwa [add_at, Nat.zero_add] at this
            have fk : wr.frozen? ⟨gc, k, none⟩ = false := by simp [World.frozen?, show wr.heap[gc]? = _ from hr]
            go_wp2
            go_roundw
            case rel =>
              refine ⟨k + 1, l.set k ((k : Int) % 256), by go_num, by omega, by simpa using hl, ?_, hb.setCell (p := ⟨gc, k, none⟩) (by simp; omega) _⟩
              have h2 := hr.set k (.int .u8 ((k : Int) % 256))
              have e : (l.map u8v).toArray.setIfInBounds k (.int .u8 ((k : Int) % 256)) = ((l.set k ((k : Int) % 256)).map u8v).toArray := by
                rw [List.setIfInBounds_toArray, List.map_set]
                rfl
              rw [e] at h2
              exact h2
            case measure => simp [intOf]; omega
          · obtain rfl : N = k := by omega
            obtain ⟨w3, rfl⟩ : ∃ w3, w3 = wr := ⟨_, rfl⟩
            go_upto_region 23 with fail
            obtain ⟨w4, hw4⟩ : ∃ w4, w3.alloc (.cells #[.bool false, .int .u8 0, .int .u16 0, .int .u32 0, .int .u32 0, .bool ext, .int .u16 (profOf m (app % 16)), .int .i64 0, .slice (some ⟨gc, 0, none⟩) N N, .slice bao bn bcap, .slice none 0 0] 34) = w4 := ⟨_, rfl⟩
            obtain ⟨P, hP⟩ : ∃ P, w3.heap.size = P := ⟨_, rfl⟩
            rw [hw4, hP]
            have hrp : Rec w4 P 34 #[.bool false, .int .u8 0, .int .u16 0, .int .u32 0, .int .u32 0, .bool ext, .int .u16 (profOf m (app % 16)), .int .i64 0, .slice (some ⟨gc, 0, none⟩) N N, .slice bao bn bcap, .slice none 0 0] := by
              rw [← hw4, ← hP]; exact World.alloc_heap_new _ _
            have hb4 : Below w1.heap.size w1 w4 := by rw [← hw4]; exact hb.alloc hb.size _
            have hr4 : Rec w4 gc 5 (l.map u8v).toArray := by rw [← hw4]; exact hr.alloc _
            have HFB4 : Hid (Full w4 w4.heap.size bao bcap gb bs) := ((HFB.out.below hb4).mono hb4.size : Full w4 w4.heap.size bao bcap gb bs)
            have HRP : Hid (Rec w4 P 34 #[.bool false, .int .u8 0, .int .u16 0, .int .u32 0, .int .u32 0, .bool ext, .int .u16 (profOf m (app % 16)), .int .i64 0, .slice (some ⟨gc, 0, none⟩) N N, .slice bao bn bcap, .slice none 0 0]) := hrp
            have HFC4 : Hid (Full w4 w4.heap.size (some ⟨gc, 0, none⟩) N gc l) := by
              show Full w4 w4.heap.size (some ⟨gc, 0, none⟩) N gc l
              refine ⟨fun h => by simp at h, fun ad h => by simpa using h.symm, fun _ => ⟨rfl, hr4.lt⟩, fun j hj => ?_, by omega, by simp [maxLen]; omega⟩
              have := news_rec hr4 j (u8v (l[j]?.getD 0)) (by rw [List.getElem?_map, List.getElem?_eq_getElem hj]; rfl)
              rwa [add_at, Nat.zero_add] at this
            have hPl : P < w4.heap.size := hrp.lt
            clear hw4 hP hrp hr4 hr hb HR HFB
            have hc1 := clone_full HFB4.out (by omega)
            rw [hbn] at hc1
            go_upto_region 24 with (go_at_call 6; refine hc1.mono ?_; rintro e w5 ⟨v5, rfl, hby5, hb5⟩)
            have hc2 := clone_full (HFC4.out.below hb5) (by omega)
            rw [hl] at hc2
            go_upto_region 25 with (go_at_call 6; refine hc2.mono ?_; rintro e w6 ⟨v6, rfl, hby6, hb6⟩)
            have hbw4 : Below w.heap.size w w4 := hbel.trans (hb4.mono hbel.size)
            have hbw6 : Below w.heap.size w w6 := hbw4.trans ((hb5.trans (hb6.mono hb5.size)).mono hbw4.size)
            have hc3 := clone_all dao dc ds w6 (by omega) (by rw [hdl]; exact hdnil) db dof (by rw [hdl]; exact hdao) (fun j hj => (hbw6.cell (p := ⟨db, dof + j, none⟩) (hdb (by omega))).trans (HDS.out j (by omega)))
            rw [hdl] at hc3
            go_upto_region 26 with (go_at_call 6; refine hc3.mono ?_; rintro e w7 ⟨v7, rfl, hby7, hb7⟩)
            obtain ⟨a5, p5, g5, rfl, hf5⟩ := Bys.full hby5
            obtain ⟨a6, p6, g6, rfl, hf6⟩ := Bys.full hby6
            obtain ⟨a7, p7, g7, rfl, hf7⟩ := Bys.full hby7
            rw [hbn, hl, hdl]
            have hb47 : Below w4.heap.size w4 w7 := hb5.trans ((hb6.mono hb5.size).trans (hb7.mono (by have := hb5.size; have := hb6.size; omega)))
            have hPk : Pack w6.heap.size w7 P ext m (app % 16) gb bs := by
              have hr7 : Rec w7 P 34 _ := (hb47.block P hPl).trans HRP.out
              have hfb7 := HFB4.out.below hb47
              have hs := hb5.size
              have hs2 := hb6.size
              refine ⟨by omega, ?_, ?_, bao, bcap, ?_, hfb7.2.2.2.2.1, fun h0 => ⟨(hfb7.2.2.1 h0).1, by have := (hfb7.2.2.1 h0).2; omega⟩, hfb7.2.2.2.1⟩
              · exact rec_cell hr7 5 _ rfl
              · exact rec_cell hr7 6 _ rfl
              · rw [hbn]; exact rec_cell hr7 9 _ rfl
            have hc8 : w7.cell? ⟨P, 8, none⟩ = some (.slice (some ⟨gc, 0, none⟩) N N) := by
              have hr7 : Rec w7 P 34 _ := (hb47.block P hPl).trans HRP.out
              exact rec_cell hr7 8 _ rfl
            obtain ⟨HBK, LL, hL1, hL2, hL3, hL4⟩ := HVL.out.2.1
            have hmx := mixer_any P gb m N N p7 w6.heap.size (app % 16) id (some ⟨gc, 0, none⟩) a7 (by omega) (by omega) ext ts bs ds (by omega) HBK w7 hb7.size hPk hc8 (by omega) hby7 (by omega) (Agree.fit hL3 hL4)
            rw [hdl] at hmx
            have hmx2 := hmx.mono (fun e w' h => mixed_res h HNC.out hL1 hL2 hL3 HF.out)
            clear hmx
            rw [hdl] at hmx2
            have hb48 : ∀ w8, Below w6.heap.size w7 w8 → Below w4.heap.size w4 w8 := fun w8 h => hb47.trans (h.mono (by have := hb5.size; have := hb6.size; omega))
            go_upto_region 27 with (go_at_call 7; refine hmx2.mono ?_; rintro e w8 ⟨hres, hin8, hb8⟩; obtain ⟨o1, o2, o3, rfl, hout⟩ := hres.out)
            have HOUT : Hid (Out w8 w6.heap.size a7 p7 nd c nv F D ds o1 o2 o3) := hout
            have hb68 : Below w6.heap.size w6 w8 := (hb7.mono (Nat.le_refl _)).trans hb8
            have hb58 : Below w5.heap.size w5 w8 := hb6.trans (hb68.mono hb6.size)
            have hb48 : Below w4.heap.size w4 w8 := hb5.trans (hb58.mono hb5.size)
            have hr8 : Rec w8 P 34 _ := (hb48.block P hPl).trans HRP.out
            have cc5 := rec_cell hr8 5 _ rfl
            have cc6 := rec_cell hr8 6 _ rfl
            have cc8 := rec_cell hr8 8 _ rfl
            have cc9 := rec_cell hr8 9 _ rfl
            have HB8 : Hid (Full w8 w4.heap.size bao bcap gb bs) := (HFB4.out.below hb48 : Full w8 w4.heap.size bao bcap gb bs)
            have HC8 : Hid (Full w8 w4.heap.size (some ⟨gc, 0, none⟩) N gc l) := (HFC4.out.below hb48 : Full w8 w4.heap.size (some ⟨gc, 0, none⟩) N gc l)
            have HB58 : Hid (Full w8 w5.heap.size a5 p5 g5 bs) := (hf5.below hb58 : Full w8 w5.heap.size a5 p5 g5 bs)
            have HC68 : Hid (Full w8 w6.heap.size a6 p6 g6 l) := (hf6.below hb68 : Full w8 w6.heap.size a6 p6 g6 l)
            have hE1 := equal_any bao a5 bcap p5 gb 0 g5 0 bn (fun j => bs[j]?.getD 0) w8 (by omega) (fun h => (HB8.out.2.2.1 (by omega)).1) (fun h => (HB58.out.2.2.1 (by omega)).1) (fun j hj => by rw [Nat.zero_add]; exact HB8.out.2.2.2.1 j (by omega)) (fun j hj => by rw [Nat.zero_add]; exact HB58.out.2.2.2.1 j (by omega))
            have hE2 := fun q => equal_any (some ⟨gc, 0, none⟩) a6 N p6 gc 0 g6 0 N (fun j => l[j]?.getD 0) (w8.drewN q) (by omega) (fun h => rfl) (fun h => (HC68.out.2.2.1 (by omega)).1) (fun j hj => by rw [Nat.zero_add]; exact HC8.out.2.2.2.1 j (by omega)) (fun j hj => by rw [Nat.zero_add]; exact HC68.out.2.2.2.1 j (by omega))
            clear hc1 hc2 hc3 hby5 hby6 hby7 hf5 hf6 hmx2 hres hout hL1 hL2 hL3 hL4 hPk hc8 HB8 HC8 HB58 HC68 hr8 HFB4 HFC4 HRP
            go_upto_region 29 with (go_at_call 8; first | ((with_reducible refine hE1.mono ?_); rintro e w9 ⟨rfl, nq1, rfl⟩) | ((with_reducible refine (hE2 _).mono ?_); rintro e w9 ⟨rfl, nq2, rfl⟩))
            have hb89 : Below w8.heap.size w8 (w8.drewN (nq1 + nq2)) := below_drewN _ w8 _
            obtain ⟨w9, hw9⟩ : ∃ w9, w8.drewN (nq1 + nq2) = w9 := ⟨_, rfl⟩
            rw [hw9] at hb89 ⊢
            have hbw9 : Below w.heap.size w w9 := hbw6.trans ((hb68.trans (hb89.mono hb68.size)).mono hbw6.size)
            have hin9 : InRd w9 a7 ds := fun g hg j hj => (hb89.cell (p := ⟨g, j, none⟩) (World.block_lt_of_cell? _ _ (hin8 g hg j hj))).trans (hin8 g hg j hj)
            have hE3 := equal_any a7 dao p7 dc g7 0 db dof nd (fun j => ds[j]?.getD 0) w9 (by omega) (fun h => (hf7.2.2.1 (by omega)).1) (fun h => by
                cases hd : dao with
                | none => have := hdnil hd; omega
                | some ad => rw [hdao ad hd h]) (fun j hj => by rw [Nat.zero_add]; exact hin9 g7 (hf7.2.2.1 (by omega)).1 j (by omega)) (fun j hj => (hbw9.cell (p := ⟨db, dof + j, none⟩) (hdb (by omega))).trans (HDS.out j hj))
            clear hw9 hE1 hE2 hin9 cc5 cc6 cc8 cc9
            go_upto_region 31 with (go_at_call 8; refine hE3.mono ?_; rintro e w10 ⟨rfl, nq3, rfl⟩)
            have hb9T : Below w9.heap.size w9 (w9.drewN nq3) := below_drewN _ w9 _
            obtain ⟨T, hT⟩ : ∃ T, w9.drewN nq3 = T := ⟨_, rfl⟩
            rw [hT] at hb9T ⊢
            have hb8T : Below w8.heap.size w8 T := hb89.trans (hb9T.mono hb89.size)
            have hbwT : Below w.heap.size w T := hbw9.trans (hb9T.mono hbw9.size)
            have hb1T : Below w1.heap.size w1 T := hb4.trans ((hb48.trans (hb8T.mono hb48.size)).mono hb4.size)
            have hs7 : p7 ≤ maxLen := hf7.2.2.2.2.2
            have hn7 : a7 = none → nd = 0 ∧ p7 = 0 := fun h => by have := hf7.1 h; omega
            clear hT hE3 hf7 hin8
            rcases HOUT.out with ⟨hF0, rfl, rfl, rfl⟩ | ⟨k, hFk, hk, ⟨hDc, rfl, rfl, rfl⟩ | ⟨hDc, ao', c', rfl, rfl, rfl, hB8⟩⟩
            · clear HOUT HF
              have hsm := same_any a7 nd p7 T (by omega) hs7 hn7
              go_wp2_with (go_at_call 9; refine hsm.mono ?_; rintro e w11 ⟨rfl, nq4, rfl⟩)
              go_ret
              exact ⟨rfl, hbwT.trans (below_drewN _ T _)⟩
            · subst hFk
              obtain ⟨rfl, hg⟩ := HVA.out (by omega)
              have cD := (hb1T.cell (p := ⟨gv, k * 2 + 1, none⟩) hg).trans (HVR.out k hk).2.1
              have hdl4 := (HVR.out k hk).2.2.2.1
              obtain ⟨dl, hdl2⟩ : ∃ dl, (D k).length = dl := ⟨_, rfl⟩
              rw [hdl2] at cD hDc hdl4
              have hk' : (k : Int) < (nv : Int) := by omega
              have hk0 : ¬ (k : Int) < 0 := by omega
              have hDc' : ((dl : Int) == (c : Int)) = false := by simp; omega
              have hDc2 : ((dl : Int) != (c : Int)) = true := by simp; omega
              have hsm := same_any a7 nd p7 T (by omega) hs7 hn7
              clear HOUT HF hDc
              unfold lvErr
              have hq := fun x => eql_err x
              go_wp2_with (go_at_call 9; refine hsm.mono ?_; rintro e w11 ⟨rfl, nq4, rfl⟩)
              go_ret
              exact ⟨rfl, hbwT.trans (below_drewN _ T _)⟩
            · subst hFk
              obtain ⟨rfl, hg⟩ := HVA.out (by omega)
              have cD := (hb1T.cell (p := ⟨gv, k * 2 + 1, none⟩) hg).trans (HVR.out k hk).2.1
              have HCD : Hid (∀ j, j < c → T.cell? ⟨G k, j, none⟩ = some (.int .u8 ((D k)[j]?.getD 0))) := fun j hj => (hb1T.cell (p := ⟨G k, j, none⟩) (HVR.out k hk).2.2.1).trans ((HVR.out k hk).2.2.2.2 j (by omega))
              rw [hDc] at cD
              have hk' : (k : Int) < (nv : Int) := by omega
              have hk0 : ¬ (k : Int) < 0 := by omega
              have hBT := hB8.below hb8T
              obtain ⟨ao1, c1, g1, hs1, hf1⟩ := Bys.full hBT
              injection hs1 with e1 e2 e3
              subst e1
              subst e3
              have HO : Hid (∀ j, j < nd + c → T.cell? ⟨g1, j, none⟩ = some (.int .u8 ((ds ++ (List.range c).map (fun j => bits BinOp.and IntKind.u8 ((D k)[j]?.getD 0) 127))[j]?.getD 0))) := fun j hj => hf1.2.2.2.1 j (by omega)
              have hao : 0 < nd + c → ao' = some ⟨g1, 0, none⟩ := fun h => (hf1.2.2.1 (by omega)).1
              clear HOUT HF hDc hBT hB8 hf1 e2
              go_wp2
              go_loopw [35] (fun i wr => ∃ (j nq : Nat), i = .int .i64 j ∧ j ≤ nd ∧ wr = T.drewN nq) (fun i _ => nd - (intOf i).toNat)
              case atStart => exact ⟨0, 0, rfl, by omega, rfl⟩
              case round =>
                obtain ⟨j, nq, rfl, hj, rfl⟩ := hrel
                by_cases hlt : j < nd
                · have hlt' : (j : Int) < (nd : Int) := by omega
                  have o1 := HO.out j (by omega)
                  rw [List.getElem?_append_left (by omega)] at o1
                  have o2 : T.cell? ⟨db, dof + j, none⟩ = some (.int .u8 (ds[j]?.getD 0)) := (hbwT.cell (p := ⟨db, dof + j, none⟩) (hdb (by omega))).trans (HDS.out j hlt)
                  obtain ⟨y, hy⟩ : ∃ y, ds[j]?.getD 0 = y := ⟨_, rfl⟩
                  rw [hy] at o1 o2
                  have ha1 := hao (by omega)
                  subst ha1
                  obtain ⟨ad, rfl⟩ : ∃ ad, dao = some ad := by
                    cases hd : dao with
                    | none => have := hdnil hd; omega
                    | some ad => exact ⟨_, rfl⟩
                  obtain rfl := hdao ad rfl (by omega)
                  clear hy
                  go_wp2
                  go_quiet (fail)
                  go_wp2
                  exact ⟨⟨j + 1, _, by simp, by omega, rfl⟩, by simp [intOf]; omega⟩
                · obtain rfl : nd = j := by omega
                  clear hlt hj
                  go_wp2
                  go_loopw [36] (fun i wr => ∃ (j nq : Nat), i = .int .i64 j ∧ j ≤ c ∧ wr = T.drewN nq) (fun i _ => c - (intOf i).toNat)
                  case atStart => exact ⟨0, nq, rfl, by omega, rfl⟩
                  case round =>
                    obtain ⟨j, nq2, rfl, hj, rfl⟩ := hrel
                    by_cases hlt : j < c
                    · have hlt' : (j : Int) < (c : Int) := by omega
                      have o1 := HO.out (nd + j) (by omega)
                      rw [List.getElem?_append_right (by omega), hdl, show nd + j - nd = j by omega, List.getElem?_map, List.getElem?_range hlt] at o1
                      simp only [Option.map_some, Option.getD_some] at o1
                      have o2 := HCD.out j hlt
                      obtain ⟨y, hy⟩ : ∃ y, (D k)[j]?.getD 0 = y := ⟨_, rfl⟩
                      rw [hy] at o1 o2
                      have ha1 := hao (by omega)
                      subst ha1
                      clear hy
                      have hi2 : (nd : Int) + (j : Int) < (nd : Int) + (c : Int) := by omega
                      go_wp2
                      go_quiet (fail)
                      go_wp2
                      exact ⟨⟨j + 1, _, by simp, by omega, rfl⟩, by simp [intOf]; omega⟩
                    · obtain rfl : c = j := by omega
                      go_wp2
                      go_ret
                      exact ⟨rfl, hbwT.trans (below_drewN _ T _)⟩
end Go.Proofs.Ybulkedti
