/-
  THE PROOF OF 'Rows.LawS6508BWholeSaid' (headroom.LawS6508BWhole). The walk lies in YbulkedtiLawB; here the row.
-/
import Derived.Test.YbulkedtiRows
import Derived.Test.YbulkedtiLawB
import Derived.ProofKit
import Derived.OpenShut
import Derived.ChangeOld
import Derived.SizedLaws
import Derived.Deep.Slices
import Derived.Deep.Strs
import Derived.Lib.SmallJoins
namespace Go.Proofs.Ybulkedti.lawS6508BWhole
open Go.ChangeShapes Go.WideShapes Go.ChangeAt Go.RowKit Go.Deep Go.Joins

theorem own : ownKnob Yba.prog.godebug = none := by kernel_rfl
theorem laidOut : laidOutB Yba.prog = true := by kernel_rfl
theorem cells48 : Yba.prog.cellsOf 48 = 3 := by kernel_rfl
theorem cells5 : Yba.prog.cellsOf 5 = 1 := by kernel_rfl
theorem cells22 : Yba.prog.cellsOf 22 = 1 := by kernel_rfl
theorem bytes5 : Yba.prog.bytesOf 5 = 1 := by kernel_rfl
theorem bytes48 : Yba.prog.bytesOf 48 = 40 := by kernel_rfl

/-- A slice of bytes as the walk knows it. -/
def IsBytes (w : World) (ao : Option Addr) (cap : Nat) (ds : List Int) (b off : Nat) : Prop :=
  (ao = none → ds.length = 0 ∧ cap = 0) ∧ (∀ ad, ao = some ad → 0 < ds.length → ad = ⟨b, off, none⟩) ∧ (0 < ds.length → b < w.heap.size) ∧
  (∀ j, j < ds.length → w.cell? ⟨b, off + j, none⟩ = some (.int .u8 (ds[j]?.getD 0))) ∧ (∀ y ∈ ds, 0 ≤ y ∧ y ≤ 255) ∧ ds.length ≤ maxLen

theorem open_bytes {H : Type} {enc : TypeId × Value → H} {W : World} {fuel : Nat} {cs : List Value} {x : DataW H × List MemPlace} (h : DataW.trod enc Yba.prog W 0 (fun _ => true) true fuel 22 cs = some x) :
    ∃ ao cap ds b off, cs = [.slice ao ds.length cap] ∧ IsBytes W ao cap ds b off ∧ (ds.length = 0 ∨ ∃ es sp, x.1 = .slice es sp ∧ es.length = ds.length) := by
  rcases open_slice1 Yba.underlying22 cells5 h with ⟨rfl, _⟩ | ⟨a, len, cap, m, n, V, D, Pl, rfl, _, hlc, hml, hm, hx0, hx⟩
  · exact ⟨none, 0, [], 0, 0, rfl, ⟨by simp, by simp, by simp, by simp, by simp, by simp⟩, .inl rfl⟩
  · simp only [if_true] at hm
    subst hm
    have key : ∀ i, i < len → ∃ y : Int, W.cell? (a.add i) = some (.int .u8 y) ∧ 0 ≤ y ∧ y ≤ 255 := by
      intro i hi
      obtain ⟨h1, h2⟩ := hx i (by omega)
      obtain ⟨y, e, _, hw⟩ := DataW.trod_int Yba.underlying5 h2
      obtain ⟨b0, b1⟩ := bounds_u8 hw
      simp at e
      exact ⟨y, by rw [h1, e], b0, b1⟩
    obtain ⟨S, hS⟩ := choose_lt (p := fun i (y : Int) => W.cell? (a.add i) = some (.int .u8 y) ∧ 0 ≤ y ∧ y ≤ 255) key
    have hl : ((List.range len).map S).length = len := by simp
    obtain ⟨b, off, spot⟩ := a
    refine ⟨some ⟨b, off, spot⟩, m, (List.range len).map S, b, off, by rw [hl], ⟨by simp, ?_, ?_, ?_, ?_, by rw [hl]; omega⟩, .inr ⟨(List.range len).map D, _, by rw [hx0], by simp⟩⟩
    · intro ad e h0
      rw [hl] at h0
      have hc := (hS 0 h0).1
      have hspot : spot = none := by simpa [Addr.add] using World.cell?_spot hc
      subst hspot
      exact (Option.some.inj e).symm
    · intro h0
      rw [hl] at h0
      have := World.block_lt_of_cell? _ _ (hS 0 h0).1
      simpa [Addr.add] using this
    · intro j hj
      rw [hl] at hj
      have hc := (hS j hj).1
      have hspot : spot = none := by simpa [Addr.add] using World.cell?_spot (hS 0 (by omega)).1
      subst hspot
      rw [add_at] at hc
      rw [hc, List.getElem?_map, List.getElem?_range hj]
      rfl
    · intro y hy
      obtain ⟨j, hj, rfl⟩ := List.mem_map.1 hy
      exact (hS j (List.mem_range.1 hj)).2

theorem open_elems {H : Type} {enc : TypeId × Value → H} {W : World} {ao : Option Addr} {len cap : Nat} {d : DataW H} {p : List MemPlace}
    (h : DataW.Trod enc Yba.prog W 0 (fun _ => true) true 23 (.slice ao len cap) d p) : (∃ b off E, IsElems W ao len b off E) ∧ (len = 0 ∨ ∃ es sp, d = .slice es sp ∧ es.length = len) := by
  obtain ⟨fuel, hf⟩ := h
  rcases open_slice Yba.underlying23 hf with ⟨h0, _⟩ | ⟨a, l, c, m, n, D, Pl, hcs, _, hlc, _, hm, hx0, hx⟩
  · simp [Value.cells] at h0
    obtain ⟨rfl, rfl, rfl⟩ := h0
    exact ⟨⟨0, 0, fun _ => ⟨0, [], 0⟩, (fun h => by omega), (fun i hi => by omega), fun i => by simp⟩, .inl rfl⟩
  · simp [Value.cells] at hcs
    obtain ⟨rfl, rfl, rfl⟩ := hcs
    rw [cells48] at hx
    simp only [if_true] at hm
    subst hm
    simp only [Prod.mk.injEq] at hx0
    refine ⟨?_, .inr ⟨_, _, hx0.1, by simp⟩⟩
    have key : ∀ i, i < len → ∃ e : El, W.cell? (a.add (i * 3)) = some (.int .u8 e.id) ∧ W.cell? ((a.add (i * 3)).add 2) = some (.int .u8 e.pad) ∧
        (∃ dao dc b off, W.cell? ((a.add (i * 3)).add 1) = some (.slice dao e.data.length dc) ∧ IsBytes W dao dc e.data b off) ∧ (0 ≤ e.id ∧ e.id ≤ 255) ∧ 0 ≤ e.pad ∧ e.pad ≤ 255 := by
      intro i hi
      obtain ⟨cs', h1, h2⟩ := hx i (by omega)
      obtain ⟨_, hlen, hget⟩ := World.cells?_some h1
      obtain ⟨y0, y1, y2, n', _, _, q0, q1, q2⟩ := trod_struct3 Yba.underlying48 h2
      obtain ⟨s0, e0, _, w0⟩ := DataW.trod_int Yba.underlying5 q0
      obtain ⟨dao, dc, ds, b, off, e1, hB, _⟩ := open_bytes q1
      obtain ⟨s2, e2, _, w2⟩ := DataW.trod_int Yba.underlying5 q2
      simp only [cells5, cells22] at e0 e1 e2
      have g0 : cs'[0]? = some (.int .u8 s0) := by
        have := congrArg (fun l : List Value => l[0]?) e0
        simpa [List.getElem?_take] using this
      have g1 : cs'[1]? = some (.slice dao ds.length dc) := by
        have := congrArg (fun l : List Value => l[0]?) e1
        simpa [List.getElem?_take] using this
      have g2 : cs'[2]? = some (.int .u8 s2) := by
        have := congrArg (fun l : List Value => l[0]?) e2
        simpa [List.getElem?_take] using this
      refine ⟨⟨s0, ds, s2⟩, ?_, ?_, ⟨dao, dc, b, off, ?_, hB⟩, bounds_u8 w0, bounds_u8 w2⟩
      · have := hget 0 (by omega)
        rw [g0] at this
        simpa [Addr.add] using this
      · rw [hget 2 (by omega), g2]
      · rw [hget 1 (by omega), g1]
    have hinh : Inhabited El := ⟨⟨0, [], 0⟩⟩
    obtain ⟨G, hG⟩ := choose_lt (p := fun i (e : El) => W.cell? (a.add (i * 3)) = some (.int .u8 e.id) ∧ W.cell? ((a.add (i * 3)).add 2) = some (.int .u8 e.pad) ∧
        (∃ dao dc b off, W.cell? ((a.add (i * 3)).add 1) = some (.slice dao e.data.length dc) ∧ IsBytes W dao dc e.data b off) ∧ (0 ≤ e.id ∧ e.id ≤ 255) ∧ 0 ≤ e.pad ∧ e.pad ≤ 255) key
    obtain ⟨b, off, spot⟩ := a
    by_cases h0 : 0 < len
    · have hc := (hG 0 h0).1
      have hspot : spot = none := by simpa [Addr.add] using World.cell?_spot hc
      subst hspot
      refine ⟨b, off, fun i => if i < len then G i else ⟨0, [], 0⟩, fun _ => ⟨rfl, by simpa [Addr.add] using World.block_lt_of_cell? _ _ hc⟩, fun i hi => ?_, fun i => ?_⟩
      · obtain ⟨h1, h2, ⟨dao, dc, b', off', h3, h4⟩, _⟩ := hG i hi
        simp only [add_at] at h1 h2 h3
        simp only [hi, if_true]
        refine ⟨h1, h2, dao, dc, h3, fun hd => ?_⟩
        obtain ⟨r1, r2, r3, r4, _⟩ := h4
        cases dao with
        | none => have := (r1 rfl).1; omega
        | some ad =>
          obtain rfl := r2 ad rfl hd
          refine ⟨_, rfl, r3 hd, fun j u hu => ?_⟩
          rw [List.getElem?_map] at hu
          by_cases hj : j < (G i).data.length
          · rw [add_at, r4 j hj, ← hu, List.getElem?_eq_getElem hj]
            rfl
          · rw [List.getElem?_eq_none (by omega)] at hu
            cases hu
      · by_cases hi : i < len
        · simp only [hi, if_true]
          obtain ⟨_, _, ⟨dao, dc, b', off', _, h4⟩, h5, h6⟩ := hG i hi
          exact ⟨h5, h6, h4.2.2.2.2.1, h4.2.2.2.2.2⟩
        · simp [hi]
    · exact ⟨0, 0, fun _ => ⟨0, [], 0⟩, (fun h => by omega), (fun i hi => by omega), fun i => by simp⟩

set_option maxRecDepth 20000 in
theorem lawB_big (dao eao : Option Addr) (nd dc ne ec : Nat) (ext : Bool) (id form app term sel ex : Int) (w : World) (h0 : nd ≤ 140737488351232) (h1 : ne ≤ 140737488351232) (hb : 1024 < ne ∨ 1048576 < nd) :
    Calls Yba.prog 3 #[.slice dao nd dc, .int .u8 id, .bool ext, .int .u8 form, .int .u8 app, .int .u8 term, .int .u8 sel, .int .u8 ex, .slice eao ne ec] w fun e w' => e = .returned (.bool true) ∧ Below w.heap.size w w' := by
  by_cases h : 1024 < ne
  · have h' : (1024 : Int) < (ne : Int) := by omega
    go_enter Yba.func3, Yba.ntmps3
    go_wp2
    go_ret
    exact ⟨rfl, Below.refl _ _⟩
  · have h' : ¬ (1024 : Int) < (ne : Int) := by omega
    have h2 : (1048576 : Int) < (nd : Int) := by omega
    go_enter Yba.func3, Yba.ntmps3
    go_wp2
    go_ret
    exact ⟨rfl, Below.refl _ _⟩

theorem walk (dao eao : Option Addr) (dc ne ec b off db dof : Nat) (E : Nat → El) (ds : List Int) (ext : Bool) (id form app term sel ex : Int) (w1 : (Lit.int .u8 id).wf = true) (w2 : (Lit.int .u8 form).wf = true) (w3 : (Lit.int .u8 app).wf = true) (w4 : (Lit.int .u8 term).wf = true) (w5 : (Lit.int .u8 sel).wf = true) (w6 : (Lit.int .u8 ex).wf = true)
    (w : World) (h0 : ds.length ≤ 140737488351232) (h1 : ne ≤ 140737488351232) (hE : IsElems w eao ne b off E) (hD : IsBytes w dao dc ds db dof) :
    Calls Yba.prog 3 #[.slice dao ds.length dc, .int .u8 id, .bool ext, .int .u8 form, .int .u8 app, .int .u8 term, .int .u8 sel, .int .u8 ex, .slice eao ne ec] w fun e w' => e = .returned (.bool true) ∧ Below w.heap.size w w' := by
  by_cases hb : 1024 < ne ∨ 1048576 < ds.length
  · exact lawB_big dao eao ds.length dc ne ec ext id form app term sel ex w h0 h1 hb
  · obtain ⟨a1, b1⟩ := bounds_u8 w1
    obtain ⟨a2, b2⟩ := bounds_u8 w2
    obtain ⟨a3, b3⟩ := bounds_u8 w3
    obtain ⟨a4, b4⟩ := bounds_u8 w4
    obtain ⟨a5, b5⟩ := bounds_u8 w5
    obtain ⟨a6, b6⟩ := bounds_u8 w6
    obtain ⟨d1, d2, d3, d4, _, _⟩ := hD
    exact lawB dao eao ds.length dc ne ec b off db dof (form % 3).toNat E ds ext id form app term sel ex a1 b1 a2 b2 a3 b3 a4 b4 a5 b5 a6 b6 (by omega) (by omega) (by omega) w hE rfl d1 d2 d3 d4

set_option maxRecDepth 100000 in
theorem lifted (os : Os) (started : os.Started) (H : Type) (enc : TypeId × Value → H) :
    ReturnsInHanded {} Yba.checked os 3 .any (Rows.lawS6508BWholeSpec.pre6 enc Yba.prog Yba.f3 Rows.lawS6508BWholeRow.domain false) (Rows.lawS6508BWholeSpec.post enc Yba.prog Yba.f3 false true false false) := by
  refine returnsInHanded_of_change_sized (C := Yba.checked) own started (by kernel_rfl) Yba.func3
    (ChangeSpec.witness6 (enc := enc) (C := Yba.checked) false ⟨#[], #[.slice none 0 0, .int .u8 0, .bool false, .int .u8 0, .int .u8 0, .int .u8 0, .int .u8 0, .int .u8 0, .slice none 0 0], []⟩ 8 (by kernel_rfl) (by kernel_rfl) (by kernel_rfl) (by kernel_rfl)) ?_
  intro W base args ds gs before hval0 hW hcnd hsz0 _
  have hval : ∀ (j : Nat) t v, Yba.f3.params[j]? = some t → args[j]? = some v → Value.okWide Yba.prog W .any base t v := hval0
  have hsz : (DataW.weightsEach Yba.prog (Yba.f3.params.toList ++ Rows.lawS6508BWholeSpec.plain.varTypes Yba.prog) (ds ++ gs)).all (· ≤ reachBytes) = true := hsz0
  have hW' := hW
  obtain ⟨p, q, hA0, hV, rfl, hfz, hnd⟩ := hW
  have hA : DataW.TrodAll enc Yba.prog W 0 (fun _ => true) true Yba.f3.params.toList args.toList ds p := hA0
  rw [Yba.params3] at hA hval hsz
  obtain ⟨v0, vs0, d0, ds0, p0, q0, hargs, rfl, rfl, h0, r0⟩ := trodAll_cons hA
  obtain ⟨v1, vs1, d1, ds1, p1, q1, rfl, rfl, rfl, h1, r1⟩ := trodAll_cons r0
  obtain ⟨v2, vs2, d2, ds2, p2, q2, rfl, rfl, rfl, h2, r2⟩ := trodAll_cons r1
  obtain ⟨v3, vs3, d3, ds3, p3, q3, rfl, rfl, rfl, h3, r3⟩ := trodAll_cons r2
  obtain ⟨v4, vs4, d4, ds4, p4, q4, rfl, rfl, rfl, h4, r4⟩ := trodAll_cons r3
  obtain ⟨v5, vs5, d5, ds5, p5, q5, rfl, rfl, rfl, h5, r5⟩ := trodAll_cons r4
  obtain ⟨v6, vs6, d6, ds6, p6, q6, rfl, rfl, rfl, h6, r6⟩ := trodAll_cons r5
  obtain ⟨v7, vs7, d7, ds7, p7, q7, rfl, rfl, rfl, h7, r7⟩ := trodAll_cons r6
  obtain ⟨v8, vs8, d8, ds8, p8, q8, rfl, rfl, rfl, h8, r8⟩ := trodAll_cons r7
  obtain ⟨rfl, rfl, rfl⟩ := trodAll_nil r8
  obtain rfl : args = #[v0, v1, v2, v3, v4, v5, v6, v7, v8] := by cases args; simp_all
  obtain ⟨rfl, rfl⟩ := trodVars_none hV
  have k0 := h0
  have k8 := h8
  have lt0 : ∀ x ∈ p0, x.block < W.heap.size := by obtain ⟨m, hm⟩ := k0; exact DataW.trod_lt m _ _ _ hm
  have lt8 : ∀ x ∈ p8, x.block < W.heap.size := by obtain ⟨m, hm⟩ := k8; exact DataW.trod_lt m _ _ _ hm
  obtain ⟨a8, len8, cap8, rfl⟩ := okWide_slice Yba.underlying23 (hval 8 23 v8 rfl rfl)
  obtain ⟨x1, rfl, rfl, rfl, w1⟩ := open_int Yba.underlying5 (hval 1 5 v1 rfl rfl) h1
  obtain ⟨x2, rfl, rfl, rfl⟩ := open_bool Yba.underlying4 (hval 2 4 v2 rfl rfl) h2
  obtain ⟨x3, rfl, rfl, rfl, w3⟩ := open_int Yba.underlying5 (hval 3 5 v3 rfl rfl) h3
  obtain ⟨x4, rfl, rfl, rfl, w4⟩ := open_int Yba.underlying5 (hval 4 5 v4 rfl rfl) h4
  obtain ⟨x5, rfl, rfl, rfl, w5⟩ := open_int Yba.underlying5 (hval 5 5 v5 rfl rfl) h5
  obtain ⟨x6, rfl, rfl, rfl, w6⟩ := open_int Yba.underlying5 (hval 6 5 v6 rfl rfl) h6
  obtain ⟨x7, rfl, rfl, rfl, w7⟩ := open_int Yba.underlying5 (hval 7 5 v7 rfl rfl) h7
  obtain ⟨a0, len0, cap0, rfl⟩ := okWide_slice Yba.underlying22 (hval 0 22 v0 rfl rfl)
  obtain ⟨fuel0, hf0⟩ := h0
  obtain ⟨ao, cap, ls, b0, o0, ecs, hD, e0⟩ := open_bytes hf0
  simp [Value.cells] at ecs
  obtain ⟨rfl, rfl, rfl⟩ := ecs
  obtain ⟨⟨b8, o8, E, hE⟩, e8⟩ := open_elems h8
  have n0 : ls.length ≤ 140737488351232 := by
    rcases e0 with e0 | ⟨es, sp, e0', e0⟩
    · omega
    · simp only at e0'
      subst e0'
      have := sized_slice hsz (j := 0) (t := 22) (e := 5) rfl rfl Yba.underlying22
      rw [bytes5] at this
      simp only [reachBytes] at this
      omega
  have n8 : len8 ≤ 140737488351232 := by
    rcases e8 with e8 | ⟨es, sp, rfl, e8⟩
    · omega
    · have := sized_slice hsz (j := 8) (t := 23) (e := 48) rfl rfl Yba.underlying23
      rw [bytes48] at this
      simp only [reachBytes] at this
      omega
  clear hA0 hval0 hsz hsz0
  refine (walk a0 a8 cap0 len8 cap8 b8 o8 b0 o0 E ls x2 x1 x3 x4 x5 x6 x7 w1 w3 w4 w5 w6 w7 W n0 n8 hE hD).mono fun e W' ⟨he, bel⟩ => ?_
  subst he
  exact ⟨_, rfl, _, _, _, [], _, [], hW', trodAll_mk1 (shut_bool Yba.underlying4 _), (trodAll_cons_mk (Below.trod laidOut (by kernel_rfl) (of_decide_eq_true (by kernel_rfl)) k0 bel lt0) (trodAll_cons_mk (shut_int Yba.underlying5 w1) (trodAll_cons_mk (shut_bool Yba.underlying4 x2) (trodAll_cons_mk (shut_int Yba.underlying5 w3) (trodAll_cons_mk (shut_int Yba.underlying5 w4) (trodAll_cons_mk (shut_int Yba.underlying5 w5) (trodAll_cons_mk (shut_int Yba.underlying5 w6) (trodAll_cons_mk (shut_int Yba.underlying5 w7) (trodAll_cons_mk (Below.trod laidOut (by kernel_rfl) (of_decide_eq_true (by kernel_rfl)) k8 bel lt8) trodAll_mk0))))))))), rfl, bel.frame _, fun h => by cases h⟩

theorem over : Rows.lawS6508BWholeRow.holds Yba.pinned (OpenSpec.ofChange Rows.lawS6508BWholeSpec) :=
  OpenClaim.holds_of_wide 3 Yba.f3 rfl rfl rfl rfl rfl rfl rfl ⟨rfl, rfl, rfl, rfl, rfl⟩ rfl rfl rfl rfl rfl (by kernel_rfl) Yba.func3 (by kernel_rfl)
    (of_decide_eq_true (by kernel_rfl)) (by unfold Func.isWrapper; first | (rw [if_pos (by decide +kernel)]; kernel_rfl) | (rw [if_neg (by decide +kernel)]; exact ⟨rfl, rfl⟩))
    (fun os started H enc _ => lifted os started H enc)

theorem proved : Rows.LawS6508BWholeSaid := over
end Go.Proofs.Ybulkedti.lawS6508BWhole
