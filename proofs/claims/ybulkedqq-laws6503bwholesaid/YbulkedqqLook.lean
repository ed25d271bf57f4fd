import Derived.Test.YbulkedqqStep
import Derived.ChangeKeysEq
import Derived.Laws.StructEq
namespace Go.Proofs.Ybulkedqq
open Go.RowKit
theorem look_s {w2 : World} {M : Nat} {F : Int} {T : Pl} {k sx : Nat} (hms : MapIs w2 M (zS F T.s)) (htg : ∀ s ∈ T.s, Tag w2 s 35) (hnd : T.s.Nodup) (hsx : T.s[k]? = some sx) (q : Nat) :
    (Instr.lookup 54 (.map (some M)) (.pointer (some ⟨sx, 0, none⟩)) true).run Yba.prog (w2.drewN q) = .ok (.tuple #[.int .i64 (wrap64 (F + k)), .bool true]) (w2.drewN q) := by
  refine run_lookup (w := w2.drewN q) Yba.underlying54 ptr32 (show MapIs (w2.drewN q) M (zS F T.s) from hms) sx (.int .i64 (wrap64 (F + k))) (htg sx (List.mem_of_getElem? hsx)) (fun p hp => htg p.1 ?_) (zS_mem _ _ _ _ hsx) (by rw [zS_keys]; exact hnd)
  have : p.1 ∈ (zS F T.s).map (·.1) := List.mem_map.2 ⟨p, hp, rfl⟩
  rwa [zS_keys] at this
theorem look_j {w2 w3 : World} {M : Nat} {F : Int} {T : Pl} {x : Nat × Nat × Nat × Nat} (hms : MapIs w2 M (zJ F T.j)) (htg : ∀ s ∈ T.j.map (·.1), Tag w2 s 81) (hnd : (T.j.map (·.1)).Nodup) (hx : x ∈ T.j) (hb : Below w2.heap.size w2 w3) :
    (Instr.lookup 55 (.map (some M)) (.pointer (some ⟨x.1, 0, none⟩)) true).run Yba.prog w3 = .ok (.tuple #[span4 F x.2.1 x.2.2.1 x.2.2.2, .bool true]) w3 := by
  have hk := Kept.below hb
  have hms3 : MapIs w3 M (zJ F T.j) := by
    obtain ⟨es, c, h1, h2⟩ := hms
    exact ⟨es, c, (hb.block M (Array.getElem?_eq_some_iff.1 h1).1).trans h1, h2⟩
  refine run_lookup (w := w3) Yba.underlying55 ptr68 hms3 x.1 (span4 F x.2.1 x.2.2.1 x.2.2.2) (hk.tag (htg x.1 (List.mem_map.2 ⟨x, hx, rfl⟩)) (by decide) (by decide)) (fun p hp => hk.tag (htg p.1 ?_) (by decide) (by decide)) (List.mem_map.2 ⟨x, hx, rfl⟩) (by rw [zJ_keys]; exact hnd)
  have : p.1 ∈ (zJ F T.j).map (·.1) := List.mem_map.2 ⟨p, hp, rfl⟩
  rwa [zJ_keys] at this
theorem cells72 : Yba.prog.cellsOf 72 = 2 := by kernel_rfl
theorem fields72 : Yba.prog.underlying 72 = some (.struct (Yba.prog.fieldsOf 72)) := by kernel_rfl
theorem stood72 : Yba.prog.stoodInHeld 72 = false := by kernel_rfl
theorem fieldsL72 : (Yba.prog.fieldsOf 72).toList.map (fun f => (f.name, f.type, f.offset)) = [("lo", 3, 0), ("hi", 3, 1)] := by kernel_rfl
theorem eq72 (d : Nat) (a b : Int) (w : World) : (Op.equalIn (d + 2) 72 (.agg #[.int .i64 a, .int .i64 b]) (.agg #[.int .i64 a, .int .i64 b])).run Yba.prog w = .ok true w := by
  rw [run_equalIn_struct w (d + 1) 72 _ _ fields72 stood72]
  have hf := fieldsL72
  generalize (Yba.prog.fieldsOf 72).toList = fs at hf
  have hl : fs.length = 2 := by have := congrArg List.length hf; simpa using this
  cases fs with
  | nil => simp at hl
  | cons f fs =>
    cases fs with
    | nil => simp at hl
    | cons g fs =>
      cases fs with
      | cons h fs => simp at hl
      | nil =>
        simp only [List.map_cons, List.map_nil, List.cons.injEq, Prod.mk.injEq, and_true] at hf
        obtain ⟨⟨f1, f2, f3⟩, g1, g2, g3⟩ := hf
        simp [Op.eqFields, f1, f2, f3, g1, g2, g3, part, Yba.isAgg3, run_equalIn_int w d 3 .i64 .i64 _ _ Yba.underlying3]
theorem neq73 (a b c d : Int) (w : World) : (binOp .neq 73 (.agg #[.int .i64 a, .int .i64 b, .int .i64 c, .int .i64 d]) (.agg #[.int .i64 a, .int .i64 b, .int .i64 c, .int .i64 d])).run Yba.prog w = .ok (.bool false) w := by
  obtain ⟨i72, h72, hs⟩ : ∃ i, Yba.prog.info? 72 = some i ∧ i.size = 2 := by
    have : (Yba.prog.info? 72).map (·.size) = some 2 := by kernel_rfl
    cases h : Yba.prog.info? 72 with
    | none => rw [h] at this; cases this
    | some i => rw [h] at this; exact ⟨i, rfl, by simpa using this⟩
  have e1 := eq72 9997 a b w
  have e2 := eq72 9997 c d w
  rw [run_neq_struct, run_equalIn_array w 9999 _ _ Yba.underlying73 h72, cells72]
  simp [Op.eqItems, List.range_succ, part, Yba.isAgg72, sizeOf, typeInfo, h72, hs, e1, e2]
theorem IsT.nodes : ∀ {n : Nat} {W : World} {v : Value} {T : Pl}, IsT n W v T → ∀ p ∈ T.n, ∃ cs, Rec W p.1 52 cs ∧ cs[1]? = some (pt p.2) := by
  have hall : ∀ (W : World) (l : List Pl) (t : Pl), (∀ p ∈ t.n, ∃ cs, Rec W p.1 52 cs ∧ cs[1]? = some (pt p.2)) → (∀ T ∈ l, ∀ p ∈ T.n, ∃ cs, Rec W p.1 52 cs ∧ cs[1]? = some (pt p.2)) → ∀ p ∈ (catAll l t).n, ∃ cs, Rec W p.1 52 cs ∧ cs[1]? = some (pt p.2) := by
    intro W l
    induction l with
    | nil => intro t ht _; exact ht
    | cons y l ih =>
      intro t ht hl
      refine ih (t.cat y) (fun p hp => ?_) (fun T hT => hl T (by simp [hT]))
      rcases List.mem_append.1 hp with hp | hp
      · exact ht p hp
      · exact hl y (by simp) p hp
  intro n
  induction n with
  | zero => intro W v T h; exact h.elim
  | succ n ih =>
    intro W v T h
    rcases h with ⟨b, s, cs, _, _, _, rfl⟩ | ⟨b, s, cs, _, _, _, rfl⟩ | ⟨b, s, u, cs, T', _, _, _, _, h5, rfl⟩ | ⟨b, u1, u2, cs, T1, T2, _, _, _, _, h5, h6, rfl⟩ | ⟨b, u, cs, _, _, _, h4⟩ | ⟨b, c, cs, ao, cap, ks, _, h2, _, h4, _, h6, rfl, _⟩
    · intro p hp; simp [oneS] at hp
    · intro p hp; simp [oneS] at hp
    · intro p hp
      rcases List.mem_append.1 hp with hp | hp
      · simp [oneS] at hp
      · exact ih h5 p hp
    · intro p hp
      rcases List.mem_append.1 hp with hp | hp
      · exact ih h5 p hp
      · exact ih h6 p hp
    · exact ih h4
    · intro p hp
      rcases List.mem_append.1 hp with hp | hp
      · refine hall W (ks.map fun k => k.2) Pl.nil (by simp [Pl.nil]) ?_ p hp
        intro T hT
        obtain ⟨k, hk, rfl⟩ := List.mem_map.1 hT
        exact ih (h6 k hk)
      · obtain rfl : p = (b, c) := by simpa using hp
        exact ⟨cs, h2, h4⟩
theorem guard73 : Yba.prog.eqGuardType Yba.prog.depth 73 = false := by kernel_rfl
end Go.Proofs.Ybulkedqq
