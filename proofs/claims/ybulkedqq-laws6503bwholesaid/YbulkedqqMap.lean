import Derived.Test.YbulkedqqProg
import Derived.WalkKit
import Derived.WalkSpells
import Derived.WalkLawsBesides
import Derived.Below
import Derived.BigQuiet
import Derived.BigRegion
import Derived.LaidEql
import Derived.Maps.OwnOps
namespace Go.Proofs.Ybulkedqq
open Go.RowKit
open Go.ChangeMaps (setBlock)
set_option linter.unusedVariables false

def pt (g : Nat) : Value := .pointer (some ⟨g, 0, none⟩)
/-- A row of cells of the type t lies in block B. -/
def Rec (W : World) (B : Nat) (t : TypeId) (cs : Array Value) : Prop := W.heap[B]? = some (.cells cs t (0, 0))
def Tag (W : World) (B : Nat) (t : TypeId) : Prop := ∃ cs, Rec W B t cs
theorem Rec.lt {W : World} {B : Nat} {t : TypeId} {cs : Array Value} (h : Rec W B t cs) : B < W.heap.size := (Array.getElem?_eq_some_iff.1 h).1
theorem add_at (b o j : Nat) : (⟨b, o, none⟩ : Addr).add j = ⟨b, o + j, none⟩ := by unfold Addr.add; split <;> simp_all
theorem rec_cell {w : World} {g : Nat} {t : TypeId} {cs : Array Value} (h : Rec w g t cs) (j : Nat) (u : Value) (hu : cs[j]? = some u) : w.cell? ⟨g, j, none⟩ = some u :=
  (cell_of_row w g j cs _ _ h).trans hu

/-- The pointer types that serve as keys: t points to e. -/
def PtrTo (t e : TypeId) : Prop := Yba.prog.underlying t = some (.pointer e) ∧ ∃ i, Yba.prog.info? e = some i ∧ i.size ≠ 0
theorem info_size {e : TypeId} {n : Nat} (h : (Yba.prog.info? e).map (fun i => i.size) = some (n + 1)) : ∃ i, Yba.prog.info? e = some i ∧ i.size ≠ 0 := by
  cases hi : Yba.prog.info? e with
  | none => rw [hi] at h; cases h
  | some i =>
    rw [hi] at h
    simp only [Option.map_some, Option.some.injEq] at h
    exact ⟨i, rfl, by omega⟩
theorem ptr32 : PtrTo 32 35 := ⟨Yba.underlying32, info_size (n := 1) (by kernel_rfl)⟩
theorem ptr68 : PtrTo 68 81 := ⟨Yba.underlying68, info_size (n := 4) (by kernel_rfl)⟩

theorem equal_same {t e : TypeId} (h : PtrTo t e) (w : World) (a : Nat) : (Op.equal t (pt a) (pt a)).run Yba.prog w = .ok true w := by
  obtain ⟨h1, i, h2, h3⟩ := h
  have : ∀ d : Nat, (Op.equalIn (d + 1) t (pt a) (pt a)).run Yba.prog w = .ok true w := fun d => by
    simp [Op.equalIn, pt, run_underlying h1, sizeOf, typeInfo, h2, run_sameAddr_same]
  simp [Op.equal, Op.maxDepth, this 9999]
theorem equal_other {t e : TypeId} (h : PtrTo t e) (w : World) {a b : Nat} {ta tb : TypeId} (hne : a ≠ b) (ha : Tag w a ta) (hb : Tag w b tb) : (Op.equal t (pt a) (pt b)).run Yba.prog w = .ok false w := by
  obtain ⟨h1, i, h2, h3⟩ := h
  obtain ⟨ca, ha⟩ := ha
  obtain ⟨cb, hb⟩ := hb
  have hs := run_sameAddr_other (P := Yba.prog) w (a := ⟨a, 0, none⟩) (b := ⟨b, 0, none⟩) (fun e => hne (congrArg Addr.block e)) ha hb
  have : ∀ d : Nat, (Op.equalIn (d + 1) t (pt a) (pt b)).run Yba.prog w = .ok false w := fun d => by
    simp [Op.equalIn, pt, run_underlying h1, sizeOf, typeInfo, h2, h3, hs]
  simp [Op.equal, Op.maxDepth, this 9999]

/-- The entries of a map, as keys and values. -/
def EntryIs (e : MapEntry) (p : Nat × Value) : Prop := e.key = pt p.1 ∧ e.val = p.2
def Entries : List MapEntry → List (Nat × Value) → Prop
  | [], [] => True
  | e :: es, p :: ps => EntryIs e p ∧ Entries es ps
  | _, _ => False
theorem Entries.length : ∀ {es : List MapEntry} {ps : List (Nat × Value)}, Entries es ps → es.length = ps.length
  | [], [], _ => rfl
  | e :: es, p :: ps, h => by simp [Entries.length h.2]
  | [], _ :: _, h => h.elim
  | _ :: _, [], h => h.elim
theorem Entries.push : ∀ {es : List MapEntry} {ps : List (Nat × Value)} {e : MapEntry} {p : Nat × Value}, Entries es ps → EntryIs e p → Entries (es ++ [e]) (ps ++ [p])
  | [], [], _, _, _, h => ⟨h, trivial⟩
  | e :: es, p :: ps, _, _, h, h' => ⟨h.1, Entries.push h.2 h'⟩
  | [], _ :: _, _, _, h, _ => h.elim
  | _ :: _, [], _, _, h, _ => h.elim

theorem findNow_ptr {e : TypeId} (a : Nat) : ∀ (es : List MapEntry) (ps : List (Nat × Value)) (i : Nat), Entries es ps → Instr.findNow (.pointer e) (pt a) es i = none ∨ es = []
  | [], _, _, _ => .inr rfl
  | e :: es, p :: ps, i, h => by
    left
    unfold Instr.findNow
    rw [h.1.1]
    rfl
  | _ :: _, [], _, h => h.elim
theorem asking_none {t e : TypeId} (ht : PtrTo t e) (w : World) (a : Nat) (te : TypeId) (ha : Tag w a te) : ∀ (es : List MapEntry) (ps : List (Nat × Value)) (i : Nat), Entries es ps → (∀ p ∈ ps, p.1 ≠ a ∧ Tag w p.1 te) →
    (Instr.findAsking t (pt a) es i).run Yba.prog w = .ok none w
  | [], [], _, _, _ => rfl
  | e :: es, p :: ps, i, h, hp => by
    unfold Instr.findAsking
    have h1 := equal_other ht w (hp p (by simp)).1.symm ha (hp p (by simp)).2
    simp only [Sem.run_bind, h.1.1, h1, Result.andThen_ok]
    exact asking_none ht w a te ha es ps (i + 1) h.2 (fun q hq => hp q (by simp [hq]))
  | [], _ :: _, _, h, _ => h.elim
  | _ :: _, [], _, h, _ => h.elim
theorem asking_some {t e : TypeId} (ht : PtrTo t e) (w : World) (a : Nat) (te : TypeId) (v : Value) (ha : Tag w a te) : ∀ (es : List MapEntry) (ps : List (Nat × Value)) (i : Nat), Entries es ps → (∀ p ∈ ps, Tag w p.1 te) → (a, v) ∈ ps → (ps.map (·.1)).Nodup →
    ∃ j, (Instr.findAsking t (pt a) es i).run Yba.prog w = .ok (some (j, v)) w
  | e :: es, p :: ps, i, h, hp, hm, hn => by
    unfold Instr.findAsking
    by_cases hpa : p.1 = a
    · have hv : p.2 = v := by
        rcases List.mem_cons.1 hm with rfl | hm
        · rfl
        · simp only [List.map_cons, List.nodup_cons] at hn
          exact absurd (hpa ▸ List.mem_map.2 ⟨_, hm, rfl⟩ : p.1 ∈ ps.map (·.1)) hn.1
      have h1 := equal_same ht w a
      simp only [Sem.run_bind, h.1.1, hpa, h1, Result.andThen_ok]
      exact ⟨i, by rw [h.1.2, hv]; rfl⟩
    · have h1 := equal_other ht w (fun e => hpa e.symm) ha (hp p (by simp))
      simp only [Sem.run_bind, h.1.1, h1, Result.andThen_ok]
      refine asking_some ht w a te v ha es ps (i + 1) h.2 (fun q hq => hp q (by simp [hq])) ?_ ?_
      · rcases List.mem_cons.1 hm with rfl | hm
        · exact absurd rfl hpa
        · exact hm
      · simp only [List.map_cons, List.nodup_cons] at hn
        exact hn.2
  | [], [], _, _, _, hm, _ => by simp at hm
  | [], _ :: _, _, h, _, _, _ => h.elim
  | _ :: _, [], _, h, _, _, _ => h.elim

/-- The map in block M holds ps, in this order. -/
def MapIs (w : World) (M : Nat) (ps : List (Nat × Value)) : Prop := ∃ es c, w.heap[M]? = some (.map es c) ∧ Entries es.toList ps
theorem MapIs.len {w : World} {M : Nat} {ps : List (Nat × Value)} {es : Array MapEntry} {c : Nat} (h : MapIs w M ps) (hb : w.heap[M]? = some (.map es c)) : es.size = ps.length := by
  obtain ⟨es', c', h1, h2⟩ := h
  rw [hb] at h1
  cases h1
  rw [← h2.length]
  simp

theorem find_none {t e : TypeId} (ht : PtrTo t e) (w : World) (a : Nat) (te : TypeId) (ha : Tag w a te) (es : List MapEntry) (ps : List (Nat × Value)) (h : Entries es ps) (hp : ∀ p ∈ ps, p.1 ≠ a ∧ Tag w p.1 te) :
    (Instr.findKey t (pt a) es).run Yba.prog w = .ok none w := by
  have h1 := asking_none ht w a te ha es ps 0 h hp
  unfold Instr.findKey
  simp only [Sem.run_bind, run_underlying ht.1, Result.andThen_ok]
  rcases findNow_ptr (e := e) a es ps 0 h with h2 | rfl
  · rw [h2]; exact h1
  · rfl
theorem find_some {t e : TypeId} (ht : PtrTo t e) (w : World) (a : Nat) (te : TypeId) (v : Value) (ha : Tag w a te) (es : List MapEntry) (ps : List (Nat × Value)) (h : Entries es ps) (hp : ∀ p ∈ ps, Tag w p.1 te) (hm : (a, v) ∈ ps) (hn : (ps.map (·.1)).Nodup) :
    ∃ j, (Instr.findKey t (pt a) es).run Yba.prog w = .ok (some (j, v)) w := by
  obtain ⟨j, h1⟩ := asking_some ht w a te v ha es ps 0 h hp hm hn
  refine ⟨j, ?_⟩
  unfold Instr.findKey
  simp only [Sem.run_bind, run_underlying ht.1, Result.andThen_ok]
  rcases findNow_ptr (e := e) a es ps 0 h with h2 | rfl
  · rw [h2]; exact h1
  · cases ps with
    | nil => simp at hm
    | cons p ps => exact h.elim

theorem check_ptr {t e : TypeId} (ht : PtrTo t e) (w : World) (b : Bool) (a : Nat) : (Instr.checkKey b 10000 t (pt a)).run Yba.prog w = .ok () w := by
  unfold Instr.checkKey
  simp only [Sem.run_bind, run_underlying ht.1, Result.andThen_ok]
  rfl

/-- A new key goes in at the end. -/
theorem run_update {mt t te e : TypeId} (hmt : Yba.prog.underlying mt = some (.map t te)) (ht : PtrTo t e) {w : World} {M : Nat} {es : Array MapEntry} {c : Nat} (hb : w.heap[M]? = some (.map es c)) {ps : List (Nat × Value)} (h : Entries es.toList ps) (a : Nat) (v : Value) (ha : Tag w a e)
    (hp : ∀ p ∈ ps, p.1 ≠ a ∧ Tag w p.1 e) : (Instr.mapUpdate mt (.map (some M)) (pt a) v).run Yba.prog w = .ok () (setBlock w M (.map (es.push { key := pt a, val := v, born := c }) (c + 1))) := by
  simp only [Instr.mapUpdate, Sem.run_bind, run_underlying hmt, Result.andThen_ok, MapKept.run_getObj_map hb, check_ptr ht, find_none ht w a e ha es.toList ps h hp, MapKept.run_setObj_map _ hb]
  rfl
theorem run_lookup {mt t te e : TypeId} (hmt : Yba.prog.underlying mt = some (.map t te)) (ht : PtrTo t e) {w : World} {M : Nat} {ps : List (Nat × Value)} (h : MapIs w M ps) (a : Nat) (v : Value) (ha : Tag w a e) (hp : ∀ p ∈ ps, Tag w p.1 e) (hm : (a, v) ∈ ps) (hn : (ps.map (·.1)).Nodup) :
    (Instr.lookup mt (.map (some M)) (pt a) true).run Yba.prog w = .ok (.tuple #[v, .bool true]) w := by
  obtain ⟨es, c, hb, h⟩ := h
  obtain ⟨j, hf⟩ := find_some ht w a e v ha es.toList ps h hp hm hn
  simp only [Instr.lookup, Sem.run_bind, run_underlying hmt, Result.andThen_ok, MapKept.run_getObj_map hb, check_ptr ht, hf, Sem.run_pure]
  rfl
end Go.Proofs.Ybulkedqq
