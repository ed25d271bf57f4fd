import Derived.Test.YbulkedrsSess
import Derived.Deep.RegionHeld3
import Derived.Deep.AppendLies
import Derived.Deep.DrawnRows
import Derived.Laws.CopyOwn
import Derived.LaidEql
namespace Go.Proofs.Ybulkedrs
open Go.RowKit

/-- Is the block a row of cells of one of the types T? -/
def tagged (T : List Nat) : Obj → Bool
  | .cells _ e _ => T.contains e
  | _ => false

/-- Every block of w that is no row of cells of a type of T is in w' as it was. -/
def Keep (T : List Nat) (w w' : World) : Prop := w.heap.size ≤ w'.heap.size ∧ ∀ (k : Nat) (o : Obj), w.heap[k]? = some o → tagged T o = false → w'.heap[k]? = some o

theorem Keep.refl (T : List Nat) (w : World) : Keep T w w := ⟨Nat.le_refl _, fun _ _ h _ => h⟩
theorem Keep.trans {T : List Nat} {a b c : World} (h : Keep T a b) (k : Keep T b c) : Keep T a c :=
  ⟨Nat.le_trans h.1 k.1, fun i o ho ht => k.2 i o (h.2 i o ho ht) ht⟩
theorem Keep.of_below {T : List Nat} {w w' : World} (h : Below w.heap.size w w') : Keep T w w' :=
  ⟨h.size, fun k o ho _ => by rw [h.block k (Array.getElem?_eq_some_iff.1 ho).1]; exact ho⟩
theorem Keep.alloc {T : List Nat} {a w : World} (h : Keep T a w) (o : Obj) : Keep T a (w.alloc o) :=
  h.trans (Keep.of_below ((Below.refl _ _).alloc (Nat.le_refl _) o))
theorem Keep.drew {T : List Nat} {a w : World} (h : Keep T a w) : Keep T a w.drew := h
theorem Keep.setCell {T : List Nat} {a w : World} (h : Keep T a w) {p : Addr} {cs : Array Value} {e : TypeId} {fr : Nat × Nat} (hp : w.heap[p.block]? = some (.cells cs e fr)) (he : T.contains e = true) (v : Value) : Keep T a (w.setCell p v) := by
  refine h.trans ⟨by simp [World.setCell], fun k o ho ht => ?_⟩
  have hk : k ≠ p.block := by
    intro hk
    rw [hk, hp] at ho
    cases ho
    simp [tagged] at ht
    simp [ht] at he
  rw [Below.heap_setCell _ _ _ _ hk]
  exact ho
theorem Keep.grown {T : List Nat} {a w w' : World} {B e size n : Nat} {v : Value} {xs : List Value} (h : Keep T a w) (hg : w.grownBy w' v.ownBlock) (hown : w.ownsRow B e size v n xs) (he : T.contains e = true) : Keep T a w' := by
  refine h.trans ⟨hg.size, fun k o ho ht => ?_⟩
  have hlt := (Array.getElem?_eq_some_iff.1 ho).1
  rw [hg.block k hlt ?_]
  · exact ho
  · intro hk
    rcases hown.2 with ⟨rfl, _⟩ | ⟨g, cap, cur, rfl, _, hgg, _⟩
    · simp [Value.ownBlock] at hk
    · simp [Value.ownBlock] at hk
      rw [hk, hgg] at ho
      cases ho
      simp [tagged] at ht
      simp [ht] at he

theorem ownsRow_keep {T : List Nat} {w w' : World} {B e size n : Nat} {v : Value} {xs : List Value} (h : w.ownsRow B e size v n xs) (hk : Keep T w w') (he : T.contains e = false) : w'.ownsRow B e size v n xs := by
  refine ⟨h.1, ?_⟩
  rcases h.2 with hn | ⟨g, cap, cur, hv, hb, hg, r⟩
  · exact .inl hn
  · exact .inr ⟨g, cap, cur, hv, hb, hk.2 g _ hg (by simpa [tagged] using he), r⟩

def pt (g : Nat) : Value := .pointer (some ⟨g, 0, none⟩)

/-- A dialog lies in block g. -/
def Dl (w : World) (g : Nat) (x : Int) : Prop := ∃ cs : Array Value, w.heap[g]? = some (.cells cs 86 (0, 0)) ∧ cs[37]? = some (.string (stS x))
theorem Dl.keep {T : List Nat} {w w' : World} {g : Nat} {x : Int} (h : Dl w g x) (hk : Keep T w w') (he : T.contains 86 = false) : Dl w' g x := by
  obtain ⟨cs, h1, h2⟩ := h
  exact ⟨cs, hk.2 g _ h1 (by simpa [tagged] using he), h2⟩
theorem Dl.cell {w : World} {g : Nat} {x : Int} (h : Dl w g x) : DlC w g x := by
  obtain ⟨cs, h1, h2⟩ := h
  exact (cell_of_row w g 37 cs _ _ h1).trans h2
/-- A client lies in block g. -/
def Cl (w : World) (g : Nat) (m p : Int) (f x : Bool) : Prop :=
  ∃ (cs : Array Value) (pv : Option Nat) (fv : Option Addr), w.heap[g]? = some (.cells cs 94 (0, 0)) ∧ cs[6]? = some (.string (mtS m)) ∧ cs[13]? = some (.map pv) ∧ cs[14]? = some (.pointer fv) ∧ cs[15]? = some (.bool x) ∧ fv.isSome = f ∧
    ((p % 4 = 0 ∧ pv = none) ∨ ∃ mb es c, pv = some mb ∧ w.heap[mb]? = some (.map es c) ∧ (es.size : Int) = p % 4 ∧ 0 < p % 4)
theorem Cl.keep {T : List Nat} {w w' : World} {g : Nat} {m p : Int} {f x : Bool} (h : Cl w g m p f x) (hk : Keep T w w') (he : T.contains 94 = false) : Cl w' g m p f x := by
  obtain ⟨cs, pv, fv, h1, h2, h3, h4, h5, h6, h7⟩ := h
  refine ⟨cs, pv, fv, hk.2 g _ h1 (by simpa [tagged] using he), h2, h3, h4, h5, h6, ?_⟩
  rcases h7 with h7 | ⟨mb, es, c, q1, q2, q3⟩
  · exact .inl h7
  · exact .inr ⟨mb, es, c, q1, hk.2 mb _ q2 rfl, q3⟩
theorem Cl.cell {w : World} {g : Nat} {m p : Int} {f x : Bool} (h : Cl w g m p f x) : ClC w g m p f x := by
  obtain ⟨cs, pv, fv, h1, h2, h3, h4, h5, h6, h7⟩ := h
  have e := fun j => cell_of_row w g j cs _ _ h1
  refine ⟨(e 6).trans h2, (e 15).trans h5, ⟨fv, (e 14).trans h4, h6⟩, ?_⟩
  rcases h7 with ⟨h7, rfl⟩ | ⟨mb, es, c, rfl, q2, q3⟩
  · exact .inl ⟨h7, (e 13).trans h3⟩
  · exact .inr ⟨mb, es, c, (e 13).trans h3, q2, q3⟩

/-- The run's struct in block R: its two lists. -/
def RunAt (w : World) (R : Nat) (vd vc : Value) : Prop := ∃ rc : Array Value, w.heap[R]? = some (.cells rc 64 (0, 0)) ∧ rc.size = 23 ∧ rc[12]? = some vd ∧ rc[10]? = some vc
theorem RunAt.cells {w : World} {R : Nat} {vd vc : Value} (h : RunAt w R vd vc) : w.cell? ⟨R, 12, none⟩ = some vd ∧ w.cell? ⟨R, 10, none⟩ = some vc ∧ (∀ j, w.frozen? ⟨R, j, none⟩ = false) ∧ R < w.heap.size := by
  obtain ⟨rc, h1, _, h2, h3⟩ := h
  exact ⟨(cell_of_row w R 12 rc _ _ h1).trans h2, (cell_of_row w R 10 rc _ _ h1).trans h3, fun j => frozen_of_row w R j rc _ h1, (Array.getElem?_eq_some_iff.1 h1).1⟩
theorem RunAt.same {w w' : World} {R : Nat} {vd vc : Value} (h : RunAt w R vd vc) (hw : w'.heap[R]? = w.heap[R]?) : RunAt w' R vd vc := by
  obtain ⟨rc, h1, r⟩ := h
  exact ⟨rc, hw.trans h1, r⟩
theorem RunAt.keep {T : List Nat} {w w' : World} {R : Nat} {vd vc : Value} (h : RunAt w R vd vc) (hk : Keep T w w') (he : T.contains 64 = false) : RunAt w' R vd vc := by
  obtain ⟨rc, h1, r⟩ := h
  exact ⟨rc, hk.2 R _ h1 (by simpa [tagged] using he), r⟩
theorem RunAt.set12 {w : World} {R : Nat} {vd vc : Value} (h : RunAt w R vd vc) (v : Value) : RunAt (w.setCell ⟨R, 12, none⟩ v) R v vc := by
  obtain ⟨rc, h1, hs, h2, h3⟩ := h
  refine ⟨_, heap_setCell_same w R 12 rc _ v h1, by simpa using hs, ?_, ?_⟩
  · rw [Array.getElem?_setIfInBounds_self_of_lt (by omega)]
  · rw [Array.getElem?_setIfInBounds_ne (by omega)]; exact h3
theorem RunAt.set10 {w : World} {R : Nat} {vd vc : Value} (h : RunAt w R vd vc) (v : Value) : RunAt (w.setCell ⟨R, 10, none⟩ v) R vd v := by
  obtain ⟨rc, h1, hs, h2, h3⟩ := h
  refine ⟨_, heap_setCell_same w R 10 rc _ v h1, by simpa using hs, ?_, ?_⟩
  · rw [Array.getElem?_setIfInBounds_ne (by omega)]; exact h2
  · rw [Array.getElem?_setIfInBounds_self_of_lt (by omega)]

/-- The slice v is the call's own row of pointers to n dialogs. -/
def Dlgs (w : World) (B : Nat) (v : Value) (n : Nat) (S : Nat → Int) : Prop :=
  ∃ l : List Nat, l.length = n ∧ w.ownsRow B 65 1 v n (l.map pt) ∧ ∀ i, i < n → Dl w (l.getD i 0) (S i)
def Clis (w : World) (B : Nat) (v : Value) (m : Nat) (M P : Nat → Int) (F X : Nat → Bool) : Prop :=
  ∃ l : List Nat, l.length = m ∧ w.ownsRow B 89 1 v m (l.map pt) ∧ ∀ i, i < m → Cl w (l.getD i 0) (M i) (P i) (F i) (X i)
theorem Dlgs.keep {T : List Nat} {w w' : World} {B n : Nat} {v : Value} {S : Nat → Int} (h : Dlgs w B v n S) (hk : Keep T w w') (h1 : T.contains 65 = false) (h2 : T.contains 86 = false) : Dlgs w' B v n S := by
  obtain ⟨l, hl, ho, hd⟩ := h
  exact ⟨l, hl, ownsRow_keep ho hk h1, fun i hi => (hd i hi).keep hk h2⟩
theorem Clis.keep {T : List Nat} {w w' : World} {B m : Nat} {v : Value} {M P : Nat → Int} {F X : Nat → Bool} (h : Clis w B v m M P F X) (hk : Keep T w w') (h1 : T.contains 89 = false) (h2 : T.contains 94 = false) : Clis w' B v m M P F X := by
  obtain ⟨l, hl, ho, hd⟩ := h
  exact ⟨l, hl, ownsRow_keep ho hk h1, fun i hi => (hd i hi).keep hk h2⟩
theorem shapeOf {w : World} {B e size n : Nat} {v : Value} {xs : List Value} (h : w.ownsRow B e size v n xs) : ∃ ao c, v = .slice ao n c := by
  rcases h.2 with ⟨rfl, rfl⟩ | ⟨g, c, _, rfl, _⟩
  · exact ⟨_, _, rfl⟩
  · exact ⟨_, _, rfl⟩

theorem Yba.info65 : (Yba.prog.info? 65).map (fun i => (i.zero, i.size, i.bytes)) = some (some (.pointer none), 1, 8) := by kernel_rfl
theorem Yba.info89 : (Yba.prog.info? 89).map (fun i => (i.zero, i.size, i.bytes)) = some (some (.pointer none), 1, 8) := by kernel_rfl
end Go.Proofs.Ybulkedrs
