import Derived.Test.YbulkedrsRole
import Derived.LaidEql
namespace Go.Proofs.Ybulkedrs
open Go.RowKit

theorem Yba.info35 : (Yba.prog.info? 35).map (fun i => (i.zero, i.size, i.bytes)) = some (some (.agg #[.string ⟨#[]⟩, .string ⟨#[]⟩, .string ⟨#[]⟩]), 3, 48) := by kernel_rfl

/-- THE ROW OF ROLES THAT THE CALL MAKES: block G, of len elements; the first k are filled. -/
def Rd (w : World) (G len k : Nat) (N K T : Nat → ByteArray) : Prop :=
  ∃ cur : Array Value, w.heap[G]? = some (.cells cur 35 (0, 0)) ∧ cur.size = len * 3 ∧ ∀ i, i < k → cur[i * 3]? = some (.string (N i)) ∧ cur[i * 3 + 1]? = some (.string (K i)) ∧ cur[i * 3 + 2]? = some (.string (T i))

theorem Rd.cellN {w : World} {G len k : Nat} {N K T : Nat → ByteArray} (h : Rd w G len k N K T) {i : Nat} (hi : i < k) :
    w.cell? ⟨G, i * 3, none⟩ = some (.string (N i)) ∧ w.cell? ⟨G, i * 3 + 1, none⟩ = some (.string (K i)) ∧ w.cell? ⟨G, i * 3 + 2, none⟩ = some (.string (T i)) := by
  obtain ⟨cur, hg, hs, hc⟩ := h
  obtain ⟨h1, h2, h3⟩ := hc i hi
  exact ⟨(cell_of_row w G _ cur _ _ hg).trans h1, (cell_of_row w G _ cur _ _ hg).trans h2, (cell_of_row w G _ cur _ _ hg).trans h3⟩

theorem Rd.there {w : World} {G len k : Nat} {N K T : Nat → ByteArray} (h : Rd w G len k N K T) {i : Nat} (hi : i < len) :
    (∃ v, w.cell? ⟨G, i * 3, none⟩ = some v) ∧ (∃ v, w.cell? ⟨G, i * 3 + 1, none⟩ = some v) ∧ (∃ v, w.cell? ⟨G, i * 3 + 2, none⟩ = some v) ∧ ∀ j, w.frozen? ⟨G, j, none⟩ = false := by
  obtain ⟨cur, hg, hs, hc⟩ := h
  have key : ∀ j, j < len * 3 → ∃ v, w.cell? ⟨G, j, none⟩ = some v := fun j hj => ⟨cur[j], by rw [cell_of_row w G _ cur _ _ hg]; exact Array.getElem?_eq_getElem (by omega)⟩
  exact ⟨key _ (by omega), key _ (by omega), key _ (by omega), fun j => frozen_of_row w G j cur _ hg⟩

theorem Rd.step {w w' : World} {G len k : Nat} {N K T : Nat → ByteArray} (h : Rd w G len k N K T) (hk : k < len)
    (hw : w'.heap = (((w.setCell ⟨G, k * 3, none⟩ (.string (N k))).setCell ⟨G, k * 3 + 1, none⟩ (.string (K k))).setCell ⟨G, k * 3 + 2, none⟩ (.string (T k))).heap) : Rd w' G len (k + 1) N K T := by
  obtain ⟨cur, hg, hs, hc⟩ := h
  have h1 := heap_setCell_same w G (k * 3) cur _ (.string (N k)) hg
  have h2 := heap_setCell_same _ G (k * 3 + 1) _ _ (.string (K k)) h1
  have h3 := heap_setCell_same _ G (k * 3 + 2) _ _ (.string (T k)) h2
  refine ⟨_, by rw [hw]; exact h3, by simpa using hs, fun i hi => ?_⟩
  by_cases hik : i = k
  · subst hik
    refine ⟨?_, ?_, ?_⟩
    · rw [Array.getElem?_setIfInBounds_ne (by omega), Array.getElem?_setIfInBounds_ne (by omega), Array.getElem?_setIfInBounds_self_of_lt (by omega)]
    · rw [Array.getElem?_setIfInBounds_ne (by omega), Array.getElem?_setIfInBounds_self_of_lt (by simp; omega)]
    · rw [Array.getElem?_setIfInBounds_self_of_lt (by simp; omega)]
  · obtain ⟨q1, q2, q3⟩ := hc i (by omega)
    refine ⟨?_, ?_, ?_⟩
    · rw [Array.getElem?_setIfInBounds_ne (by omega), Array.getElem?_setIfInBounds_ne (by omega), Array.getElem?_setIfInBounds_ne (by omega)]; exact q1
    · rw [Array.getElem?_setIfInBounds_ne (by omega), Array.getElem?_setIfInBounds_ne (by omega), Array.getElem?_setIfInBounds_ne (by omega)]; exact q2
    · rw [Array.getElem?_setIfInBounds_ne (by omega), Array.getElem?_setIfInBounds_ne (by omega), Array.getElem?_setIfInBounds_ne (by omega)]; exact q3

theorem Rd.same {w w' : World} {G len k : Nat} {N K T : Nat → ByteArray} (h : Rd w G len k N K T) (hw : w'.heap[G]? = w.heap[G]?) : Rd w' G len k N K T := by
  obtain ⟨cur, hg, r⟩ := h
  exact ⟨cur, hw.trans hg, r⟩

def wantOf : Option Nat → Int
  | none => -1
  | some j => j

theorem neq_ptr_same {tp te : TypeId} {P : Program} {j : TypeInfo} (hp : P.underlying tp = some (.pointer te)) (hte : P.info? te = some j) (a : Addr) (w : World) :
    (binOp .neq tp (.pointer (some a)) (.pointer (some a))).run P w = .ok (.bool false) w := by
  have h : ∀ d : Nat, (Op.equalIn (d + 1) tp (.pointer (some a)) (.pointer (some a))).run P w = .ok true w := fun d => by
    simp [Op.equalIn, run_underlying hp, sizeOf, typeInfo, hte, run_sameAddr_same]
  simp only [binOp]
  simp [Op.equal, Op.maxDepth, h 9999]
theorem some_info {t : TypeId} (h : (Yba.prog.info? t).isSome = true) : ∃ i, Yba.prog.info? t = some i := Option.isSome_iff_exists.1 h

theorem cell_three {w : World} {G i j k : Nat} {x y z : Value} {a : Addr} (h : a.block ≠ G) : (((w.setCell ⟨G, i, none⟩ x).setCell ⟨G, j, none⟩ y).setCell ⟨G, k, none⟩ z).cell? a = w.cell? a := by
  have e : ∀ (w : World) (i : Nat) (x : Value), (w.setCell ⟨G, i, none⟩ x).cell? a = w.cell? a := fun w i x => World.cell?_of_block (Below.heap_setCell w ⟨G, i, none⟩ x a.block h)
  rw [e, e, e]

end Go.Proofs.Ybulkedrs
