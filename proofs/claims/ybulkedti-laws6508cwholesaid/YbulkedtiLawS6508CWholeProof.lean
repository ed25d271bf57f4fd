/-
  THE PROOF OF 'Rows.LawS6508CWholeSaid' (headroom.LawS6508CWhole). The walk lies in YbulkedtiFree; here the row.
-/
import Derived.Test.YbulkedtiRows
import Derived.Test.YbulkedtiFree
import Derived.ProofKit
import Derived.OpenShut
import Derived.ChangeOld
namespace Go.Proofs.Ybulkedti.lawS6508CWhole
open Go.ChangeShapes Go.WideShapes Go.ChangeAt Go.RowKit

theorem own : ownKnob Yba.prog.godebug = none := by kernel_rfl
theorem laidOut : laidOutB Yba.prog = true := by kernel_rfl
theorem cells43 : Yba.prog.cellsOf 43 = 257 := by kernel_rfl
theorem cells4 : Yba.prog.cellsOf 4 = 1 := by kernel_rfl

def boolOf : Value → Bool
  | .bool b => b
  | _ => true

/-- THE ARRAY, OPENED: 257 bools. -/
theorem open_bools {H : Type} {enc : TypeId × Value → H} {W : World} {r : Reach} {b0 base : Nat} {sp : Nat → Bool} {held : Bool} {v : Value} {d : DataW H} {p : List MemPlace}
    (hv : Value.okWide Yba.prog W r b0 43 v) (h : DataW.Trod enc Yba.prog W base sp held 43 v d p) : ∃ bs : List Bool, v = .agg (bcells bs) ∧ bs.length = 257 := by
  unfold Value.okWide at hv
  rw [Yba.underlying43] at hv
  obtain ⟨cs, rfl, hsz, _⟩ := hv
  rw [cells43] at hsz
  obtain ⟨fuel, hf⟩ := h
  obtain ⟨xs, m, _, _, _, hxl, hget⟩ := DataW.trod_array Yba.underlying43 hf
  rw [cells4] at hget
  have key : ∀ i, i < 257 → ∃ b, cs[i]? = some (.bool b) := by
    intro i hi
    have h1 := hget i hi
    rw [List.getElem?_eq_getElem (by omega)] at h1
    obtain ⟨b, hb, _⟩ := DataW.trod_bool Yba.underlying4 h1
    refine ⟨b, ?_⟩
    have h2 : ((Value.agg cs).cells.toList.drop (i * 1))[0]? = some (.bool b) := by
      have := congrArg (fun l : List Value => l[0]?) hb
      simpa [List.getElem?_take] using this
    simpa [Value.cells] using h2
  refine ⟨cs.toList.map boolOf, ?_, by simpa using hsz⟩
  congr 1
  apply Array.ext_getElem?
  intro i
  by_cases hi : i < 257
  · obtain ⟨b, hb⟩ := key i hi
    simp [bcells, hb, boolOf]
  · rw [Array.getElem?_eq_none (by omega), Array.getElem?_eq_none (by simp [bcells]; omega)]

theorem walk (bs : List Bool) (hl : bs.length = 257) (a1 : Int) (w1 : (Lit.int .u16 a1).wf = true) (w : World) :
    Calls Yba.prog 4 #[.agg (bcells bs), .int .u16 a1] w fun e w' => e = .returned (.bool true) ∧ Below w.heap.size w w' := by
  obtain ⟨h0, h1⟩ := bounds_u16 w1
  exact lawC bs hl a1 h0 h1 w

set_option maxRecDepth 100000 in
theorem lifted (os : Os) (started : os.Started) (H : Type) (enc : TypeId × Value → H) :
    ReturnsInHanded {} Yba.checked os 4 .any (Rows.lawS6508CWholeSpec.pre6 enc Yba.prog Yba.f4 Rows.lawS6508CWholeRow.domain false) (Rows.lawS6508CWholeSpec.post enc Yba.prog Yba.f4 false true false false) := by
  refine returnsInHanded_of_change (C := Yba.checked) own started (by kernel_rfl) Yba.func4
    (ChangeSpec.witness6 (enc := enc) (C := Yba.checked) false ⟨#[], #[.agg (Array.replicate 257 (.bool false)), .int .u16 0], []⟩ 8 (by kernel_rfl) (by kernel_rfl) (by kernel_rfl) (by kernel_rfl)) ?_
  intro W base args ds gs before hval0 hW hcnd _
  have hval : ∀ (j : Nat) t v, Yba.f4.params[j]? = some t → args[j]? = some v → Value.okWide Yba.prog W .any base t v := hval0
  have hW' := hW
  obtain ⟨p, q, hA0, hV, rfl, hfz, hnd⟩ := hW
  have hA : DataW.TrodAll enc Yba.prog W 0 (fun _ => true) true Yba.f4.params.toList args.toList ds p := hA0
  rw [Yba.params4] at hA hval
  obtain ⟨v0, vs0, d0, ds0, p0, q0, hargs, rfl, rfl, h0, r0⟩ := trodAll_cons hA
  obtain ⟨v1, vs1, d1, ds1, p1, q1, rfl, rfl, rfl, h1, r1⟩ := trodAll_cons r0
  obtain ⟨rfl, rfl, rfl⟩ := trodAll_nil r1
  obtain rfl : args = #[v0, v1] := by cases args; simp_all
  obtain ⟨rfl, rfl⟩ := trodVars_none hV
  have k0 := h0
  have lt0 : ∀ x ∈ p0, x.block < W.heap.size := by obtain ⟨m, hm⟩ := k0; exact DataW.trod_lt m _ _ _ hm
  obtain ⟨bs, hbs, hl⟩ := open_bools (hval 0 43 v0 rfl rfl) h0
  subst hbs
  obtain ⟨a1, rfl, rfl, rfl, w1⟩ := open_int Yba.underlying24 (hval 1 24 v1 rfl rfl) h1
  clear hA0 hval0
  refine (walk bs hl a1 w1 W).mono fun e W' ⟨he, bel⟩ => ?_
  subst he
  exact ⟨_, rfl, _, _, _, [], _, [], hW', trodAll_mk1 (shut_bool Yba.underlying4 _), (trodAll_cons_mk (Below.trod laidOut (by kernel_rfl) (of_decide_eq_true (by kernel_rfl)) k0 bel lt0) (trodAll_cons_mk (shut_int Yba.underlying24 w1) trodAll_mk0)), rfl, bel.frame _, fun h => by cases h⟩

theorem over : Rows.lawS6508CWholeRow.holds Yba.pinned (OpenSpec.ofChange Rows.lawS6508CWholeSpec) :=
  OpenClaim.holds_of_wide 4 Yba.f4 rfl rfl rfl rfl rfl rfl rfl ⟨rfl, rfl, rfl, rfl, rfl⟩ rfl rfl rfl rfl rfl (by kernel_rfl) Yba.func4 (by kernel_rfl)
    (of_decide_eq_true (by kernel_rfl)) (by unfold Func.isWrapper; first | (rw [if_pos (by decide +kernel)]; kernel_rfl) | (rw [if_neg (by decide +kernel)]; exact ⟨rfl, rfl⟩))
    (fun os started H enc _ => lifted os started H enc)

theorem proved : Rows.LawS6508CWholeSaid := over
end Go.Proofs.Ybulkedti.lawS6508CWhole
