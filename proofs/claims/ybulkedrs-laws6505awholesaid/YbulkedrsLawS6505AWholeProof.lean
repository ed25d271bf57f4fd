/-
  THE PROOF OF 'Rows.LawS6505AWholeSaid' (catalogue.LawS6505AWhole). The walks lie in YbulkedrsLawA, LawA0, LawA1; here the row.
-/
import Derived.Test.YbulkedrsRows
import Derived.Test.YbulkedrsLawA
import Derived.Test.YbulkedrsLawA0
import Derived.Test.YbulkedrsLawA1
import Derived.ProofKit
import Derived.OpenShut
import Derived.ShutString
import Derived.ChangeOld
import Derived.Deep.Slices
import Derived.Deep.Strs
namespace Go.Proofs.Ybulkedrs.lawS6505AWhole
open Go.ChangeShapes Go.WideShapes Go.ChangeAt Go.RowKit Go.Deep
open Go.ChangeMaps (open_string shut_string)

theorem own : ownKnob Yba.prog.godebug = none := by kernel_rfl
theorem laidOut : laidOutB Yba.prog = true := by kernel_rfl
theorem cells24 : Yba.prog.cellsOf 24 = 3 := by kernel_rfl
theorem cells9 : Yba.prog.cellsOf 9 = 1 := by kernel_rfl

/-- WHAT THE WALK IS TOLD OF THE SLICE OF ROLES. -/
def IsRoles (w : World) (ao : Option Addr) (len : Nat) (b off : Nat) (N K T : Nat → ByteArray) : Prop :=
  (0 < len → ao = some ⟨b, off, none⟩) ∧ (0 < len → b < w.heap.size) ∧ ∀ i, i < len →
    w.cell? ⟨b, off + i * 3, none⟩ = some (.string (N i)) ∧ w.cell? ⟨b, off + i * 3 + 1, none⟩ = some (.string (K i)) ∧ w.cell? ⟨b, off + i * 3 + 2, none⟩ = some (.string (T i))

theorem open_roles {H : Type} {enc : TypeId × Value → H} {W : World} {ao : Option Addr} {len cap : Nat} {d : DataW H} {p : List MemPlace}
    (h : DataW.Trod enc Yba.prog W 0 (fun _ => true) true 22 (.slice ao len cap) d p) : ∃ b off N K T, IsRoles W ao len b off N K T := by
  obtain ⟨fuel, hf⟩ := h
  rcases open_slice Yba.underlying22 hf with ⟨h0, _⟩ | ⟨a, l, c, m, n, D, Pl, hcs, _, hlc, _, hm, _, hx⟩
  · simp [Value.cells] at h0
    obtain ⟨rfl, rfl, rfl⟩ := h0
    exact ⟨0, 0, fun _ => ByteArray.empty, fun _ => ByteArray.empty, fun _ => ByteArray.empty, fun h => by omega, fun h => by omega, fun i hi => by omega⟩
  · simp [Value.cells] at hcs
    obtain ⟨rfl, rfl, rfl⟩ := hcs
    rw [cells24] at hx
    simp only [if_true] at hm
    subst hm
    have key : ∀ i, i < len → ∃ x : ByteArray × ByteArray × ByteArray, W.cell? (a.add (i * 3)) = some (.string x.1) ∧ W.cell? ((a.add (i * 3)).add 1) = some (.string x.2.1) ∧ W.cell? ((a.add (i * 3)).add 2) = some (.string x.2.2) := by
      intro i hi
      obtain ⟨cs', h1, h2⟩ := hx i (by omega)
      obtain ⟨_, hlen, hget⟩ := World.cells?_some h1
      obtain ⟨y0, y1, y2, n', _, _, q0, q1, q2⟩ := trod_struct3 Yba.underlying24 h2
      obtain ⟨s0, e0, _⟩ := DataW.trod_string Yba.underlying9 q0
      obtain ⟨s1, e1, _⟩ := DataW.trod_string Yba.underlying9 q1
      obtain ⟨s2, e2, _⟩ := DataW.trod_string Yba.underlying9 q2
      simp only [cells9] at e0 e1 e2
      have g0 : cs'[0]? = some (.string s0) := by
        have := congrArg (fun l : List Value => l[0]?) e0
        simpa [List.getElem?_take] using this
      have g1 : cs'[1]? = some (.string s1) := by
        have := congrArg (fun l : List Value => l[0]?) e1
        simpa [List.getElem?_take] using this
      have g2 : cs'[2]? = some (.string s2) := by
        have := congrArg (fun l : List Value => l[0]?) e2
        simpa [List.getElem?_take] using this
      refine ⟨(s0, s1, s2), ?_, ?_, ?_⟩
      · have := hget 0 (by omega)
        rw [g0] at this
        simpa [Addr.add] using this
      · rw [hget 1 (by omega), g1]
      · rw [hget 2 (by omega), g2]
    obtain ⟨F, hF⟩ := choose_lt (p := fun i (x : ByteArray × ByteArray × ByteArray) => W.cell? (a.add (i * 3)) = some (.string x.1) ∧ W.cell? ((a.add (i * 3)).add 1) = some (.string x.2.1) ∧ W.cell? ((a.add (i * 3)).add 2) = some (.string x.2.2)) key
    obtain ⟨b, off, spot⟩ := a
    refine ⟨b, off, fun i => (F i).1, fun i => (F i).2.1, fun i => (F i).2.2, ?_, ?_, ?_⟩
    · intro h0
      have hc := (hF 0 h0).1
      have hspot : spot = none := by simpa [Addr.add] using World.cell?_spot hc
      subst hspot
      rfl
    · intro h0
      have hc := (hF 0 h0).1
      simpa [Addr.add] using World.block_lt_of_cell? _ _ hc
    · intro i hi
      have hc := (hF 0 (by omega)).1
      have hspot : spot = none := by simpa [Addr.add] using World.cell?_spot hc
      subst hspot
      have e : ∀ (o j : Nat), (⟨b, o, none⟩ : Addr).add j = ⟨b, o + j, none⟩ := fun o j => by unfold Addr.add; split <;> simp_all
      obtain ⟨h1, h2, h3⟩ := hF i hi
      simp only [e] at h1 h2 h3
      exact ⟨h1, h2, h3⟩

theorem walk (ao : Option Addr) (len cap b off : Nat) (N K T : Nat → ByteArray) (nm : ByteArray) (pk : Int) (w : World) (h : IsRoles w ao len b off N K T) (w2 : (Lit.int .u8 pk).wf = true) :
    Calls Yba.prog 3 #[.slice ao len cap, .string nm, .int .u8 pk] w fun e w' => e = .returned (.bool true) ∧ Below w.heap.size w w' := by
  obtain ⟨p0, p1⟩ := bounds_u8 w2
  obtain ⟨hao, hb, hc⟩ := h
  by_cases hbig : 1048576 < len
  · exact lawA_big ao len cap nm pk w hbig
  · cases hpk : (pk % 2 == 0) with
    | false => exact lawA_plain ao b off len cap N K T nm pk w (by omega) hao hb p0 p1 hpk (fun i hi => (hc i hi).1) (fun i hi => (hc i hi).2.1) (fun i hi => (hc i hi).2.2)
    | true =>
      by_cases hlen : 0 < len
      · exact lawA_pick ao b off len cap N K T nm pk w (by omega) hao hb p0 p1 hpk hlen (fun i hi => (hc i hi).1) (fun i hi => (hc i hi).2.1) (fun i hi => (hc i hi).2.2)
      · exact lawA_none ao b off len cap N K T nm pk w (by omega) hao hb p0 p1 hpk (by omega) (fun i hi => (hc i hi).1) (fun i hi => (hc i hi).2.1) (fun i hi => (hc i hi).2.2)

set_option maxRecDepth 100000 in
theorem lifted (os : Os) (started : os.Started) (H : Type) (enc : TypeId × Value → H) :
    ReturnsInHanded {} Yba.checked os 3 .any (Rows.lawS6505AWholeSpec.pre6 enc Yba.prog Yba.f3 Rows.lawS6505AWholeRow.domain false) (Rows.lawS6505AWholeSpec.post enc Yba.prog Yba.f3 false true false false) := by
  refine returnsInHanded_of_change (C := Yba.checked) own started (by kernel_rfl) Yba.func3
    (ChangeSpec.witness6 (enc := enc) (C := Yba.checked) false ⟨#[], #[.slice none 0 0, .string ByteArray.empty, .int .u8 0], []⟩ 8 (by kernel_rfl) (by kernel_rfl) (by kernel_rfl) (by kernel_rfl)) ?_
  intro W base args ds gs before hval0 hW hcnd _
  have hval : ∀ (j : Nat) t v, Yba.f3.params[j]? = some t → args[j]? = some v → Value.okWide Yba.prog W .any base t v := hval0
  have hW' := hW
  obtain ⟨p, q, hA0, hV, rfl, hfz, hnd⟩ := hW
  have hA : DataW.TrodAll enc Yba.prog W 0 (fun _ => true) true Yba.f3.params.toList args.toList ds p := hA0
  rw [Yba.params3] at hA hval
  obtain ⟨v0, vs0, d0, ds0, p0, q0, hargs, rfl, rfl, h0, r0⟩ := trodAll_cons hA
  obtain ⟨v1, vs1, d1, ds1, p1, q1, rfl, rfl, rfl, h1, r1⟩ := trodAll_cons r0
  obtain ⟨v2, vs2, d2, ds2, p2, q2, rfl, rfl, rfl, h2, r2⟩ := trodAll_cons r1
  obtain ⟨rfl, rfl, rfl⟩ := trodAll_nil r2
  obtain rfl : args = #[v0, v1, v2] := by cases args; simp_all
  obtain ⟨rfl, rfl⟩ := trodVars_none hV
  obtain ⟨a0, len0, cap0, rfl⟩ := okWide_slice Yba.underlying22 (hval 0 22 v0 rfl rfl)
  have k0 := h0
  have lt0 : ∀ x ∈ p0, x.block < W.heap.size := by obtain ⟨m, hm⟩ := k0; exact DataW.trod_lt m _ _ _ hm
  obtain ⟨b, off, N, K, T, hR⟩ := open_roles h0
  obtain ⟨a1, rfl, rfl, rfl, w1⟩ := open_string Yba.underlying9 (hval 1 9 v1 rfl rfl) h1
  obtain ⟨a2, rfl, rfl, rfl, w2⟩ := open_int Yba.underlying5 (hval 2 5 v2 rfl rfl) h2
  clear hA0 hval0
  refine (walk a0 len0 cap0 b off N K T a1 a2 W hR w2).mono fun e W' ⟨he, bel⟩ => ?_
  subst he
  exact ⟨_, rfl, _, _, _, [], _, [], hW', trodAll_mk1 (shut_bool Yba.underlying4 _), (trodAll_cons_mk (Below.trod laidOut (by kernel_rfl) (of_decide_eq_true (by kernel_rfl)) k0 bel lt0) (trodAll_cons_mk (shut_string Yba.underlying9 w1) (trodAll_cons_mk (shut_int Yba.underlying5 w2) trodAll_mk0))), rfl, bel.frame _, fun h => by cases h⟩

theorem over : Rows.lawS6505AWholeRow.holds Yba.pinned (OpenSpec.ofChange Rows.lawS6505AWholeSpec) :=
  OpenClaim.holds_of_wide 3 Yba.f3 rfl rfl rfl rfl rfl rfl rfl ⟨rfl, rfl, rfl, rfl, rfl⟩ rfl rfl rfl rfl rfl (by kernel_rfl) Yba.func3 (by kernel_rfl)
    (of_decide_eq_true (by kernel_rfl)) (by unfold Func.isWrapper; first | (rw [if_pos (by decide +kernel)]; kernel_rfl) | (rw [if_neg (by decide +kernel)]; exact ⟨rfl, rfl⟩))
    (fun os started H enc _ => lifted os started H enc)

theorem proved : Rows.LawS6505AWholeSaid := over
end Go.Proofs.Ybulkedrs.lawS6505AWhole
