/-
  THE PROOF OF 'Rows.LawS6505CWholeSaid' (live.LawS6505CWhole). The walk lies in YbulkedrsLawC; here the row.
-/
import Derived.Test.YbulkedrsRows
import Derived.Test.YbulkedrsLawC
import Derived.ProofKit
import Derived.OpenShut
import Derived.ChangeOld
import Derived.SizedLaws
import Derived.Deep.Slices
import Derived.Lib.SmallJoins
namespace Go.Proofs.Ybulkedrs.lawS6505CWhole
open Go.ChangeShapes Go.WideShapes Go.ChangeAt Go.RowKit Go.Deep Go.Joins

theorem own : ownKnob Yba.prog.godebug = none := by kernel_rfl
theorem laidOut : laidOutB Yba.prog = true := by kernel_rfl
theorem cells88 : Yba.prog.cellsOf 88 = 4 := by kernel_rfl
theorem cells5 : Yba.prog.cellsOf 5 = 1 := by kernel_rfl
theorem cells4 : Yba.prog.cellsOf 4 = 1 := by kernel_rfl
theorem bytes5 : Yba.prog.bytesOf 5 = 1 := by kernel_rfl
theorem bytes88 : Yba.prog.bytesOf 88 = 4 := by kernel_rfl

theorem add_at (b o j : Nat) : (⟨b, o, none⟩ : Addr).add j = ⟨b, o + j, none⟩ := by unfold Addr.add; split <;> simp_all

def IsStates (w : World) (ao : Option Addr) (len b off : Nat) (S : Nat → Int) : Prop :=
  (0 < len → ao = some ⟨b, off, none⟩) ∧ (0 < len → b < w.heap.size) ∧ (∀ i, i < len → w.cell? ⟨b, off + i, none⟩ = some (.int .u8 (S i))) ∧ ∀ i, 0 ≤ S i ∧ S i ≤ 255
def IsClients (w : World) (ao : Option Addr) (len b off : Nat) (M P : Nat → Int) (F X : Nat → Bool) : Prop :=
  (0 < len → ao = some ⟨b, off, none⟩) ∧ (0 < len → b < w.heap.size) ∧ (∀ i, i < len → w.cell? ⟨b, off + i * 4, none⟩ = some (.int .u8 (M i)) ∧ w.cell? ⟨b, off + i * 4 + 1, none⟩ = some (.int .u8 (P i)) ∧ w.cell? ⟨b, off + i * 4 + 2, none⟩ = some (.bool (F i)) ∧ w.cell? ⟨b, off + i * 4 + 3, none⟩ = some (.bool (X i))) ∧
    (∀ i, 0 ≤ M i ∧ M i ≤ 255) ∧ ∀ i, 0 ≤ P i ∧ P i ≤ 255

theorem open_states {H : Type} {enc : TypeId × Value → H} {W : World} {ao : Option Addr} {len cap : Nat} {d : DataW H} {p : List MemPlace}
    (h : DataW.Trod enc Yba.prog W 0 (fun _ => true) true 44 (.slice ao len cap) d p) : (∃ b off S, IsStates W ao len b off S) ∧ (len = 0 ∨ ∃ es sp, d = .slice es sp ∧ es.length = len) := by
  obtain ⟨fuel, hf⟩ := h
  rcases open_slice1 Yba.underlying44 cells5 hf with ⟨h0, _⟩ | ⟨a, l, c, m, n, V, D, Pl, hcs, _, hlc, _, hm, hx0, hx⟩
  · simp [Value.cells] at h0
    obtain ⟨rfl, rfl, rfl⟩ := h0
    exact ⟨⟨0, 0, fun _ => 0, fun h => by omega, fun h => by omega, fun i hi => by omega, fun i => by simp⟩, .inl rfl⟩
  · simp [Value.cells] at hcs
    obtain ⟨rfl, rfl, rfl⟩ := hcs
    simp only [if_true] at hm
    subst hm
    simp only [Prod.mk.injEq] at hx0
    refine ⟨?_, .inr ⟨_, _, hx0.1, by simp⟩⟩
    have key : ∀ i, i < len → ∃ x : Int, W.cell? (a.add i) = some (.int .u8 x) ∧ 0 ≤ x ∧ x ≤ 255 := by
      intro i hi
      obtain ⟨h1, h2⟩ := hx i (by omega)
      obtain ⟨x, e, _, hw⟩ := DataW.trod_int Yba.underlying5 h2
      obtain ⟨b0, b1⟩ := bounds_u8 hw
      simp at e
      exact ⟨x, by rw [h1, e], b0, b1⟩
    obtain ⟨S, hS⟩ := choose_lt (p := fun i (x : Int) => W.cell? (a.add i) = some (.int .u8 x) ∧ 0 ≤ x ∧ x ≤ 255) key
    obtain ⟨b, off, spot⟩ := a
    by_cases h0 : 0 < len
    · have hc := (hS 0 h0).1
      have hspot : spot = none := by simpa [Addr.add] using World.cell?_spot hc
      subst hspot
      refine ⟨b, off, fun i => if i < len then S i else 0, fun _ => rfl, fun _ => by simpa [Addr.add] using World.block_lt_of_cell? _ _ hc, fun i hi => ?_, fun i => ?_⟩
      · have := (hS i hi).1
        rw [add_at] at this
        simp only [hi, if_true]
        exact this
      · by_cases hi : i < len
        · simp only [hi, if_true]; exact (hS i hi).2
        · simp [hi]
    · exact ⟨0, 0, fun _ => 0, fun h => by omega, fun h => by omega, fun i hi => by omega, fun i => by simp⟩

theorem open_clients {H : Type} {enc : TypeId × Value → H} {W : World} {ao : Option Addr} {len cap : Nat} {d : DataW H} {p : List MemPlace}
    (h : DataW.Trod enc Yba.prog W 0 (fun _ => true) true 45 (.slice ao len cap) d p) : (∃ b off M P F X, IsClients W ao len b off M P F X) ∧ (len = 0 ∨ ∃ es sp, d = .slice es sp ∧ es.length = len) := by
  obtain ⟨fuel, hf⟩ := h
  rcases open_slice Yba.underlying45 hf with ⟨h0, _⟩ | ⟨a, l, c, m, n, D, Pl, hcs, _, hlc, _, hm, hx0, hx⟩
  · simp [Value.cells] at h0
    obtain ⟨rfl, rfl, rfl⟩ := h0
    exact ⟨⟨0, 0, fun _ => 0, fun _ => 0, fun _ => false, fun _ => false, fun h => by omega, fun h => by omega, fun i hi => by omega, fun i => by simp, fun i => by simp⟩, .inl rfl⟩
  · simp [Value.cells] at hcs
    obtain ⟨rfl, rfl, rfl⟩ := hcs
    rw [cells88] at hx
    simp only [if_true] at hm
    subst hm
    simp only [Prod.mk.injEq] at hx0
    refine ⟨?_, .inr ⟨_, _, hx0.1, by simp⟩⟩
    have key : ∀ i, i < len → ∃ x : Int × Int × Bool × Bool, W.cell? (a.add (i * 4)) = some (.int .u8 x.1) ∧ W.cell? ((a.add (i * 4)).add 1) = some (.int .u8 x.2.1) ∧ W.cell? ((a.add (i * 4)).add 2) = some (.bool x.2.2.1) ∧ W.cell? ((a.add (i * 4)).add 3) = some (.bool x.2.2.2) ∧
        (0 ≤ x.1 ∧ x.1 ≤ 255) ∧ 0 ≤ x.2.1 ∧ x.2.1 ≤ 255 := by
      intro i hi
      obtain ⟨cs', h1, h2⟩ := hx i (by omega)
      obtain ⟨_, hlen, hget⟩ := World.cells?_some h1
      obtain ⟨y0, y1, y2, y3, n', _, _, q0, q1, q2, q3⟩ := trod_struct4 Yba.underlying88 h2
      obtain ⟨s0, e0, _, w0⟩ := DataW.trod_int Yba.underlying5 q0
      obtain ⟨s1, e1, _, w1⟩ := DataW.trod_int Yba.underlying5 q1
      obtain ⟨s2, e2, _⟩ := DataW.trod_bool Yba.underlying4 q2
      obtain ⟨s3, e3, _⟩ := DataW.trod_bool Yba.underlying4 q3
      simp only [cells5, cells4] at e0 e1 e2 e3
      have g0 : cs'[0]? = some (.int .u8 s0) := by
        have := congrArg (fun l : List Value => l[0]?) e0
        simpa [List.getElem?_take] using this
      have g1 : cs'[1]? = some (.int .u8 s1) := by
        have := congrArg (fun l : List Value => l[0]?) e1
        simpa [List.getElem?_take] using this
      have g2 : cs'[2]? = some (.bool s2) := by
        have := congrArg (fun l : List Value => l[0]?) e2
        simpa [List.getElem?_take] using this
      have g3 : cs'[3]? = some (.bool s3) := by
        have := congrArg (fun l : List Value => l[0]?) e3
        simpa [List.getElem?_take] using this
      refine ⟨(s0, s1, s2, s3), ?_, ?_, ?_, ?_, bounds_u8 w0, bounds_u8 w1⟩
      · have := hget 0 (by omega)
        rw [g0] at this
        simpa [Addr.add] using this
      · rw [hget 1 (by omega), g1]
      · rw [hget 2 (by omega), g2]
      · rw [hget 3 (by omega), g3]
    obtain ⟨G, hG⟩ := choose_lt (p := fun i (x : Int × Int × Bool × Bool) => W.cell? (a.add (i * 4)) = some (.int .u8 x.1) ∧ W.cell? ((a.add (i * 4)).add 1) = some (.int .u8 x.2.1) ∧ W.cell? ((a.add (i * 4)).add 2) = some (.bool x.2.2.1) ∧ W.cell? ((a.add (i * 4)).add 3) = some (.bool x.2.2.2) ∧
        (0 ≤ x.1 ∧ x.1 ≤ 255) ∧ 0 ≤ x.2.1 ∧ x.2.1 ≤ 255) key
    obtain ⟨b, off, spot⟩ := a
    by_cases h0 : 0 < len
    · have hc := (hG 0 h0).1
      have hspot : spot = none := by simpa [Addr.add] using World.cell?_spot hc
      subst hspot
      refine ⟨b, off, fun i => if i < len then (G i).1 else 0, fun i => if i < len then (G i).2.1 else 0, fun i => (G i).2.2.1, fun i => (G i).2.2.2, fun _ => rfl, fun _ => by simpa [Addr.add] using World.block_lt_of_cell? _ _ hc, fun i hi => ?_, fun i => ?_, fun i => ?_⟩
      · obtain ⟨h1, h2, h3, h4, _⟩ := hG i hi
        simp only [add_at] at h1 h2 h3 h4
        simp only [hi, if_true]
        exact ⟨h1, h2, h3, h4⟩
      · by_cases hi : i < len
        · simp only [hi, if_true]; exact (hG i hi).2.2.2.2.1
        · simp [hi]
      · by_cases hi : i < len
        · simp only [hi, if_true]; exact (hG i hi).2.2.2.2.2
        · simp [hi]
    · exact ⟨0, 0, fun _ => 0, fun _ => 0, fun _ => false, fun _ => false, fun h => by omega, fun h => by omega, fun i hi => by omega, fun i => by simp, fun i => by simp⟩

set_option maxRecDepth 20000 in
theorem lawC_big (a0 a1 : Option Addr) (n c0 m c1 : Nat) (w : World) (h0 : n ≤ 140737488351232) (h1 : m ≤ 140737488351232) (hb : 65536 < n + m) :
    Calls Yba.prog 4 #[.slice a0 n c0, .slice a1 m c1] w fun e w' => e = .returned (.bool true) ∧ Below w.heap.size w w' := by
  have hbig : (65536 : Int) < (n : Int) + (m : Int) := by omega
  go_enter Yba.func4, Yba.ntmps4
  go_wp2
  go_ret
  exact ⟨rfl, Below.refl _ _⟩

theorem walk (a0 a1 : Option Addr) (n c0 m c1 b0 o0 b1 o1 : Nat) (S M P : Nat → Int) (F X : Nat → Bool) (w : World) (h0 : n ≤ 140737488351232) (h1 : m ≤ 140737488351232) (hs : IsStates w a0 n b0 o0 S) (hc : IsClients w a1 m b1 o1 M P F X) :
    Calls Yba.prog 4 #[.slice a0 n c0, .slice a1 m c1] w fun e w' => e = .returned (.bool true) ∧ Below w.heap.size w w' := by
  by_cases hb : 65536 < n + m
  · exact lawC_big a0 a1 n c0 m c1 w h0 h1 hb
  · obtain ⟨s1, s2, s3, s4⟩ := hs
    obtain ⟨q1, q2, q3, q4, q5⟩ := hc
    exact lawC a0 a1 b0 o0 n c0 b1 o1 m c1 S M P F X w (by omega) s1 s2 q1 q2 s3 s4 q3 q4 q5

set_option maxRecDepth 100000 in
theorem lifted (os : Os) (started : os.Started) (H : Type) (enc : TypeId × Value → H) :
    ReturnsInHanded {} Yba.checked os 4 .any (Rows.lawS6505CWholeSpec.pre6 enc Yba.prog Yba.f4 Rows.lawS6505CWholeRow.domain false) (Rows.lawS6505CWholeSpec.post enc Yba.prog Yba.f4 false true false false) := by
  refine returnsInHanded_of_change_sized (C := Yba.checked) own started (by kernel_rfl) Yba.func4
    (ChangeSpec.witness6 (enc := enc) (C := Yba.checked) false ⟨#[], #[.slice none 0 0, .slice none 0 0], []⟩ 8 (by kernel_rfl) (by kernel_rfl) (by kernel_rfl) (by kernel_rfl)) ?_
  intro W base args ds gs before hval0 hW hcnd hsz0 _
  have hval : ∀ (j : Nat) t v, Yba.f4.params[j]? = some t → args[j]? = some v → Value.okWide Yba.prog W .any base t v := hval0
  have hsz : (DataW.weightsEach Yba.prog (Yba.f4.params.toList ++ Rows.lawS6505CWholeSpec.plain.varTypes Yba.prog) (ds ++ gs)).all (· ≤ reachBytes) = true := hsz0
  have hW' := hW
  obtain ⟨p, q, hA0, hV, rfl, hfz, hnd⟩ := hW
  have hA : DataW.TrodAll enc Yba.prog W 0 (fun _ => true) true Yba.f4.params.toList args.toList ds p := hA0
  rw [Yba.params4] at hA hval hsz
  obtain ⟨v0, vs0, d0, ds0, p0, q0, hargs, rfl, rfl, h0, r0⟩ := trodAll_cons hA
  obtain ⟨v1, vs1, d1, ds1, p1, q1, rfl, rfl, rfl, h1, r1⟩ := trodAll_cons r0
  obtain ⟨rfl, rfl, rfl⟩ := trodAll_nil r1
  obtain rfl : args = #[v0, v1] := by cases args; simp_all
  obtain ⟨rfl, rfl⟩ := trodVars_none hV
  obtain ⟨a0, len0, cap0, rfl⟩ := okWide_slice Yba.underlying44 (hval 0 44 v0 rfl rfl)
  obtain ⟨a1, len1, cap1, rfl⟩ := okWide_slice Yba.underlying45 (hval 1 45 v1 rfl rfl)
  have k0 := h0
  have k1 := h1
  have lt0 : ∀ x ∈ p0, x.block < W.heap.size := by obtain ⟨m, hm⟩ := k0; exact DataW.trod_lt m _ _ _ hm
  have lt1 : ∀ x ∈ p1, x.block < W.heap.size := by obtain ⟨m, hm⟩ := k1; exact DataW.trod_lt m _ _ _ hm
  obtain ⟨⟨b0, o0, S, hS⟩, e0⟩ := open_states h0
  obtain ⟨⟨b1, o1, M, P, F, X, hC⟩, e1⟩ := open_clients h1
  have n0 : len0 ≤ 140737488351232 := by
    rcases e0 with e0 | ⟨es, sp, rfl, e0⟩
    · omega
    · have := sized_slice hsz (j := 0) (t := 44) (e := 5) rfl rfl Yba.underlying44
      rw [bytes5] at this
      simp only [reachBytes] at this
      omega
  have n1 : len1 ≤ 140737488351232 := by
    rcases e1 with e1 | ⟨es, sp, rfl, e1⟩
    · omega
    · have := sized_slice hsz (j := 1) (t := 45) (e := 88) rfl rfl Yba.underlying45
      rw [bytes88] at this
      simp only [reachBytes] at this
      omega
  clear hA0 hval0 hsz hsz0
  refine (walk a0 a1 len0 cap0 len1 cap1 b0 o0 b1 o1 S M P F X W n0 n1 hS hC).mono fun e W' ⟨he, bel⟩ => ?_
  subst he
  exact ⟨_, rfl, _, _, _, [], _, [], hW', trodAll_mk1 (shut_bool Yba.underlying4 _), (trodAll_cons_mk (Below.trod laidOut (by kernel_rfl) (of_decide_eq_true (by kernel_rfl)) k0 bel lt0) (trodAll_cons_mk (Below.trod laidOut (by kernel_rfl) (of_decide_eq_true (by kernel_rfl)) k1 bel lt1) trodAll_mk0)), rfl, bel.frame _, fun h => by cases h⟩

theorem over : Rows.lawS6505CWholeRow.holds Yba.pinned (OpenSpec.ofChange Rows.lawS6505CWholeSpec) :=
  OpenClaim.holds_of_wide 4 Yba.f4 rfl rfl rfl rfl rfl rfl rfl ⟨rfl, rfl, rfl, rfl, rfl⟩ rfl rfl rfl rfl rfl (by kernel_rfl) Yba.func4 (by kernel_rfl)
    (of_decide_eq_true (by kernel_rfl)) (by unfold Func.isWrapper; first | (rw [if_pos (by decide +kernel)]; kernel_rfl) | (rw [if_neg (by decide +kernel)]; exact ⟨rfl, rfl⟩))
    (fun os started H enc _ => lifted os started H enc)

theorem proved : Rows.LawS6505CWholeSaid := over
end Go.Proofs.Ybulkedrs.lawS6505CWhole
