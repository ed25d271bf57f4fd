import Derived.Test.YbulkedtiBld
import Derived.Test.YbulkedtiMix
namespace Go.Proofs.Ybulkedti
open Go.RowKit
set_option linter.unusedVariables false

/-- What the reader is shown, against what was laid. -/
def Agree (bs : List Int) : List (Int × Nat × Nat) → List (Int × List Int) → Prop
  | [], [] => True
  | s :: ss, v :: vs => (s.1 = v.1 ∧ s.2.2 = v.2.length ∧ s.2.1 + s.2.2 ≤ bs.length ∧ ∀ j, j < v.2.length → bs[s.2.1 + j]?.getD 0 = v.2[j]?.getD 0) ∧ Agree bs ss vs
  | _, _ => False

theorem getD_at (A d R : List Int) (j : Nat) (hj : j < d.length) : (A ++ (d ++ R))[A.length + j]?.getD 0 = d[j]?.getD 0 := by
  rw [List.getElem?_append_right (by omega), show A.length + j - A.length = j by omega, List.getElem?_append_left hj]

theorem seen_agree (h : Nat) (hh : h = 1 ∨ h = 2) (bs : List Int) : ∀ (ts : List (Option (Int × List Int))) (A junk : List Int), bs = A ++ encs h ts ++ junk → Agree bs (seen h A.length ts) (ts.filterMap id)
  | [], A, junk, hb => trivial
  | none :: r, A, junk, hb => by
    have := seen_agree h hh bs r (A ++ [0]) junk (by rw [hb, encs_cons]; simp [enc1])
    simpa [seen] using this
  | some (x, d) :: r, A, junk, hb => by
    obtain ⟨hd, hdl, hde⟩ : ∃ hd : List Int, hd.length = h ∧ enc1 h (some (x, d)) = hd ++ d := by
      rcases hh with rfl | rfl
      · exact ⟨[x * 16 + ((d.length : Int) - 1)], rfl, by simp [enc1]⟩
      · exact ⟨[x, (d.length : Int)], rfl, by simp [enc1]⟩
    have hb2 : bs = (A ++ hd ++ d) ++ encs h r ++ junk := by rw [hb, encs_cons, hde]; simp
    have ih := seen_agree h hh bs r (A ++ hd ++ d) junk hb2
    have hl : (A ++ hd ++ d).length = A.length + h + d.length := by simp [hdl]; omega
    rw [hl] at ih
    have hb3 : bs = (A ++ hd) ++ (d ++ (encs h r ++ junk)) := by rw [hb2]; simp
    refine ⟨⟨rfl, rfl, ?_, fun j hj => ?_⟩, ih⟩
    · simp only
      rw [hb3]
      simp [hdl]
      omega
    · have := getD_at (A ++ hd) d (encs h r ++ junk) j hj
      rw [← hb3, show (A ++ hd).length = A.length + h by simp [hdl]] at this
      exact this

theorem Agree.none {bs : List Int} {id : Int} : ∀ {ss : List (Int × Nat × Nat)} {vs : List (Int × List Int)}, Agree bs ss vs → (∀ y ∈ ss, y.1 ≠ id) → ∀ v ∈ vs, v.1 ≠ id
  | [], [], _, _ => by simp
  | s :: ss, v :: vs, ha, h => by
    intro u hu
    rcases List.mem_cons.1 hu with rfl | hu
    · rw [← ha.1.1]; exact h s (by simp)
    · exact Agree.none ha.2 (fun y hy => h y (by simp [hy])) u hu
  | [], _ :: _, ha, _ => ha.elim
  | _ :: _, [], ha, _ => ha.elim
/-- The first that is shown with the ID is the first that was laid with it. -/
theorem Agree.first {bs : List Int} {id : Int} {x : Int × Nat × Nat} {post : List (Int × Nat × Nat)} : ∀ {pre : List (Int × Nat × Nat)} {vs : List (Int × List Int)}, Agree bs (pre ++ x :: post) vs → (∀ y ∈ pre, y.1 ≠ id) → x.1 = id →
    ∃ k, k < vs.length ∧ (∀ j, j < k → (vs[j]?.getD (0, [])).1 ≠ id) ∧ (vs[k]?.getD (0, [])).1 = id ∧ x.2.2 = (vs[k]?.getD (0, [])).2.length ∧ ∀ j, j < (vs[k]?.getD (0, [])).2.length → bs[x.2.1 + j]?.getD 0 = (vs[k]?.getD (0, [])).2[j]?.getD 0
  | [], v :: vs, ha, _, hx => ⟨0, by simp, fun j hj => by omega, by simpa [← ha.1.1] using hx, by simpa using ha.1.2.1, by simpa using ha.1.2.2.2⟩
  | s :: pre, v :: vs, ha, h, hx => by
    obtain ⟨k, h1, h2, h3, h4, h5⟩ := Agree.first (pre := pre) ha.2 (fun y hy => h y (by simp [hy])) hx
    refine ⟨k + 1, by simp; omega, fun j hj => ?_, by simpa using h3, by simpa using h4, by simpa using h5⟩
    cases j with
    | zero => simp only [List.getElem?_cons_zero, Option.getD_some]; rw [← ha.1.1]; exact h s (by simp)
    | succ j => simpa using h2 j (by omega)
  | [], [], ha, _, _ => ha.elim
  | _ :: _, [], ha, _, _ => ha.elim
theorem Agree.fit {bs : List Int} : ∀ {ss : List (Int × Nat × Nat)} {vs : List (Int × List Int)}, Agree bs ss vs → (∀ v ∈ vs, v.2.length ≤ 255) → ∀ x ∈ ss, x.2.1 + x.2.2 ≤ bs.length ∧ x.2.2 ≤ 255
  | [], [], _, _ => by simp
  | s :: ss, v :: vs, ha, h => by
    intro u hu
    rcases List.mem_cons.1 hu with rfl | hu
    · exact ⟨ha.1.2.2.1, by rw [ha.1.2.1]; exact h v (by simp)⟩
    · exact Agree.fit ha.2 (fun y hy => h y (by simp [hy])) u hu
  | [], _ :: _, ha, _ => ha.elim
  | _ :: _, [], ha, _ => ha.elim
end Go.Proofs.Ybulkedti
