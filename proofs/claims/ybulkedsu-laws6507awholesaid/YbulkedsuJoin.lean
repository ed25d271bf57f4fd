import Derived.Test.YbulkedsuProg
import Derived.WalkKit
import Derived.WalkSpells
import Derived.WalkLawsBesides
import Derived.Below
import Derived.BigQuiet
import Derived.Deep.QuietTactic
namespace Go.Proofs.Ybulkedsu
open Go.RowKit

theorem join_empty (a0 a1 : ByteArray) (w : World) (h : a0.size = 0) :
    Calls Yba.prog 5 #[.string a0, .string a1] w fun e w' => e = .returned (.string a1) ∧ w = w' := by
  have : a0 = ByteArray.empty := by
    cases a0 with | mk d =>
    simp [ByteArray.size] at h
    simp [h]; rfl
  subst this
  go_enter Yba.func5, Yba.ntmps5
  go_wp2
  go_ret
  exact ⟨rfl, rfl⟩

theorem join_full (a0 a1 : ByteArray) (w : World) (h : 0 < a0.size) (hs : a0.size + a1.size ≤ 1048576) :
    Calls Yba.prog 5 #[.string a0, .string a1] w fun e w' => e = .returned (.string (a0 ++ { data := #[46] } ++ a1)) ∧ w = w' := by
  have he : a0.toList.isEmpty = false := by
    rw [ByteArray.toList_eq]
    cases hl : a0.data.toList with
    | nil => have : a0.data.toList.length = 0 := by rw [hl]; rfl
             rw [Array.length_toList] at this; have e : a0.size = a0.data.size := rfl; omega
    | cons _ _ => rfl
  go_enter Yba.func5, Yba.ntmps5
  go_wp2
  go_ret
  exact ⟨rfl, rfl⟩

def bs (l : List UInt8) : List Value := l.map fun c => .int .u8 c.toNat
theorem Yba.info5 : (Yba.prog.info? 5).map (fun i => (i.zero, i.size, i.bytes)) = some (some (.int .u8 0), 1, 1) := by kernel_rfl
theorem shape {w : World} {B e size n : Nat} {v : Value} {xs : List Value} (h : w.ownsRow B e size v n xs) : ∃ ao c, v = .slice ao n c := by
  rcases h.2 with ⟨rfl, rfl⟩ | ⟨g, c, _, rfl, _⟩
  · exact ⟨_, _, rfl⟩
  · exact ⟨_, _, rfl⟩

theorem own_base {w : World} {B e size n : Nat} {v : Value} {xs : List Value} (h : w.ownsRow B e size v n xs) : ∀ q, v.ownBlock = some q → B ≤ q := fun q hq => (h.lt q hq).1
theorem bs_snoc (s : ByteArray) (k : Nat) (h : k < s.size) : bs (s.data.toList.take (k + 1)) = bs (s.data.toList.take k) ++ [.int .u8 s[k].toNat] := by
  unfold bs
  rw [List.take_succ_eq_append_getElem (by simpa using h)]
  simp
  rfl
theorem bs_append (a b : List UInt8) : bs (a ++ b) = bs a ++ bs b := by simp [bs]
theorem row_snoc {w : World} {B n k : Nat} {v : Value} {pre : List UInt8} {s : ByteArray} {x : Value} (h : w.ownsRow B 5 1 v (n + k + 1) (bs (pre ++ s.data.toList.take k) ++ [x])) (hk : k < s.size) (hx : x = .int .u8 s[k].toNat) :
    w.ownsRow B 5 1 v (n + (k + 1)) (bs (pre ++ s.data.toList.take (k + 1))) := by
  subst hx
  rw [bs_append, bs_snoc s k hk, ← List.append_assoc, ← bs_append]
  exact h
theorem row_cells {w : World} {B n c : Nat} {ao : Option Addr} {pre : List UInt8} {s got : ByteArray} (h : w.ownsRow B 5 1 (.slice ao n c) n (bs (pre ++ s.data.toList.take s.size))) (hg : pre ++ s.data.toList = got.data.toList) :
    (0 < n → ∃ g, ao = some ⟨g, 0, none⟩) ∧ ∀ g, ao = some ⟨g, 0, none⟩ → ∀ k (hk : k < got.size), w.cell? ⟨g, k, none⟩ = some (.int .u8 got[k].toNat) := by
  have e1 : s.data.toList.take s.size = s.data.toList := List.take_of_length_le (by rw [Array.length_toList]; exact Nat.le_refl _)
  rw [e1, hg] at h
  have hn : got.size = n := by have := h.1; simpa [bs] using this
  refine ⟨fun h0 => ?_, fun g hao k hk => ?_⟩
  · rcases h.2 with ⟨h1, rfl⟩ | ⟨g, cap, cur, h1, _⟩
    · omega
    · exact ⟨g, by simp at h1; exact h1.1⟩
  · subst hao
    rw [h.cellAt k (by omega)]
    unfold bs
    rw [List.getElem?_map, List.getElem?_eq_getElem (by simpa using hk)]
    rfl
theorem row_snoc0 {w : World} {B k : Nat} {v : Value} {s : ByteArray} {x : Value} (h : w.ownsRow B 5 1 v (k + 1) (bs (s.data.toList.take k) ++ [x])) (hk : k < s.size) (hx : x = .int .u8 s[k].toNat) :
    w.ownsRow B 5 1 v (k + 1) (bs (s.data.toList.take (k + 1))) := by
  subst hx
  rw [bs_snoc s k hk]
  exact h

set_option maxHeartbeats 1000000 in
theorem whole (a0 a1 : ByteArray) (w : World) (h : 0 < a0.size) (hs : a0.size + a1.size ≤ 1048576) :
    Calls Yba.prog 3 #[.string a0, .string a1] w fun e w' => e = .returned (.bool true) ∧ Below w.heap.size w w' := by
  obtain ⟨i0, hi, hz0, hz1, hz2⟩ := info_parts Yba.info5
  have hne : ((a0.size : Int) != 0) = true := bne_iff_ne.2 (by omega)
  have hsm : ¬ (1048576 : Int) < (a0.size : Int) + (a1.size : Int) := by omega
  go_enter Yba.func3, Yba.ntmps3
  go_wp2_with (go_at_call 5; refine (join_full a0 a1 _ h hs).mono ?_; rintro e w' ⟨rfl, rfl⟩)
  go_loopw [6, 7] (fun v i wr => ∃ k : Nat, k ≤ a0.size ∧ i = .int .i64 k ∧ wr.ownsRow w.heap.size 5 1 v k (bs (a0.data.toList.take k)) ∧ Below w.heap.size w wr) (fun _ i _ => a0.size - (intOf i).toNat)
  case atStart => exact ⟨0, by omega, rfl, World.ownsRow_nil _ _ _ _, Below.refl _ _⟩
  case round =>
    obtain ⟨k, hk, rfl, hown, hbel⟩ := hrel
    obtain ⟨ao, c, rfl⟩ := shape hown
    have hB := hbel.size
    by_cases hlt : k < a0.size
    · go_wp2_with (first | (at_builtin; refine wpList_append_own _ rfl _ _ 23 rfl w.heap.size 5 i0 (.int .u8 0) 1 1 Yba.underlying23 hi hz0 hz1 hz2 rfl (by omega) _ k _ rfl (hown.alloc _) _ 1 1 _ rfl rfl (cell_one_new _ _ _) ?h1 (by unfold maxLen; omega) (by omega) (by simp; omega) ?_))
      case h1 => simp [Value.oneCell']
      intro v' w' hown' hgr hnil
      go_wp2
      go_roundw
      case rel => exact ⟨k + 1, by omega, by go_num, row_snoc0 hown' hlt rfl, (hbel.alloc hB _).grown hgr (by simp; omega) (fun q hq => own_base hown q hq)⟩
      case measure => simp [intOf]; omega
    · go_wp2_with (first | (at_builtin; refine wpList_append_own _ rfl _ _ 23 rfl w.heap.size 5 i0 (.int .u8 0) 1 1 Yba.underlying23 hi hz0 hz1 hz2 rfl (by omega) _ k _ rfl (hown.alloc _) _ 1 1 _ rfl rfl (cell_one_new _ _ _) ?h1 (by unfold maxLen; omega) (by omega) (by simp; omega) ?_))
      case h1 => simp [Value.oneCell']
      intro v' w' hown' hgr hnil
      obtain rfl : k = a0.size := by omega
      have hown1 : w'.ownsRow w.heap.size 5 1 v' (a0.size + 1) (bs (a0.data.toList ++ [46])) := by
        have e1 : a0.data.toList.take a0.size = a0.data.toList := List.take_of_length_le (by rw [Array.length_toList]; exact Nat.le_refl _)
        rw [e1] at hown'
        simpa [bs] using hown'
      have hbel1 : Below w.heap.size w w' := (hbel.alloc hB _).grown hgr (by simp; omega) (fun q hq => own_base hown q hq)
      obtain ⟨pre, hpre⟩ : ∃ pre, pre = a0.data.toList ++ [46] := ⟨_, rfl⟩
      obtain ⟨got, hgot⟩ : ∃ got, got = a0 ++ { data := #[46] } ++ a1 := ⟨_, rfl⟩
      obtain ⟨n0, hn0⟩ : ∃ n0, n0 = a0.size + 1 := ⟨_, rfl⟩
      have hgs : got.size = n0 + a1.size := by
        subst hgot hn0; simp [ByteArray.size_append]; rfl
      rw [← hpre, ← hn0] at hown1
      rw [← hgot]
      clear hown' hgr hnil hown hbel
      have HP : Hid (pre = a0.data.toList ++ [46]) := hpre
      have HG : Hid (got = a0 ++ { data := #[46] } ++ a1) := hgot
      have HN : Hid (n0 = a0.size + 1) := hn0
      have HL : Hid (pre ++ a1.data.toList = got.data.toList) := by
        show _ = _
        subst hpre hgot; simp [ByteArray.data_append]
      have HS : Hid (got.size = n0 + a1.size) := hgs
      have hn1 : n0 ≤ 1048577 - a1.size := by omega
      clear hpre hgot hn0 hgs
      go_wp2
      go_loopw [6, 8] (fun v i wr => ∃ k : Nat, k ≤ a1.size ∧ i = .int .i64 k ∧ wr.ownsRow w.heap.size 5 1 v (n0 + k) (bs (pre ++ a1.data.toList.take k)) ∧ Below w.heap.size w wr) (fun _ i _ => a1.size - (intOf i).toNat)
      case atStart => exact ⟨0, by omega, rfl, by simpa using hown1, hbel1⟩
      case round =>
        clear hown1 hbel1
        obtain ⟨k, hk, rfl, hown, hbel⟩ := hrel
        obtain ⟨ao, c, rfl⟩ := shape hown
        have hB := hbel.size
        by_cases hlt : k < a1.size
        · go_wp2_with (first | (at_builtin; refine wpList_append_own _ rfl _ _ 23 rfl w.heap.size 5 i0 (.int .u8 0) 1 1 Yba.underlying23 hi hz0 hz1 hz2 rfl (by omega) _ (n0 + k) _ rfl (hown.alloc _) _ 1 1 _ rfl rfl (cell_one_new _ _ _) ?h1 (by unfold maxLen; omega) (by omega) (by simp; omega) ?_))
          case h1 => simp [Value.oneCell']
          intro v' w' hown' hgr hnil
          go_wp2
          go_roundw
          case rel => exact ⟨k + 1, by omega, by go_num, row_snoc hown' hlt rfl, (hbel.alloc hB _).grown hgr (by simp; omega) (fun q hq => own_base hown q hq)⟩
          case measure => simp [intOf]; omega
        · obtain rfl : k = a1.size := by omega
          have hcell := row_cells hown HL.out
          rw [show n0 + a1.size = got.size from HS.out.symm] at hcell ⊢
          clear hown
          go_wp2
          go_loopw [9] (fun i wr' => ∃ k q : Nat, k ≤ got.size ∧ i = .int .i64 k ∧ wr' = wr.drewN q) (fun i _ => got.size - (intOf i).toNat)
          case atStart => exact ⟨0, 0, by omega, rfl, rfl⟩
          case round =>
            obtain ⟨k, q, hk, rfl, rfl⟩ := hrel
            by_cases hlt : k < got.size
            · obtain ⟨g, rfl⟩ := hcell.1 (by omega)
              have hc := hcell.2 g rfl k hlt
              have hlt' : (k : Int) < (got.size : Int) := by omega
              have hg1 : got.size ≤ 1048577 := by have := HS.out; omega
              clear hcell
              go_wp2
              go_quiet (fail)
              go_wp2
              go_roundw
              case rel => exact ⟨k + 1, _, by omega, by go_num, rfl⟩
              case measure => simp [intOf]; omega
            · go_wp2
              go_ret
              exact ⟨rfl, below_drewN hbel _⟩

set_option maxHeartbeats 1000000 in
theorem whole_empty (a0 a1 : ByteArray) (w : World) (h : a0.size = 0) (hs : a1.size ≤ 1048576) :
    Calls Yba.prog 3 #[.string a0, .string a1] w fun e w' => e = .returned (.bool true) ∧ Below w.heap.size w w' := by
  obtain ⟨i0, hi, hz0, hz1, hz2⟩ := info_parts Yba.info5
  obtain ⟨got, hgot⟩ : ∃ got, got = a1 := ⟨_, rfl⟩
  obtain ⟨n0, hn0⟩ : ∃ n0, n0 = 0 := ⟨_, rfl⟩
  obtain ⟨pre, hpre⟩ : ∃ pre : List UInt8, pre = [] := ⟨_, rfl⟩
  have HL : Hid (pre ++ a1.data.toList = got.data.toList) := by
    show _ = _
    subst hpre hgot; rfl
  have HS : Hid (got.size = n0 + a1.size) := by
    show _ = _
    subst hgot hn0; omega
  have hown1 : w.ownsRow w.heap.size 5 1 (.slice none 0 0) n0 (bs pre) := by
    subst hn0 hpre; exact World.ownsRow_nil _ _ _ _
  have hbel1 : Below w.heap.size w w := Below.refl _ _
  have hn1 : n0 ≤ 1048577 - a1.size := by omega
  have J : ∀ w, Calls Yba.prog 5 #[.string a0, .string a1] w fun e w' => e = .returned (.string got) ∧ w = w' := fun w => by rw [hgot]; exact join_empty a0 a1 w h
  have HJ : Hid (∀ w, Calls Yba.prog 5 #[.string a0, .string a1] w fun e w' => e = .returned (.string got) ∧ w = w') := J
  have hsm : ¬ (1048576 : Int) < (a0.size : Int) + (a1.size : Int) := by omega
  have hne : ((a0.size : Int) != 0) = false := by rw [h]; rfl
  clear hpre hgot hn0 J h
  go_enter Yba.func3, Yba.ntmps3
  go_wp2_with (go_at_call 5; refine (HJ.out _).mono ?_; rintro e w' ⟨rfl, rfl⟩)
  go_loopw [6, 8] (fun v i wr => ∃ k : Nat, k ≤ a1.size ∧ i = .int .i64 k ∧ wr.ownsRow w.heap.size 5 1 v (n0 + k) (bs (pre ++ a1.data.toList.take k)) ∧ Below w.heap.size w wr) (fun _ i _ => a1.size - (intOf i).toNat)
  case atStart => exact ⟨0, by omega, rfl, by simpa using hown1, hbel1⟩
  case round =>
    clear hown1 hbel1
    obtain ⟨k, hk, rfl, hown, hbel⟩ := hrel
    obtain ⟨ao, c, rfl⟩ := shape hown
    have hB := hbel.size
    by_cases hlt : k < a1.size
    · go_wp2_with (first | (at_builtin; refine wpList_append_own _ rfl _ _ 23 rfl w.heap.size 5 i0 (.int .u8 0) 1 1 Yba.underlying23 hi hz0 hz1 hz2 rfl (by omega) _ (n0 + k) _ rfl (hown.alloc _) _ 1 1 _ rfl rfl (cell_one_new _ _ _) ?h1 (by unfold maxLen; omega) (by omega) (by simp; omega) ?_))
      case h1 => simp [Value.oneCell']
      intro v' w' hown' hgr hnil
      go_wp2
      go_roundw
      case rel => exact ⟨k + 1, by omega, by go_num, row_snoc hown' hlt rfl, (hbel.alloc hB _).grown hgr (by simp; omega) (fun q hq => own_base hown q hq)⟩
      case measure => simp [intOf]; omega
    · obtain rfl : k = a1.size := by omega
      have hcell := row_cells hown HL.out
      rw [show n0 + a1.size = got.size from HS.out.symm] at hcell ⊢
      clear hown
      go_wp2
      go_loopw [9] (fun i wr' => ∃ k q : Nat, k ≤ got.size ∧ i = .int .i64 k ∧ wr' = wr.drewN q) (fun i _ => got.size - (intOf i).toNat)
      case atStart => exact ⟨0, 0, by omega, rfl, rfl⟩
      case round =>
        obtain ⟨k, q, hk, rfl, rfl⟩ := hrel
        by_cases hlt : k < got.size
        · obtain ⟨g, rfl⟩ := hcell.1 (by omega)
          have hc := hcell.2 g rfl k hlt
          have hlt' : (k : Int) < (got.size : Int) := by omega
          have hg1 : got.size ≤ 1048577 := by have := HS.out; omega
          clear hcell
          go_wp2
          go_quiet (fail)
          go_wp2
          go_roundw
          case rel => exact ⟨k + 1, _, by omega, by go_num, rfl⟩
          case measure => simp [intOf]; omega
        · go_wp2
          go_ret
          exact ⟨rfl, below_drewN hbel _⟩

theorem whole_big (a0 a1 : ByteArray) (w : World) (w0 : a0.size ≤ 140737488351232) (w1 : a1.size ≤ 140737488351232) (hs : 1048576 < a0.size + a1.size) :
    Calls Yba.prog 3 #[.string a0, .string a1] w fun e w' => e = .returned (.bool true) ∧ Below w.heap.size w w' := by
  have hsm : (1048576 : Int) < (a0.size : Int) + (a1.size : Int) := by omega
  go_enter Yba.func3, Yba.ntmps3
  go_wp2
  go_ret
  exact ⟨rfl, Below.refl _ _⟩

end Go.Proofs.Ybulkedsu
