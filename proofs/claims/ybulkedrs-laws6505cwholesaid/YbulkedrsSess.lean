import Derived.Test.YbulkedrsProg
import Derived.WalkKit
import Derived.WalkSpells
import Derived.WalkLawsBesides
import Derived.Below
import Derived.BigQuiet
import Derived.BigRegion
namespace Go.Proofs.Ybulkedrs
open Go.RowKit

def stS (x : Int) : ByteArray :=
  if x % 4 = 0 then ⟨#[117, 112]⟩ else if x % 4 = 1 then ⟨#[99, 108, 111, 115, 105, 110, 103]⟩ else if x % 4 = 2 then ⟨#[114, 101, 108, 101, 97, 115, 101, 100]⟩ else ⟨#[]⟩
def mtS (x : Int) : ByteArray :=
  if x % 5 = 0 then ⟨#[73, 78, 86, 73, 84, 69]⟩ else if x % 5 = 1 then ⟨#[66, 89, 69]⟩ else if x % 5 = 2 then ⟨#[67, 65, 78, 67, 69, 76]⟩ else if x % 5 = 3 then ⟨#[79, 80, 84, 73, 79, 78, 83]⟩ else ⟨#[105, 110, 118, 105, 116, 101]⟩

theorem state_any (x : Int) (w : World) (h0 : 0 ≤ x) (h1 : x ≤ 255) : Calls Yba.prog 6 #[.int .u8 x] w fun e w' => e = .returned (.string (stS x)) ∧ w' = w := by
  unfold stS
  by_cases c0 : x % 4 = 0
  · rw [if_pos c0]
    go_enter Yba.func6, Yba.ntmps6
    go_wp2
    go_ret
    exact ⟨rfl, rfl⟩
  · rw [if_neg c0]
    by_cases c1 : x % 4 = 1
    · rw [if_pos c1]
      go_enter Yba.func6, Yba.ntmps6
      go_wp2
      go_ret
      exact ⟨rfl, rfl⟩
    · rw [if_neg c1]
      by_cases c2 : x % 4 = 2
      · rw [if_pos c2]
        go_enter Yba.func6, Yba.ntmps6
        go_wp2
        go_ret
        exact ⟨rfl, rfl⟩
      · rw [if_neg c2]
        have d0 : (x % 4 == 0) = false := by simpa using c0
        have d1 : (x % 4 == 1) = false := by simpa using c1
        have d2 : (x % 4 == 2) = false := by simpa using c2
        go_enter Yba.func6, Yba.ntmps6
        go_wp2
        go_ret
        exact ⟨rfl, rfl⟩

theorem method_any (x : Int) (w : World) (h0 : 0 ≤ x) (h1 : x ≤ 255) : Calls Yba.prog 7 #[.int .u8 x] w fun e w' => e = .returned (.string (mtS x)) ∧ w' = w := by
  unfold mtS
  by_cases c0 : x % 5 = 0
  · rw [if_pos c0]
    go_enter Yba.func7, Yba.ntmps7
    go_wp2
    go_ret
    exact ⟨rfl, rfl⟩
  · rw [if_neg c0]
    by_cases c1 : x % 5 = 1
    · rw [if_pos c1]
      go_enter Yba.func7, Yba.ntmps7
      go_wp2
      go_ret
      exact ⟨rfl, rfl⟩
    · rw [if_neg c1]
      by_cases c2 : x % 5 = 2
      · rw [if_pos c2]
        go_enter Yba.func7, Yba.ntmps7
        go_wp2
        go_ret
        exact ⟨rfl, rfl⟩
      · rw [if_neg c2]
        have d0 : (x % 5 == 0) = false := by simpa using c0
        have d1 : (x % 5 == 1) = false := by simpa using c1
        have d2 : (x % 5 == 2) = false := by simpa using c2
        by_cases c3 : x % 5 = 3
        · rw [if_pos c3]
          go_enter Yba.func7, Yba.ntmps7
          go_wp2
          go_ret
          exact ⟨rfl, rfl⟩
        · rw [if_neg c3]
          have d3 : (x % 5 == 3) = false := by simpa using c3
          go_enter Yba.func7, Yba.ntmps7
          go_wp2
          go_ret
          exact ⟨rfl, rfl⟩

theorem stS_rel (x : Int) : ((stS x).toList == [114, 101, 108, 101, 97, 115, 101, 100]) = (x % 4 == 2) := by
  have hr : x % 4 = 0 ∨ x % 4 = 1 ∨ x % 4 = 2 ∨ x % 4 = 3 := by omega
  unfold stS
  rw [ByteArray.toList_eq]
  rcases hr with h | h | h | h <;> simp [h]
theorem mtS_inv (x : Int) : ((mtS x).toList == [73, 78, 86, 73, 84, 69]) = (x % 5 == 0) := by
  have hr : x % 5 = 0 ∨ x % 5 = 1 ∨ x % 5 = 2 ∨ x % 5 = 3 ∨ x % 5 = 4 := by omega
  unfold mtS
  rw [ByteArray.toList_eq]
  rcases hr with h | h | h | h | h <;> simp [h]

/-- some dialog among the first k is not released -/
def wantD (S : Nat → Int) : Nat → Bool
  | 0 => false
  | k + 1 => wantD S k || (S k % 4 != 2)
/-- client k rings -/
def ring (M P : Nat → Int) (F : Nat → Bool) (k : Nat) : Bool := (M k % 5 == 0) && (P k % 4 != 0) && !F k
def wantC (M P : Nat → Int) (F : Nat → Bool) : Nat → Bool
  | 0 => false
  | k + 1 => wantC M P F k || ring M P F k

/-- A dialog in block g, as a reader sees it. -/
def DlC (w : World) (g : Nat) (x : Int) : Prop := w.cell? ⟨g, 37, none⟩ = some (.string (stS x))
/-- A client in block g, as a reader sees it. -/
def ClC (w : World) (g : Nat) (m p : Int) (f x : Bool) : Prop :=
  w.cell? ⟨g, 6, none⟩ = some (.string (mtS m)) ∧ w.cell? ⟨g, 15, none⟩ = some (.bool x) ∧
  (∃ fv, w.cell? ⟨g, 14, none⟩ = some (.pointer fv) ∧ fv.isSome = f) ∧
  ((p % 4 = 0 ∧ w.cell? ⟨g, 13, none⟩ = some (.map none)) ∨ ∃ mb es c, w.cell? ⟨g, 13, none⟩ = some (.map (some mb)) ∧ w.heap[mb]? = some (.map es c) ∧ (es.size : Int) = p % 4 ∧ 0 < p % 4)

theorem run_len_map92 {w : World} {mb : Nat} {es : Array MapEntry} {c : Nat} (h : w.heap[mb]? = some (.map es c)) : (Builtin.len_ #[92] 3 #[.map (some mb)]).run Yba.prog w = .ok (.int .i64 es.size) w := by
  simp [Builtin.len_, run_underlying Yba.underlying92, MapKept.run_getObj_map h, goInt]

theorem ringing_any (g : Nat) (m p : Int) (f x : Bool) (w : World) (h : ClC w g m p f x) :
    Calls Yba.prog 9 #[.pointer (some ⟨g, 0, none⟩)] w fun e w' => e = .returned (.bool ((m % 5 == 0) && (p % 4 != 0) && !f)) ∧ w' = w := by
  obtain ⟨h6, h15, ⟨fv, h14, hf⟩, h13⟩ := h
  have hinv := mtS_inv m
  cases hb : (m % 5 == 0) with
  | false =>
    rw [hb] at hinv
    go_enter Yba.func9, Yba.ntmps9
    go_wp2
    go_ret
    exact ⟨rfl, rfl⟩
  | true =>
    rw [hb] at hinv
    rcases h13 with ⟨hp0, h13⟩ | ⟨mb, es, c, h13, hmb, hes, hpos⟩
    · have hpb : (p % 4 != 0) = false := by simp [hp0]
      rw [hpb]
      clear hp0 hpb
      go_enter Yba.func9, Yba.ntmps9
      go_wp2
      go_ret
      exact ⟨rfl, rfl⟩
    · have hpb : (p % 4 != 0) = true := bne_iff_ne.2 (by omega)
      rw [hpb]
      have hes0 : 0 < es.size := by omega
      have hgo := run_len_map92 hmb
      clear hes hpb hpos hmb
      subst hf
      cases fv with
      | none =>
        go_enter Yba.func9, Yba.ntmps9
        go_wp2
        go_ret
        exact ⟨rfl, rfl⟩
      | some fa =>
        go_enter Yba.func9, Yba.ntmps9
        go_wp2
        go_ret
        exact ⟨rfl, rfl⟩

theorem wantD_mono (S : Nat → Int) {k n : Nat} (h : wantD S k = true) (hk : k ≤ n) : wantD S n = true := by
  induction n with
  | zero => obtain rfl : k = 0 := by omega
            exact h
  | succ n ih =>
    by_cases e : k = n + 1
    · subst e; exact h
    · simp [wantD, ih (by omega)]
theorem wantC_mono (M P : Nat → Int) (F : Nat → Bool) {k n : Nat} (h : wantC M P F k = true) (hk : k ≤ n) : wantC M P F n = true := by
  induction n with
  | zero => obtain rfl : k = 0 := by omega
            exact h
  | succ n ih =>
    by_cases e : k = n + 1
    · subst e; exact h
    · simp [wantC, ih (by omega)]

set_option maxHeartbeats 1000000 in
theorem sessions_any (R n m cd cc gd gc : Nat) (ad ac : Option Addr) (D C : Nat → Nat) (S M P : Nat → Int) (F X : Nat → Bool) (w : World) (hn : n ≤ 65536) (hm : m ≤ 65536)
    (hd : w.cell? ⟨R, 12, none⟩ = some (.slice ad n cd)) (hc : w.cell? ⟨R, 10, none⟩ = some (.slice ac m cc))
    (hD : ∀ i, i < n → ad = some ⟨gd, 0, none⟩ ∧ w.cell? ⟨gd, i, none⟩ = some (.pointer (some ⟨D i, 0, none⟩)) ∧ DlC w (D i) (S i))
    (hC : ∀ i, i < m → ac = some ⟨gc, 0, none⟩ ∧ w.cell? ⟨gc, i, none⟩ = some (.pointer (some ⟨C i, 0, none⟩)) ∧ ClC w (C i) (M i) (P i) (F i) (X i)) :
    Calls Yba.prog 8 #[.pointer (some ⟨R, 0, none⟩)] w fun e w' => e = .returned (.bool (wantD S n || wantC M P F m)) ∧ w' = w := by
  have HD : Hid (∀ i, i < n → ad = some ⟨gd, 0, none⟩ ∧ w.cell? ⟨gd, i, none⟩ = some (.pointer (some ⟨D i, 0, none⟩)) ∧ DlC w (D i) (S i)) := hD
  have HC : Hid (∀ i, i < m → ac = some ⟨gc, 0, none⟩ ∧ w.cell? ⟨gc, i, none⟩ = some (.pointer (some ⟨C i, 0, none⟩)) ∧ ClC w (C i) (M i) (P i) (F i) (X i)) := hC
  clear hD hC
  go_enter Yba.func8, Yba.ntmps8
  go_wp2
  go_loop [12] (fun i => ∃ k : Nat, k ≤ n ∧ i = .int .i64 k ∧ Hid (wantD S k = false)) (fun i => n - (intOf i).toNat)
  case atStart => exact ⟨0, by omega, rfl, rfl⟩
  case round =>
    obtain ⟨k, hk, rfl, hw⟩ := hrel
    by_cases hlt : k < n
    · obtain ⟨rfl, h1, h2⟩ := HD.out k hlt
      unfold DlC at h2
      have hr := stS_rel (S k)
      cases hb : (S k % 4 == 2) with
      | true =>
        rw [hb] at hr
        have HB : Hid ((S k % 4 == 2) = true) := hb
        clear hb
        go_wp2
        go_round
        case rel => exact ⟨k + 1, by omega, by go_num, by show _ = _; simp [wantD, hw.out, bne, HB.out]⟩
        case measure => simp [intOf]; omega
      | false =>
        rw [hb] at hr
        have HB : Hid ((S k % 4 == 2) = false) := hb
        clear hb
        go_wp2
        go_ret
        have e1 : wantD S n = true := wantD_mono S (k := k + 1) (by simp [wantD, bne, HB.out]) (by omega)
        exact ⟨by rw [e1]; rfl, rfl⟩
    · obtain rfl : n = k := by omega
      go_wp2
      go_loop [27] (fun i => ∃ k : Nat, k ≤ m ∧ i = .int .i64 k ∧ Hid (wantC M P F k = false)) (fun i => m - (intOf i).toNat)
      case atStart => exact ⟨0, by omega, rfl, rfl⟩
      case round =>
        obtain ⟨k, hk, rfl, hwc⟩ := hrel
        by_cases hlt : k < m
        · obtain ⟨rfl, h1, h2⟩ := HC.out k hlt
          have H2 : Hid (ClC w (C k) (M k) (P k) (F k) (X k)) := h2
          clear h2
          cases hb : ring M P F k with
          | true =>
            have HB : Hid (ring M P F k = true) := hb
            have hb' : ((M k % 5 == 0) && (P k % 4 != 0) && !F k) = true := hb
            clear hb
            have J : Hid (∀ w', w' = w → Calls Yba.prog 9 #[.pointer (some ⟨C k, 0, none⟩)] w' fun e w'' => e = .returned (.bool true) ∧ w' = w'') := by
              intro w' hw'; subst hw'
              have := ringing_any (C k) (M k) (P k) (F k) (X k) w' H2.out
              rw [hb'] at this
              exact this.mono fun e w'' h => ⟨h.1, h.2.symm⟩
            clear hb'
            go_wp2_with (go_at_call 9; refine (J.out _ rfl).mono ?_; rintro e w' ⟨rfl, rfl⟩)
            go_ret
            have e1 : wantC M P F m = true := wantC_mono M P F (k := k + 1) (by simp [wantC, HB.out]) (by omega)
            exact ⟨by rw [e1, Bool.or_true]; rfl, rfl⟩
          | false =>
            have HB : Hid (ring M P F k = false) := hb
            have hb' : ((M k % 5 == 0) && (P k % 4 != 0) && !F k) = false := hb
            clear hb
            have J : Hid (∀ w', w' = w → Calls Yba.prog 9 #[.pointer (some ⟨C k, 0, none⟩)] w' fun e w'' => e = .returned (.bool false) ∧ w' = w'') := by
              intro w' hw'; subst hw'
              have := ringing_any (C k) (M k) (P k) (F k) (X k) w' H2.out
              rw [hb'] at this
              exact this.mono fun e w'' h => ⟨h.1, h.2.symm⟩
            clear hb'
            go_wp2_with (go_at_call 9; refine (J.out _ rfl).mono ?_; rintro e w' ⟨rfl, rfl⟩)
            go_round
            case rel => exact ⟨k + 1, by omega, by go_num, by show _ = _; simp [wantC, hwc.out, HB.out]⟩
            case measure => simp [intOf]; omega
        · obtain rfl : m = k := by omega
          go_wp2
          go_ret
          exact ⟨by rw [hw.out, hwc.out]; rfl, rfl⟩
end Go.Proofs.Ybulkedrs
