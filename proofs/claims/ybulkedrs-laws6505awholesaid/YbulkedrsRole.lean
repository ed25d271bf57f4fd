import Derived.Test.YbulkedrsProg
import Derived.WalkKit
import Derived.WalkSpells
import Derived.WalkLawsBesides
import Derived.Below
import Derived.BigQuiet
import Derived.BigRegion
namespace Go.Proofs.Ybulkedrs
open Go.RowKit

/-- The first place from i on, of n, whose name is nm. -/
def fst (N : Nat → ByteArray) (nm : ByteArray) : Nat → Nat → Option Nat
  | _, 0 => none
  | i, n + 1 => if ((N i).toList == nm.toList) = true then some i else fst N nm (i + 1) n

theorem fst_spec (N : Nat → ByteArray) (nm : ByteArray) : ∀ n i j, fst N nm i n = some j → i ≤ j ∧ j < i + n
  | 0, _, _ => by simp [fst]
  | n + 1, i, j => by
    unfold fst
    split
    · intro h; cases h; omega
    · intro h
      have := fst_spec N nm n (i + 1) j h
      omega

def ptrOf (g : Nat) : Option Nat → Value
  | none => .pointer none
  | some j => .pointer (some ⟨g, j * 3, none⟩)

theorem role_any (p tp g len : Nat) (N : Nat → ByteArray) (nm : ByteArray) (w : World) (hl : len ≤ 1048576)
    (hp : w.cell? ⟨p, 4, none⟩ = some (.pointer (some ⟨tp, 0, none⟩))) (ht : w.cell? ⟨tp, 9, none⟩ = some (.slice (some ⟨g, 0, none⟩) len len))
    (hN : ∀ i, i < len → w.cell? ⟨g, i * 3, none⟩ = some (.string (N i))) :
    Calls Yba.prog 5 #[.pointer (some ⟨p, 0, none⟩), .string nm] w fun e w' => e = .returned (ptrOf g (fst N nm 0 len)) ∧ w = w' := by
  go_enter Yba.func5, Yba.ntmps5
  go_wp2
  go_loop [14] (fun i => ∃ k : Nat, k ≤ len ∧ i = .int .i64 k ∧ fst N nm 0 len = fst N nm k (len - k)) (fun i => len - (intOf i).toNat)
  case atStart => exact ⟨0, by omega, rfl, rfl⟩
  case round =>
    obtain ⟨k, hk, rfl, hq⟩ := hrel
    have HQ : Hid (fst N nm 0 len = fst N nm k (len - k)) := hq
    clear hq
    by_cases h1 : k < len
    · have hc := hN k h1
      have hs : len - k = (len - (k + 1)) + 1 := by omega
      have HX : Hid (fst N nm k (len - k) = if ((N k).toList == nm.toList) = true then some k else fst N nm (k + 1) (len - (k + 1))) := by
        show _ = _
        rw [hs]; rfl
      clear hs hN
      cases hb : ((N k).toList == nm.toList) with
      | false =>
        have HB : Hid (((N k).toList == nm.toList) = false) := hb
        go_wp2
        go_round
        case rel => exact ⟨k + 1, by omega, by go_num, by rw [HQ.out, HX.out, if_neg (by rw [HB.out]; simp)]⟩
        case measure => simp [intOf]; omega
      | true =>
        have HB : Hid (((N k).toList == nm.toList) = true) := hb
        go_wp2
        go_ret
        exact ⟨by rw [HQ.out, HX.out, if_pos HB.out]; rfl, rfl⟩
    · obtain rfl : k = len := by omega
      go_wp2
      go_ret
      exact ⟨by rw [HQ.out, Nat.sub_self]; rfl, rfl⟩
end Go.Proofs.Ybulkedrs
