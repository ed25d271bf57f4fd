import Derived.RangeFuncNested
import Derived.RangeFuncBound
import Derived.RangeFuncCalls
import Derived.RangeFuncLeaves
import Derived.Shelf.Abstract
import Derived.Shelf.RegionOpen
import Derived.WalkKit
import Derived.OwnWalkIn
import Derived.TacticsInMore
import Derived.LoopNIn
import Derived.LoopIn
import Derived.BigQuiet
import Derived.Test.YbulkedtiProg
namespace Go.Proofs.Ybulkedti
open Go.RowKit Go.Shelf
attribute [local go_sem] Oper.semAt_some

theorem below_drewN (N : Nat) (w : World) (k : Nat) : Below N w (w.drewN k) := ⟨rfl, rfl, rfl, Nat.le_refl _, fun _ _ => rfl⟩
theorem count_any (P csn : Nat) (cao : Option Addr) (cc : Nat) (w : World) (hc : w.cell? ⟨P, 8, none⟩ = some (.slice cao csn cc)) (hn : csn ≤ 1000000) :
    Calls Yba.prog 13 #[.pointer (some ⟨P, 0, none⟩)] w fun e w' => e = .returned (.int .i64 ((csn / 4 : Nat) : Int)) ∧ w' = w := by
  go_enter Yba.func13, Yba.ntmps13
  go_wp2
  go_ret
  exact ⟨rfl, rfl⟩

def hlen (m : Nat) : Nat := if m = 0 then 1 else if m = 1 then 2 else 0
def profOf (m : Nat) (a : Int) : Int := if m = 0 then 48862 else if m = 1 then 4096 + a else 4660

theorem prof_eq (m : Nat) (a : Int) (ha : 0 ≤ a) (ha2 : a ≤ 15) : (profOf m a == 48862) = decide (m = 0) := by
  unfold profOf
  by_cases h0 : m = 0
  · simp [h0]
  · by_cases h1 : m = 1
    · simp [h1]; omega
    · simp [h0, h1]
theorem prof_not (m : Nat) (a : Int) (ha : 0 ≤ a) (ha2 : a ≤ 15) : (bits BinOp.andNot IntKind.u16 (profOf m a) 15 == 4096) = decide (m = 1) := by
  unfold profOf
  by_cases h0 : m = 0
  · subst h0; exact (by decide : (bits BinOp.andNot IntKind.u16 48862 15 == 4096) = decide (0 = 1))
  · by_cases h1 : m = 1
    · subst h1
      have : a = 0 ∨ a = 1 ∨ a = 2 ∨ a = 3 ∨ a = 4 ∨ a = 5 ∨ a = 6 ∨ a = 7 ∨ a = 8 ∨ a = 9 ∨ a = 10 ∨ a = 11 ∨ a = 12 ∨ a = 13 ∨ a = 14 ∨ a = 15 := by omega
      rcases this with rfl | rfl | rfl | rfl | rfl | rfl | rfl | rfl | rfl | rfl | rfl | rfl | rfl | rfl | rfl | rfl <;> decide
    · simp only [h0, h1, if_false]
      decide

theorem header_in (n : Nat) (m : Nat) (a : Int) (ha : 0 ≤ a) (ha2 : a ≤ 15) (w : World) :
    CallsIn Fence.wide n Yba.prog 16 #[.int .u16 (profOf m a)] w fun e w' => e = .returned (.int .i64 (hlen m : Nat)) ∧ w' = w := by
  have h1 := prof_eq m a ha ha2
  have h2 := prof_not m a ha ha2
  refine callsIn_of_wp Yba.func16 rfl trivial ?_ rfl
  simp only [Yba.ntmps16, List.size_toArray, List.length_cons, List.length_nil, Nat.reduceAdd, Nat.reduceSub, Array.replicate_succ, Array.replicate_zero, List.push_toArray, List.append_toArray, List.nil_append, List.cons_append]
  by_cases m0 : m = 0
  · subst m0
    simp only [decide_true] at h1
    gi_wp2
    go_ret
    exact ⟨rfl, rfl⟩
  · by_cases m1 : m = 1
    · subst m1
      simp only [decide_true, Nat.one_ne_zero, decide_false] at h1 h2
      gi_wp2
      go_ret
      exact ⟨rfl, rfl⟩
    · have hh : hlen m = 0 := by simp [hlen, m0, m1]
      rw [hh]
      simp only [m0, m1, decide_false] at h1 h2
      gi_wp2
      go_ret
      exact ⟨rfl, rfl⟩

theorem header_0 (n : Nat) (w : World) : CallsIn Fence.wide n Yba.prog 16 #[.int .u16 48862] w fun e w' => e = .returned (.int .i64 1) ∧ w' = w := header_in n 0 0 (by omega) (by omega) w
theorem header_1 (n : Nat) (a : Int) (ha : 0 ≤ a) (ha2 : a ≤ 15) (w : World) : CallsIn Fence.wide n Yba.prog 16 #[.int .u16 (4096 + a)] w fun e w' => e = .returned (.int .i64 2) ∧ w' = w := header_in n 1 a ha ha2 w
theorem header_2 (n : Nat) (w : World) : CallsIn Fence.wide n Yba.prog 16 #[.int .u16 4660] w fun e w' => e = .returned (.int .i64 0) ∧ w' = w := header_in n 2 0 (by omega) (by omega) w

theorem at1_raw (n : Nat) (b len cap i : Nat) (x : Int) (w : World) (hl : len ≤ 1000000000) (hi : i < len) (hx0 : 0 ≤ x) (hx : x < 240) (hc : w.cell? ⟨b, i, none⟩ = some (.int .u8 x)) :
    CallsIn Fence.wide n Yba.prog 17 #[.slice (some ⟨b, 0, none⟩) len cap, .int .i64 i, .int .i64 1] w fun e w' => e = .returned (.tuple #[.int .u8 (x / 16), .int .i64 ((i : Int) + 1), .int .i64 ((i : Int) + 1 + x % 16 + 1)]) ∧ ∃ nq, w' = w.drewN nq := by
  have hd : (x / 16 == 15) = false := by simp; omega
  refine callsIn_of_wp Yba.func17 rfl trivial ?_ rfl
  simp only [Yba.ntmps17, List.size_toArray, List.length_cons, List.length_nil, Nat.reduceAdd, Nat.reduceSub, Array.replicate_succ, Array.replicate_zero, List.push_toArray, List.append_toArray, List.nil_append, List.cons_append]
  gi_wp2
  gi_quiet (fail)
  gi_wp2
  refine bodyPost_ret (results_tmp3 rfl _ _ _) rfl ?_
  exact ⟨rfl, nq, rfl⟩
/-- The header of an element of the one-byte form, its ID not 15. -/
theorem at1_in (n : Nat) (b len cap i dl : Nat) (x id : Int) (w : World) (hl : len ≤ 1000000000) (hi : i < len) (hx0 : 0 ≤ x) (hx : x < 240) (hid : x / 16 = id) (hdl : x % 16 + 1 = (dl : Int)) (hc : w.cell? ⟨b, i, none⟩ = some (.int .u8 x)) :
    CallsIn Fence.wide n Yba.prog 17 #[.slice (some ⟨b, 0, none⟩) len cap, .int .i64 i, .int .i64 1] w fun e w' => e = .returned (.tuple #[.int .u8 id, .int .i64 ((i : Int) + 1), .int .i64 ((i : Int) + 1 + (dl : Int))]) ∧ ∃ nq, w' = w.drewN nq := by
  rw [← hid, ← hdl, ← Int.add_assoc]
  exact at1_raw n b len cap i x w hl hi hx0 hx hc

theorem at15_in (n : Nat) (b len cap i : Nat) (w : World) (hi : i < len) (hc : w.cell? ⟨b, i, none⟩ = some (.int .u8 240)) :
    CallsIn Fence.wide n Yba.prog 17 #[.slice (some ⟨b, 0, none⟩) len cap, .int .i64 i, .int .i64 1] w fun e w' => e = .returned (.tuple #[.int .u8 15, .int .i64 (-1), .int .i64 (-1)]) ∧ w' = w := by
  refine callsIn_of_wp Yba.func17 rfl trivial ?_ rfl
  simp only [Yba.ntmps17, List.size_toArray, List.length_cons, List.length_nil, Nat.reduceAdd, Nat.reduceSub, Array.replicate_succ, Array.replicate_zero, List.push_toArray, List.append_toArray, List.nil_append, List.cons_append]
  gi_wp2
  refine bodyPost_ret (results_tmp3 rfl _ _ _) rfl ?_
  exact ⟨rfl, rfl⟩

theorem at2_in (n : Nat) (b len cap i : Nat) (x y : Int) (w : World) (hl : len ≤ 1000000000) (hi : i + 1 < len) (hy0 : 0 ≤ y) (hy : y < 256) (hc : w.cell? ⟨b, i, none⟩ = some (.int .u8 x)) (hc2 : w.cell? ⟨b, i + 1, none⟩ = some (.int .u8 y)) :
    CallsIn Fence.wide n Yba.prog 17 #[.slice (some ⟨b, 0, none⟩) len cap, .int .i64 i, .int .i64 2] w fun e w' => e = .returned (.tuple #[.int .u8 x, .int .i64 ((i : Int) + 2), .int .i64 ((i : Int) + 2 + y)]) ∧ ∃ nq, w' = w.drewN nq := by
  refine callsIn_of_wp Yba.func17 rfl trivial ?_ rfl
  simp only [Yba.ntmps17, List.size_toArray, List.length_cons, List.length_nil, Nat.reduceAdd, Nat.reduceSub, Array.replicate_succ, Array.replicate_zero, List.push_toArray, List.append_toArray, List.nil_append, List.cons_append]
  gi_wp2
  gi_quiet (fail)
  gi_wp2
  refine bodyPost_ret (results_tmp3 rfl _ _ _) rfl ?_
  exact ⟨rfl, nq, rfl⟩


/-- The bytes of one piece of a block: a byte of padding, or an element (h: its header's length, 1 or 2). -/
def enc1 (h : Nat) : Option (Int × List Int) → List Int
  | none => [0]
  | some (x, d) => if h = 1 then (x * 16 + ((d.length : Int) - 1)) :: d else x :: (d.length : Int) :: d
def encs (h : Nat) (ts : List (Option (Int × List Int))) : List Int := ts.flatMap (enc1 h)
/-- The elements that a reader sees: ID, where the data begins, its length. -/
def seen (h : Nat) : Nat → List (Option (Int × List Int)) → List (Int × Nat × Nat)
  | _, [] => []
  | o, none :: r => seen h (o + 1) r
  | o, some (x, d) :: r => (x, o + h, d.length) :: seen h (o + h + d.length) r
def okTok (h : Nat) : Option (Int × List Int) → Prop
  | none => True
  | some (x, d) => (1 ≤ x ∧ (if h = 1 then x ≤ 14 ∧ 1 ≤ d.length ∧ d.length ≤ 16 else x ≤ 255 ∧ d.length ≤ 255)) ∧ ∀ y ∈ d, 0 ≤ y ∧ y ≤ 255

theorem enc1_len (h : Nat) (hh : h = 1 ∨ h = 2) (x : Int) (d : List Int) : (enc1 h (some (x, d))).length = h + d.length := by
  rcases hh with rfl | rfl <;> simp [enc1] <;> omega
theorem encs_append (h : Nat) (a b : List (Option (Int × List Int))) : encs h (a ++ b) = encs h a ++ encs h b := by simp [encs]
theorem encs_one (h : Nat) (t : Option (Int × List Int)) : encs h [t] = enc1 h t := by simp [encs]
theorem encs_cons (h : Nat) (t : Option (Int × List Int)) (r : List (Option (Int × List Int))) : encs h (t :: r) = enc1 h t ++ encs h r := by simp [encs]
theorem seen_append (h : Nat) (hh : h = 1 ∨ h = 2) : ∀ (a b : List (Option (Int × List Int))) (o : Nat), seen h o (a ++ b) = seen h o a ++ seen h (o + (encs h a).length) b
  | [], b, o => by simp [seen, encs]
  | none :: r, b, o => by
    rw [encs_cons]
    simp only [List.cons_append, seen, seen_append h hh r b, enc1, List.length_append, List.length_cons, List.length_nil]
    exact congrArg _ (congrArg (fun k => seen h k b) (by omega))
  | some (x, d) :: r, b, o => by
    rw [encs_cons]
    simp only [List.cons_append, seen, seen_append h hh r b, List.length_append, enc1_len h hh]
    exact congrArg _ (congrArg _ (congrArg (fun k => seen h k b) (by omega)))

/-- What lies in the block of h's form: its pieces, then nothing, or (h = 1) what an ID of 15 shuts off. -/
def Blk (h : Nat) (ts : List (Option (Int × List Int))) (bs : List Int) : Prop :=
  (∀ t ∈ ts, okTok h t) ∧ ∃ junk, bs = encs h ts ++ junk ∧ (junk = [] ∨ (h = 1 ∧ ∃ j, junk = 240 :: j))

theorem getD_mid (a b : List Int) (y : Int) : (a ++ y :: b)[a.length]?.getD 0 = y := by simp
theorem blk_at {h : Nat} {dn rest : List (Option (Int × List Int))} {t : Option (Int × List Int)} {bs junk : List Int} (hb : bs = encs h (dn ++ t :: rest) ++ junk) (k : Nat) (hk : k < (enc1 h t).length) :
    (encs h dn).length + k < bs.length ∧ bs[(encs h dn).length + k]?.getD 0 = (enc1 h t)[k]?.getD 0 := by
  rw [encs_append, encs_cons] at hb
  subst hb
  constructor
  · simp only [List.length_append]; omega
  · rw [List.append_assoc, List.getElem?_append_right (by omega), show (encs h dn).length + k - (encs h dn).length = k by omega, List.append_assoc, List.getElem?_append_left hk]

attribute [local simp] Fence.wide
set_option maxRecDepth 100000 in
set_option maxHeartbeats 2000000 in
theorem elems_h1 (n l Bp N P b cap : Nat) (hn : 1 ≤ n) (ts : List (Option (Int × List Int))) (bs : List Int) (hB : Blk 1 ts bs) (hsz : bs.length ≤ 1000000000) (hcap : bs.length ≤ cap) (hbN : b < N) (J Jx : List (Int × Nat × Nat) → World → Prop)
    (hJ : ∀ s A B, J s A → A.grownBy B none → J s B)
    (hY : ∀ pre x W, J pre W → pre.length < (seen 1 0 ts).length → YieldAt Fence.wide (n - 1) Yba.prog l #[.agg #[.int .u8 x.1, .slice (some ⟨b, if x.2.2 = 0 then 0 else x.2.1, none⟩) x.2.2 x.2.2]] W fun e W' =>
      (e = .returned (.bool true) ∧ J (pre ++ [x]) W' ∧ Below N W W') ∨ (e = .returned (.bool false) ∧ Jx (pre ++ [x]) W'))
    (W : World) (hBp : W.cell? ⟨Bp, 0, none⟩ = some (.pointer (some ⟨P, 0, none⟩))) (h5 : W.cell? ⟨P, 5, none⟩ = some (.bool true)) (h6 : W.cell? ⟨P, 6, none⟩ = some (.int .u16 48862)) (h9 : W.cell? ⟨P, 9, none⟩ = some (.slice (some ⟨b, 0, none⟩) bs.length cap))
    (hc : ∀ j, j < bs.length → W.cell? ⟨b, j, none⟩ = some (.int .u8 (bs[j]?.getD 0))) (h0 : J [] W) :
    CallsIn Fence.wide n Yba.prog 15 #[.func (.yield l) #[] #[], .pointer (some ⟨Bp, 0, none⟩)] W fun e W' => (∃ v, e = .returned v) ∧
      ((∃ ys, ys = seen 1 0 ts ∧ J ys W') ∨ (∃ pre, pre <+: seen 1 0 ts ∧ Jx pre W')) := by
  refine callsIn_of_wp Yba.func15 rfl trivial ?_ rfl
  simp only [Yba.ntmps15, List.size_toArray, List.length_cons, List.length_nil, Nat.reduceAdd, Nat.reduceSub, Array.replicate_succ, Array.replicate_zero, List.push_toArray, List.append_toArray, List.nil_append, List.cons_append]
  gi_wp2
  gi_quiet ((gi_at_call 16; exact (header_0 (n - 1) _).mono fun e w2 h => ⟨h.1, _, h.2⟩))
  gi_wp2
  obtain ⟨hok, junk, hbs, hjunk⟩ := hB
  have HBS : Hid (bs = encs 1 ts ++ junk) := hbs
  clear hbs
  have hdr : W.grownBy (W.drewN nq) none := ⟨rfl, rfl, rfl, Nat.le_refl _, fun _ _ _ => rfl⟩
  have hbel : Below N W (W.drewN nq) := ⟨rfl, rfl, rfl, Nat.le_refl _, fun _ _ => rfl⟩
  have h0' := hJ _ _ _ h0 hdr
  gi_loopw [5] (fun i wr => ∃ dn rest, ts = dn ++ rest ∧ i = .int .i64 ((encs 1 dn).length : Nat) ∧ J (seen 1 0 dn) wr ∧ Below N W wr) (fun i _ => bs.length + 1 - (intOf i).toNat)
  case atStart => exact ⟨[], ts, rfl, rfl, h0', hbel⟩
  case round =>
    clear h0' hbel hdr h0
    obtain ⟨dn, rest, hts, rfl, hJs, hnx⟩ := hrel
    cases rest with
    | nil =>
      have hts' : ts = dn := by simpa using hts
      subst hts'
      obtain ⟨i, hi⟩ : ∃ i, (encs 1 ts).length = i := ⟨_, rfl⟩
      rw [hi]
      rcases hjunk with rfl | ⟨_, j, rfl⟩
      · have hbl : bs.length = i := by rw [HBS.out, List.append_nil, hi]
        gi_wp2
        go_end0
        exact ⟨⟨_, rfl⟩, .inl ⟨_, rfl, hJs⟩⟩
      · have hlt : i < bs.length := by rw [HBS.out, List.length_append, hi]; simp
        have hat : bs[i]?.getD 0 = 240 := by rw [HBS.out, ← hi]; simp
        have hcx : wr.cell? ⟨b, i, none⟩ = some (.int .u8 240) := by rw [hnx.cell (p := ⟨b, i, none⟩) hbN, hc i hlt, hat]
        clear hat
        gi_wp2_with (gi_at_call 17; refine (at15_in (n - 1) b bs.length cap i _ hlt hcx).mono ?_; rintro e w1 ⟨rfl, rfl⟩)
        refine bodyPost_ret (results_none rfl _ _ _) rfl ?_
        exact ⟨⟨_, rfl⟩, .inl ⟨_, rfl, hJs⟩⟩
    | cons t rest =>
      subst hts
      cases t with
      | none =>
        obtain ⟨hlt, hat⟩ := blk_at HBS.out 0 (by simp [enc1])
        simp only [enc1, Nat.add_zero] at hlt hat
        obtain ⟨i, hi⟩ : ∃ i, (encs 1 dn).length = i := ⟨_, rfl⟩
        rw [hi] at hlt hat ⊢
        have hcx : wr.cell? ⟨b, i, none⟩ = some (.int .u8 0) := by rw [hnx.cell (p := ⟨b, i, none⟩) hbN, hc i hlt, hat]; rfl
        clear hat
        gi_wp2
        go_roundw
        case rel => exact ⟨dn ++ [none], rest, by simp, by rw [encs_append, encs_one, List.length_append, hi]; simp [enc1], by rw [seen_append 1 (.inl rfl)]; simpa [seen] using hJs, hnx⟩
        case measure => simp [intOf]; omega
      | some xd =>
        obtain ⟨x, d⟩ := xd
        obtain ⟨⟨x1, x2, d1, d2⟩, hby⟩ : okTok 1 (some (x, d)) := hok _ (by simp)
        obtain ⟨hlt, hat⟩ := blk_at HBS.out 0 (by simp [enc1])
        obtain ⟨hlt2, _⟩ := blk_at HBS.out d.length (by simp [enc1])
        simp only [enc1, Nat.add_zero] at hlt hat
        obtain ⟨i, hi⟩ : ∃ i, (encs 1 dn).length = i := ⟨_, rfl⟩
        rw [hi] at hlt hat hlt2 ⊢
        obtain ⟨dl, hdl⟩ : ∃ dl, d.length = dl := ⟨_, rfl⟩
        rw [hdl] at d1 d2 hlt2
        have hcx : wr.cell? ⟨b, i, none⟩ = some (.int .u8 (x * 16 + ((dl : Int) - 1))) := by rw [hnx.cell (p := ⟨b, i, none⟩) hbN, hc i hlt, hat, ← hdl]; rfl
        clear hat
        obtain ⟨z, hz⟩ : ∃ z : Int, x * 16 + ((dl : Int) - 1) = z := ⟨_, rfl⟩
        rw [hz] at hcx
        have hz0 : 0 < z := by omega
        have hz1 : z < 240 := by omega
        have hz2 : z / 16 = x := by omega
        have hz3 : z % 16 = (dl : Int) - 1 := by omega
        have hznb : (z == 0) = false := by simp; omega
        have hlen : (seen 1 0 dn).length < (seen 1 0 (dn ++ some (x, d) :: rest)).length := by rw [seen_append 1 (.inl rfl)]; simp [seen]
        gi_wp2_with (gi_at_call 17; refine (at1_in (n - 1) b bs.length cap i dl z x _ hsz hlt (by omega) hz1 hz2 (by omega) hcx).mono ?_; rintro e w1 ⟨rfl, nd, rfl⟩; obtain ⟨fn, tmps, assign, body, hy, hR⟩ := hY _ (x, i + 1, dl) (wr.drewN nd) (hJ _ _ _ hJs ⟨rfl, rfl, rfl, Nat.le_refl _, fun _ _ _ => rfl⟩) hlen; dsimp only at hy; rw [if_neg (by omega)] at hy)
        refine hR.mono ?_
        rintro e W3 (⟨rfl, hJ3, hk3⟩ | ⟨rfl, hJx3⟩)
        · gi_wp2
          go_roundw
          case rel => exact ⟨dn ++ [some (x, d)], rest, by simp, by rw [encs_append, encs_one, List.length_append, enc1_len 1 (.inl rfl), hi, hdl]; simp; omega, by rw [seen_append 1 (.inl rfl)]; simpa [seen, hi, hdl] using hJ3, (hnx.trans (below_drewN N wr nd)).trans hk3⟩
          case measure => simp [intOf]; omega
        · gi_wp2
          refine bodyPost_ret (results_none rfl _ _ _) rfl ?_
          exact ⟨⟨_, rfl⟩, .inr ⟨_, ⟨seen 1 (i + 1 + dl) rest, by rw [seen_append 1 (.inl rfl)]; simp [seen, hi, hdl]⟩, hJx3⟩⟩

set_option maxRecDepth 100000 in
set_option maxHeartbeats 2000000 in
theorem elems_h2 (n l Bp N P b cap : Nat) (hn : 1 ≤ n) (a : Int) (ha : 0 ≤ a) (ha2 : a ≤ 15) (ts : List (Option (Int × List Int))) (bs : List Int) (hB : Blk 2 ts bs) (hsz : bs.length ≤ 1000000000) (hcap : bs.length ≤ cap) (hbN : b < N) (J Jx : List (Int × Nat × Nat) → World → Prop)
    (hJ : ∀ s A B, J s A → A.grownBy B none → J s B)
    (hY : ∀ pre x W, J pre W → pre.length < (seen 2 0 ts).length → YieldAt Fence.wide (n - 1) Yba.prog l #[.agg #[.int .u8 x.1, .slice (some ⟨b, if x.2.2 = 0 then 0 else x.2.1, none⟩) x.2.2 x.2.2]] W fun e W' =>
      (e = .returned (.bool true) ∧ J (pre ++ [x]) W' ∧ Below N W W') ∨ (e = .returned (.bool false) ∧ Jx (pre ++ [x]) W'))
    (W : World) (hBp : W.cell? ⟨Bp, 0, none⟩ = some (.pointer (some ⟨P, 0, none⟩))) (h5 : W.cell? ⟨P, 5, none⟩ = some (.bool true)) (h6 : W.cell? ⟨P, 6, none⟩ = some (.int .u16 (4096 + a))) (h9 : W.cell? ⟨P, 9, none⟩ = some (.slice (some ⟨b, 0, none⟩) bs.length cap))
    (hc : ∀ j, j < bs.length → W.cell? ⟨b, j, none⟩ = some (.int .u8 (bs[j]?.getD 0))) (h0 : J [] W) :
    CallsIn Fence.wide n Yba.prog 15 #[.func (.yield l) #[] #[], .pointer (some ⟨Bp, 0, none⟩)] W fun e W' => (∃ v, e = .returned v) ∧
      ((∃ ys, ys = seen 2 0 ts ∧ J ys W') ∨ (∃ pre, pre <+: seen 2 0 ts ∧ Jx pre W')) := by
  refine callsIn_of_wp Yba.func15 rfl trivial ?_ rfl
  simp only [Yba.ntmps15, List.size_toArray, List.length_cons, List.length_nil, Nat.reduceAdd, Nat.reduceSub, Array.replicate_succ, Array.replicate_zero, List.push_toArray, List.append_toArray, List.nil_append, List.cons_append]
  gi_wp2
  gi_quiet ((gi_at_call 16; exact (header_1 (n - 1) a ha ha2 _).mono fun e w2 h => ⟨h.1, _, h.2⟩))
  gi_wp2
  obtain ⟨hok, junk, hbs, hjunk⟩ := hB
  have HBS : Hid (bs = encs 2 ts ++ junk) := hbs
  clear hbs
  replace hjunk : junk = [] := hjunk.elim id (fun h => by omega)
  have hdr : W.grownBy (W.drewN nq) none := ⟨rfl, rfl, rfl, Nat.le_refl _, fun _ _ _ => rfl⟩
  have hbel : Below N W (W.drewN nq) := ⟨rfl, rfl, rfl, Nat.le_refl _, fun _ _ => rfl⟩
  have h0' := hJ _ _ _ h0 hdr
  gi_loopw [5] (fun i wr => ∃ dn rest, ts = dn ++ rest ∧ i = .int .i64 ((encs 2 dn).length : Nat) ∧ J (seen 2 0 dn) wr ∧ Below N W wr) (fun i _ => bs.length + 1 - (intOf i).toNat)
  case atStart => exact ⟨[], ts, rfl, rfl, h0', hbel⟩
  case round =>
    clear h0' hbel hdr h0
    obtain ⟨dn, rest, hts, rfl, hJs, hnx⟩ := hrel
    cases rest with
    | nil =>
      have hts' : ts = dn := by simpa using hts
      subst hts'
      obtain ⟨i, hi⟩ : ∃ i, (encs 2 ts).length = i := ⟨_, rfl⟩
      rw [hi]
      have hbl : bs.length = i := by rw [HBS.out, hjunk, List.append_nil, hi]
      gi_wp2
      go_end0
      exact ⟨⟨_, rfl⟩, .inl ⟨_, rfl, hJs⟩⟩
    | cons t rest =>
      subst hts
      cases t with
      | none =>
        obtain ⟨hlt, hat⟩ := blk_at HBS.out 0 (by simp [enc1])
        simp only [enc1, Nat.add_zero] at hlt hat
        obtain ⟨i, hi⟩ : ∃ i, (encs 2 dn).length = i := ⟨_, rfl⟩
        rw [hi] at hlt hat ⊢
        have hcx : wr.cell? ⟨b, i, none⟩ = some (.int .u8 0) := by rw [hnx.cell (p := ⟨b, i, none⟩) hbN, hc i hlt, hat]; rfl
        clear hat
        gi_wp2
        go_roundw
        case rel => exact ⟨dn ++ [none], rest, by simp, by rw [encs_append, encs_one, List.length_append, hi]; simp [enc1], by rw [seen_append 2 (.inr rfl)]; simpa [seen] using hJs, hnx⟩
        case measure => simp [intOf]; omega
      | some xd =>
        obtain ⟨x, d⟩ := xd
        obtain ⟨⟨x1, x2, d2⟩, hby⟩ : okTok 2 (some (x, d)) := hok _ (by simp)
        obtain ⟨hlt, hat⟩ := blk_at HBS.out 0 (by simp [enc1])
        obtain ⟨hlt1, hat1⟩ := blk_at HBS.out 1 (by simp [enc1])
        obtain ⟨hlt2, _⟩ := blk_at HBS.out (d.length + 1) (by simp [enc1])
        simp only [enc1, Nat.add_zero] at hlt hat hat1
        obtain ⟨i, hi⟩ : ∃ i, (encs 2 dn).length = i := ⟨_, rfl⟩
        rw [hi] at hlt hat hlt2 hlt1 hat1 ⊢
        obtain ⟨dl, hdl⟩ : ∃ dl, d.length = dl := ⟨_, rfl⟩
        rw [hdl] at d2 hlt2
        have hcx : wr.cell? ⟨b, i, none⟩ = some (.int .u8 x) := by rw [hnx.cell (p := ⟨b, i, none⟩) hbN, hc i hlt, hat]; rfl
        have hcx1 : wr.cell? ⟨b, i + 1, none⟩ = some (.int .u8 (dl : Int)) := by rw [hnx.cell (p := ⟨b, i + 1, none⟩) hbN, hc (i + 1) hlt1, hat1, ← hdl]; rfl
        clear hat hat1
        have hznb : (x == 0) = false := by simp; omega
        have hlen : (seen 2 0 dn).length < (seen 2 0 (dn ++ some (x, d) :: rest)).length := by rw [seen_append 2 (.inr rfl)]; simp [seen]
        by_cases hd0 : dl = 0
        · subst hd0
          gi_wp2_with (gi_at_call 17; refine (at2_in (n - 1) b bs.length cap i x ((0 : Nat) : Int) _ hsz hlt1 (by omega) (by omega) hcx hcx1).mono ?_; rintro e w1 ⟨rfl, nd, rfl⟩; obtain ⟨fn, tmps, assign, body, hy, hR⟩ := hY _ (x, i + 2, 0) (wr.drewN nd) (hJ _ _ _ hJs ⟨rfl, rfl, rfl, Nat.le_refl _, fun _ _ _ => rfl⟩) hlen; dsimp only at hy; rw [if_pos rfl] at hy)
          refine hR.mono ?_
          rintro e W3 (⟨rfl, hJ3, hk3⟩ | ⟨rfl, hJx3⟩)
          · gi_wp2
            go_roundw
            case rel => exact ⟨dn ++ [some (x, d)], rest, by simp, by rw [encs_append, encs_one, List.length_append, enc1_len 2 (.inr rfl), hi, hdl]; simp, by rw [seen_append 2 (.inr rfl)]; simpa [seen, hi, hdl] using hJ3, (hnx.trans (below_drewN N wr nd)).trans hk3⟩
            case measure => simp [intOf]; omega
          · gi_wp2
            refine bodyPost_ret (results_none rfl _ _ _) rfl ?_
            exact ⟨⟨_, rfl⟩, .inr ⟨_, ⟨seen 2 (i + 2 + 0) rest, by rw [seen_append 2 (.inr rfl)]; simp [seen, hi, hdl]⟩, hJx3⟩⟩
        · gi_wp2_with (gi_at_call 17; refine (at2_in (n - 1) b bs.length cap i x (dl : Int) _ hsz hlt1 (by omega) (by omega) hcx hcx1).mono ?_; rintro e w1 ⟨rfl, nd, rfl⟩; obtain ⟨fn, tmps, assign, body, hy, hR⟩ := hY _ (x, i + 2, dl) (wr.drewN nd) (hJ _ _ _ hJs ⟨rfl, rfl, rfl, Nat.le_refl _, fun _ _ _ => rfl⟩) hlen; dsimp only at hy; rw [if_neg hd0] at hy)
          refine hR.mono ?_
          rintro e W3 (⟨rfl, hJ3, hk3⟩ | ⟨rfl, hJx3⟩)
          · gi_wp2
            go_roundw
            case rel => exact ⟨dn ++ [some (x, d)], rest, by simp, by rw [encs_append, encs_one, List.length_append, enc1_len 2 (.inr rfl), hi, hdl]; simp; omega, by rw [seen_append 2 (.inr rfl)]; simpa [seen, hi, hdl] using hJ3, (hnx.trans (below_drewN N wr nd)).trans hk3⟩
            case measure => simp [intOf]; omega
          · gi_wp2
            refine bodyPost_ret (results_none rfl _ _ _) rfl ?_
            exact ⟨⟨_, rfl⟩, .inr ⟨_, ⟨seen 2 (i + 2 + dl) rest, by rw [seen_append 2 (.inr rfl)]; simp [seen, hi, hdl]⟩, hJx3⟩⟩

set_option maxRecDepth 100000 in
set_option maxHeartbeats 2000000 in
/-- No extension: no round. -/
theorem elems_off (n l Bp P : Nat) (J : List (Int × Nat × Nat) → World → Prop) (W : World) (hBp : W.cell? ⟨Bp, 0, none⟩ = some (.pointer (some ⟨P, 0, none⟩))) (h5 : W.cell? ⟨P, 5, none⟩ = some (.bool false)) (h0 : J [] W) :
    CallsIn Fence.wide n Yba.prog 15 #[.func (.yield l) #[] #[], .pointer (some ⟨Bp, 0, none⟩)] W fun e W' => (∃ v, e = .returned v) ∧ J [] W' := by
  refine callsIn_of_wp Yba.func15 rfl trivial ?_ rfl
  simp only [Yba.ntmps15, List.size_toArray, List.length_cons, List.length_nil, Nat.reduceAdd, Nat.reduceSub, Array.replicate_succ, Array.replicate_zero, List.push_toArray, List.append_toArray, List.nil_append, List.cons_append]
  gi_wp2
  refine bodyPost_ret (results_none rfl _ _ _) rfl ?_
  exact ⟨⟨_, rfl⟩, h0⟩

set_option maxRecDepth 100000 in
set_option maxHeartbeats 2000000 in
/-- A profile that names no form, or an empty block: no round. -/
theorem elems_no (n l Bp P len cap hl : Nat) (ao : Option Addr) (pf : Int) (hlen : len ≤ 1000000000) (hH : ∀ w, CallsIn Fence.wide (n - 1) Yba.prog 16 #[.int .u16 pf] w fun e w' => e = .returned (.int .i64 (hl : Nat)) ∧ w' = w) (hl2 : hl ≤ 2) (hz : hl = 0 ∨ (len = 0 ∧ 0 < hl)) (J : List (Int × Nat × Nat) → World → Prop)
    (hJ : ∀ s A B, J s A → A.grownBy B none → J s B) (W : World) (hBp : W.cell? ⟨Bp, 0, none⟩ = some (.pointer (some ⟨P, 0, none⟩))) (h5 : W.cell? ⟨P, 5, none⟩ = some (.bool true)) (h6 : W.cell? ⟨P, 6, none⟩ = some (.int .u16 pf))
    (h9 : W.cell? ⟨P, 9, none⟩ = some (.slice ao len cap)) (h0 : J [] W) :
    CallsIn Fence.wide n Yba.prog 15 #[.func (.yield l) #[] #[], .pointer (some ⟨Bp, 0, none⟩)] W fun e W' => (∃ v, e = .returned v) ∧ J [] W' := by
  refine callsIn_of_wp Yba.func15 rfl trivial ?_ rfl
  simp only [Yba.ntmps15, List.size_toArray, List.length_cons, List.length_nil, Nat.reduceAdd, Nat.reduceSub, Array.replicate_succ, Array.replicate_zero, List.push_toArray, List.append_toArray, List.nil_append, List.cons_append]
  gi_wp2
  gi_quiet ((gi_at_call 16; exact (hH _).mono fun e w2 h => ⟨h.1, _, h.2⟩))
  have h0' := hJ _ _ _ h0 (show W.grownBy (W.drewN nq) none from ⟨rfl, rfl, rfl, Nat.le_refl _, fun _ _ _ => rfl⟩)
  rcases hz with rfl | ⟨rfl, hz⟩
  · gi_wp2
    gi_loopw [5] (fun i wr => i = .int .i64 0 ∧ J [] wr) (fun _ _ => 0)
    case atStart => exact ⟨rfl, h0'⟩
    case round =>
      obtain ⟨rfl, hJs⟩ := hrel
      gi_wp2
      go_end0
      exact ⟨⟨_, rfl⟩, hJs⟩
  · have hne : ((hl : Int) == 0) = false := by simp; omega
    gi_wp2
    gi_loopw [5] (fun i wr => i = .int .i64 0 ∧ J [] wr) (fun _ _ => 0)
    case atStart => exact ⟨rfl, h0'⟩
    case round =>
      obtain ⟨rfl, hJs⟩ := hrel
      gi_wp2
      go_end0
      exact ⟨⟨_, rfl⟩, hJs⟩

end Go.Proofs.Ybulkedti
