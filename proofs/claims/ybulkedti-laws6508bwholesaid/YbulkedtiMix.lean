import Derived.Test.YbulkedtiRow
import Derived.LaidEql
import Derived.LaidEqlPtr
namespace Go.Proofs.Ybulkedti
open Go.RowKit
set_option linter.unusedVariables false

theorem eql_some (a : Addr) (n c : Nat) (w : World) : (binOp .eql 22 (.slice (some a) n c) (.slice none 0 0)).run Yba.prog w = .ok (.bool false) w := by
  have h : ∀ d : Nat, (Op.equalIn (d + 1) 22 (.slice (some a) n c) (.slice none 0 0)).run Yba.prog w = .ok false w := fun d => by
    simp [Op.equalIn, run_underlying Yba.underlying22]
  simp only [binOp]
  simp [Op.equal, Op.maxDepth, h 9999]
theorem eql_nil (w : World) : (binOp .eql 22 (.slice none 0 0) (.slice none 0 0)).run Yba.prog w = .ok (.bool true) w := by
  have h : ∀ d : Nat, (Op.equalIn (d + 1) 22 (.slice none 0 0) (.slice none 0 0)).run Yba.prog w = .ok true w := fun d => by
    simp [Op.equalIn, run_underlying Yba.underlying22]
  simp only [binOp]
  simp [Op.equal, Op.maxDepth, h 9999]

set_option maxHeartbeats 1000000 in
theorem clone_any (ao : Option Addr) (cap : Nat) (bs : List Int) (w : World) (hb : bs.length ≤ 100000000) (hnil : ao = none → bs.length = 0 ∧ cap = 0) (b o : Nat) (hao : ∀ ad, ao = some ad → ad = ⟨b, o, none⟩) (hcs : ∀ j, j < bs.length → w.cell? ⟨b, o + j, none⟩ = some (.int .u8 (bs[j]?.getD 0))) :
    Calls Yba.prog 6 #[.slice ao bs.length cap] w fun e w' => ∃ v, e = .returned v ∧ Bys w' w.heap.size v bs ∧ Below w.heap.size w w' := by
  cases ao with
  | none =>
    obtain ⟨h0, rfl⟩ := hnil rfl
    have hbs : bs = [] := List.eq_nil_of_length_eq_zero h0
    subst hbs
    have hq := eql_nil w
    go_enter Yba.func6, Yba.ntmps6
    go_wp2
    go_ret
    exact ⟨_, rfl, World.ownsRow_nil _ _ _ _, Below.refl _ _⟩
  | some ad =>
    obtain rfl := hao ad rfl
    obtain ⟨n, hn⟩ : ∃ n, bs.length = n := ⟨_, rfl⟩
    rw [hn]
    have hq := eql_some ⟨b, o, none⟩ n cap w
    have hown : Bys (w.alloc (.cells #[] 5)) w.heap.size (.slice (some ⟨w.heap.size, 0, none⟩) 0 0) [] :=
      ⟨rfl, .inr ⟨w.heap.size, 0, #[], rfl, Nat.le_refl _, World.alloc_heap_new w _, Nat.le_refl _, by simp [maxLen], rfl, rfl⟩⟩
    have hnews : ∀ j u, (bs.map u8v)[j]? = some u → (w.alloc (.cells #[] 5)).cell? ((⟨b, o, none⟩ : Addr).add j) = some u := by
      intro j u hu
      rw [List.getElem?_map] at hu
      by_cases hj : j < bs.length
      · have h := hcs j hj
        rw [add_at, World.cell?_of_block (w := w) (a := ⟨b, o + j, none⟩) (Below.heap_alloc w _ _ (World.block_lt_of_cell? _ _ h)), h, ← hu, List.getElem?_eq_getElem hj]
        rfl
      · rw [List.getElem?_eq_none (by omega)] at hu
        cases hu
    go_enter Yba.func6, Yba.ntmps6
    go_wp2_with (at_builtin; refine append_bytes w.heap.size (.slice (some ⟨w.heap.size, 0, none⟩) 0 0) [] rfl hown ⟨b, o, none⟩ n cap bs rfl hn hnews (by simp; omega) (by simp) 0 rfl ?_; intro ao1 c1 w1 hb1 he1)
    go_ret
    refine ⟨_, rfl, ?_, ((Below.refl _ w).alloc (Nat.le_refl _) _).grown he1.by (by simp) (fun q hq => (World.ownsRow.lt hown q hq).1)⟩
    rw [Nat.zero_add] at hb1
    exact hb1

theorem drewN_add (w : World) (p q : Nat) : (w.drewN p).drewN q = w.drewN (p + q) := by simp [World.drewN, Nat.add_assoc]

set_option maxRecDepth 20000 in
set_option maxHeartbeats 2000000 in
theorem equal_any (a1 a2 : Option Addr) (c1 c2 b1 o1 b2 o2 n : Nat) (B : Nat → Int) (w : World) (hn : n ≤ 100000000) (h1 : 0 < n → a1 = some ⟨b1, o1, none⟩) (h2 : 0 < n → a2 = some ⟨b2, o2, none⟩)
    (r1 : ∀ j, j < n → w.cell? ⟨b1, o1 + j, none⟩ = some (.int .u8 (B j))) (r2 : ∀ j, j < n → w.cell? ⟨b2, o2 + j, none⟩ = some (.int .u8 (B j))) :
    Calls Yba.prog 8 #[.slice a1 n c1, .slice a2 n c2] w fun e w' => e = .returned (.bool true) ∧ ∃ nq, w' = w.drewN nq := by
  have R1 : Hid (∀ j, j < n → w.cell? ⟨b1, o1 + j, none⟩ = some (.int .u8 (B j))) := r1
  have R2 : Hid (∀ j, j < n → w.cell? ⟨b2, o2 + j, none⟩ = some (.int .u8 (B j))) := r2
  clear r1 r2
  go_enter Yba.func8, Yba.ntmps8
  go_wp2
  go_loopw [5, 13] (fun _ i wr => ∃ k q : Nat, i = .int .i64 k ∧ k ≤ n ∧ wr = w.drewN q) (fun _ i _ => n - (intOf i).toNat)
  case atStart => exact ⟨0, 0, rfl, by omega, rfl⟩
  case round =>
    obtain ⟨k, q, rfl, hk, hwr⟩ := hrel
    have HW : Hid (wr = w.drewN q) := hwr
    clear hwr
    by_cases hlt : k < n
    · obtain rfl := h1 (by omega)
      obtain rfl := h2 (by omega)
      have e1 : wr.cell? ⟨b1, o1 + k, none⟩ = some (.int .u8 (B k)) := by rw [HW.out]; exact R1.out k hlt
      have e2 : wr.cell? ⟨b2, o2 + k, none⟩ = some (.int .u8 (B k)) := by rw [HW.out]; exact R2.out k hlt
      go_wp2_with fail
      go_quiet (fail)
      go_wp2
      go_roundw
      case rel => exact ⟨k + 1, q + nq, by go_num, by omega, by rw [HW.out]; exact drewN_add w q nq⟩
      case measure => simp [intOf]; omega
    · obtain rfl : n = k := by omega
      go_wp2
      go_ret
      exact ⟨rfl, q, HW.out⟩

theorem info54 : ∃ i, Yba.prog.info? 5 = some i := by
  have : (Yba.prog.info? 5).isSome = true := by kernel_rfl
  exact Option.isSome_iff_exists.1 this
theorem Pack.below' {N N' : Nat} {W : World} {P : Nat} {ext : Bool} {m : Nat} {a : Int} {b : Nat} {bs : List Int} (h : Pack N W P ext m a b bs) (hn : N ≤ N') : Pack N' W P ext m a b bs := by
  obtain ⟨h0, h5, h6, ao, cap, h9, hc, hao, hcs⟩ := h
  exact ⟨by omega, h5, h6, ao, cap, h9, hc, fun h => ⟨(hao h).1, by have := (hao h).2; omega⟩, hcs⟩
theorem neq_ptr (a : Addr) (w : World) : (binOp .neq 54 (.pointer (some a)) (.pointer (some a))).run Yba.prog w = .ok (.bool false) w := by
  obtain ⟨i, hi⟩ := info54
  have h : ∀ d : Nat, (Op.equalIn (d + 1) 54 (.pointer (some a)) (.pointer (some a))).run Yba.prog w = .ok true w := fun d => by
    simp [Op.equalIn, run_underlying Yba.underlying54, sizeOf, typeInfo, hi, run_sameAddr_same]
  simp only [binOp]
  simp [Op.equal, Op.maxDepth, h 9999]

set_option maxRecDepth 20000 in
set_option maxHeartbeats 2000000 in
theorem same_any (ao : Option Addr) (n c : Nat) (w : World) (hn : n ≤ 100000000) (hc : c ≤ maxLen) (hnil : ao = none → n = 0 ∧ c = 0) :
    Calls Yba.prog 9 #[.slice ao n c, .slice ao n c] w fun e w' => e = .returned (.bool true) ∧ ∃ nq, w' = w.drewN nq := by
  have hc' : c ≤ 9223372036854775807 := by simpa [maxLen] using hc
  cases ao with
  | none =>
    obtain ⟨rfl, rfl⟩ := hnil rfl
    have hq := eql_nil w
    go_enter Yba.func9, Yba.ntmps9
    go_wp2_with fail
    go_quiet (fail)
    go_wp2
    go_ret
    exact ⟨rfl, nq, rfl⟩
  | some ad =>
    have hq := eql_some ad n c w
    have hp := fun x => neq_ptr x
    by_cases h0 : 0 < n
    · have h0' : (0 : Int) < (n : Int) := by omega
      go_enter Yba.func9, Yba.ntmps9
      go_wp2_with fail
      go_quiet (fail)
      go_wp2
      go_ret
      exact ⟨rfl, nq, rfl⟩
    · obtain rfl : n = 0 := by omega
      go_enter Yba.func9, Yba.ntmps9
      go_wp2_with fail
      go_quiet (fail)
      go_wp2
      go_ret
      exact ⟨rfl, nq, rfl⟩

theorem Bys.below {w w' : World} {base : Nat} {v : Value} {bs : List Int} (h : Bys w base v bs) (hb : Below w.heap.size w w') : Bys w' base v bs :=
  World.ownsRow.kept h (row := none) ⟨hb.os, hb.tape, hb.output, hb.size, fun k hk _ => hb.block k hk⟩ (by
    by_cases e : v.ownBlock = none
    · exact .inl e
    · exact .inr e)

theorem count_q (P csn C : Nat) (cao : Option Addr) (cc : Nat) (w : World) (hc : w.cell? ⟨P, 8, none⟩ = some (.slice cao csn cc)) (hn : csn ≤ 1000000) (hC : csn / 4 = C) (q : Nat) :
    Calls Yba.prog 13 #[.pointer (some ⟨P, 0, none⟩)] (w.drewN q) fun e w' => e = .returned (.int .i64 (C : Int)) ∧ w' = w.drewN q := by
  subst hC
  exact count_any P csn cao cc (w.drewN q) hc hn

theorem news1' (w : World) (x : Int) : ∀ j u, ([x].map u8v)[j]? = some u → (w.alloc (.cells #[.int .u8 x] 5)).cell? ((⟨w.heap.size, 0, none⟩ : Addr).add j) = some u :=
  World.news_of_block (cs := #[.int .u8 x]) (t := 5) (fr := (0, 0)) (World.alloc_heap_new w _)

/-- The slice's own cells read as the bytes bs. -/
def InRd (w : World) (ao : Option Addr) (bs : List Int) : Prop := ∀ g, ao = some ⟨g, 0, none⟩ → ∀ j, j < bs.length → w.cell? ⟨g, j, none⟩ = some (.int .u8 (bs[j]?.getD 0))
theorem InRd.grown {w w' : World} {ao : Option Addr} {bs : List Int} {row : Option Nat} (h : InRd w ao bs) (hg : w.grownBy w' row) (hne : ∀ g, ao = some ⟨g, 0, none⟩ → some g ≠ row) : InRd w' ao bs :=
  fun g e j hj => hg.cell (h g e j hj) (hne g e)
theorem InRd.app {w w' : World} {base : Nat} {ao ao' : Option Addr} {bs more news : List Int} {n c : Nat} {v : Value} (h : InRd w ao bs) (hb : Bys w' base (.slice ao' n c) ((bs ++ more) ++ news)) (he : Ei w w' v (.slice ao' n c)) : InRd w' ao bs := by
  intro g e j hj
  subst e
  rcases he with ⟨e1, hg⟩ | ⟨_, hg⟩
  · by_cases hv : some g = v.ownBlock
    · obtain ⟨ao2, c2, hv2, _, _, hrd⟩ := hb.at
      injection hv2 with e2 e3 e4
      subst e2
      rw [← hv] at e1
      have : ∃ a, ao' = some a ∧ a.block = g := by
        cases ao' with
        | none => simp [Value.ownBlock] at e1
        | some a => exact ⟨a, rfl, by simpa [Value.ownBlock] using e1⟩
      obtain ⟨a, rfl, hab⟩ := this
      unfold Bys at hb
      rcases hb.2 with ⟨h0, _⟩ | ⟨g', c', cur, hv', _⟩
      · cases h0
      · injection hv' with e5
        injection e5 with e5
        subst e5
        simp only at hab
        subst hab
        have := hrd g' rfl j (by simp; omega)
        rw [this, List.append_assoc, List.getElem?_append_left hj]
    · exact hg.cell (h g rfl j hj) hv
  · exact hg.cell (h g rfl j hj) (by simp)

def lvErr : Value := .iface 41 (.string { data := #[108, 101, 118, 101, 108, 45, 99, 111, 117, 110, 116] })
def lev (bs : List Int) (o : Nat) (j : Nat) : Int := bits BinOp.and IntKind.u8 (bs[o + j]?.getD 0) 127

def Mixed (w : World) (base : Nat) (iao : Option Addr) (icap : Nat) (ds : List Int) (sh : List (Int × Nat × Nat)) (id : Int) (csn : Nat) (bs : List Int) (e : Ending) (w' : World) : Prop :=
  (((∀ y ∈ sh, y.1 ≠ id) ∧ e = .returned (.tuple #[.slice iao ds.length icap, .bool false, .nilIface])) ∨
   ∃ pre x post, sh = pre ++ x :: post ∧ (∀ y ∈ pre, y.1 ≠ id) ∧ x.1 = id ∧
     ((x.2.2 ≠ csn / 4 ∧ e = .returned (.tuple #[.slice iao ds.length icap, .bool true, lvErr])) ∨
      (x.2.2 = csn / 4 ∧ ∃ ao' c', e = .returned (.tuple #[.slice ao' (ds.length + x.2.2) c', .bool true, .nilIface]) ∧ Bys w' base (.slice ao' (ds.length + x.2.2) c') (ds ++ (List.range x.2.2).map (lev bs x.2.1))))) ∧
  InRd w' iao ds ∧ Below base w w'

set_option maxRecDepth 20000 in
set_option maxHeartbeats 2000000 in
theorem mixer_any (P b m csn cc icap base : Nat) (a id : Int) (cao iao : Option Addr) (ha : 0 ≤ a) (ha2 : a ≤ 15) (ext : Bool) (ts : List (Option (Int × List Int))) (bs ds : List Int) (hsz : bs.length ≤ 1000000000) (hB : m < 2 → Blk (hlen m) ts bs)
    (w : World) (hbase : base ≤ w.heap.size) (hP : Pack base w P ext m a b bs) (hcs : w.cell? ⟨P, 8, none⟩ = some (.slice cao csn cc)) (hcsn : csn ≤ 1000000) (hin : Bys w base (.slice iao ds.length icap) ds) (hds : ds.length ≤ 1048576)
    (hfit : ∀ x ∈ shown ext m ts, x.2.1 + x.2.2 ≤ bs.length ∧ x.2.2 ≤ 255) :
    Calls Yba.prog 7 #[.pointer (some ⟨P, 0, none⟩), .slice iao ds.length icap, .int .u8 id] w fun e w' => Mixed w base iao icap ds (shown ext m ts) id csn bs e w' := by
  have hel := callsIn_wide.1 (element_in 3 (by omega) P b m a id ha ha2 ext ts bs hsz hB w (hP.below' hbase))
  have HIN : Hid (Bys w base (.slice iao ds.length icap) ds) := hin
  have HEL : Hid (Calls Yba.prog 12 #[.pointer (some ⟨P, 0, none⟩), .int .u8 id] w fun e W' =>
      ((∃ pre x post, shown ext m ts = pre ++ x :: post ∧ (∀ y ∈ pre, y.1 ≠ id) ∧ x.1 = id ∧ e = .returned (.tuple #[.agg #[.int .u8 id, .slice (some ⟨b, voff x, none⟩) x.2.2 x.2.2], .bool true])) ∨
        ((∀ y ∈ shown ext m ts, y.1 ≠ id) ∧ e = .returned (.tuple #[.agg #[.int .u8 0, .slice none 0 0], .bool false]))) ∧ Below w.heap.size w W') := hel
  have HP : Hid (Pack base w P ext m a b bs) := hP
  have HFIT : Hid (∀ x ∈ shown ext m ts, x.2.1 + x.2.2 ≤ bs.length ∧ x.2.2 ≤ 255) := hfit
  have HCS : Hid (w.cell? ⟨P, 8, none⟩ = some (.slice cao csn cc)) := hcs
  clear hin hel hP hfit hcs
  go_enter Yba.func7, Yba.ntmps7
  go_wp2_with (go_at_call 12; refine HEL.out.mono ?_; rintro e w1 ⟨(⟨pre, x, post, hsh, hpre, hxid, rfl⟩ | ⟨hnone, rfl⟩), hbel⟩)
  · obtain ⟨xi, off, dl⟩ := x
    simp only at hxid hsh
    subst hxid
    obtain ⟨vo, hvo⟩ : ∃ vo, voff (xi, off, dl) = vo := ⟨_, rfl⟩
    dsimp only
    rw [hvo]
    obtain ⟨hf1, hf2⟩ := HFIT.out (xi, off, dl) (by rw [hsh]; simp)
    simp only at hf1 hf2
    have hvo' : 0 < dl → vo = off := fun h => by rw [← hvo]; simp only [voff]; rw [if_neg (by omega)]
    obtain ⟨w2, hw2⟩ : ∃ w2, w1.alloc (.cells #[.int .u8 xi, .slice (some ⟨b, vo, none⟩) dl dl] 50) = w2 := ⟨_, rfl⟩
    have hbel2 : Below w.heap.size w w2 := by rw [← hw2]; exact hbel.alloc hbel.size _
    have hrec : Rec w2 w1.heap.size 50 #[.int .u8 xi, .slice (some ⟨b, vo, none⟩) dl dl] := by rw [← hw2]; exact World.alloc_heap_new _ _
    have d1 : w2.cell? ⟨w1.heap.size, 1, none⟩ = some (.slice (some ⟨b, vo, none⟩) dl dl) := by simp [World.cell?, show w2.heap[w1.heap.size]? = _ from hrec]
    have hP8 : w2.cell? ⟨P, 8, none⟩ = some (.slice cao csn cc) := (hbel2.cell (p := ⟨P, 8, none⟩) (by have := HP.out.1; simp; omega)).trans HCS.out
    rw [hw2]
    clear hw2
    have hrecH : Hid (w2.heap[w1.heap.size]? = some (.cells #[.int .u8 xi, .slice (some ⟨b, vo, none⟩) dl dl] 50 (0, 0))) := hrec
    have hin2 : Bys w2 base (.slice iao ds.length icap) ds := HIN.out.below hbel2
    have hird : InRd w2 iao ds := by obtain ⟨ao3, c3, e3, _, _, hr3⟩ := hin2.at; injection e3 with e3; subst e3; exact hr3
    have hbelB : Below base w w2 := hbel2.mono hbase
    have hsz2 := hbel2.size
    clear hbel hrec
    by_cases hne : csn / 4 = dl
    · have HNE : Hid (csn / 4 = dl) := hne
      clear hne
      go_quiet ((go_at_call 13; exact (count_q P csn dl cao cc w2 hP8 hcsn HNE.out _).mono fun e w'' h => ⟨h.1, _, h.2⟩))
      clear d1
      obtain ⟨w3, hw3⟩ : ∃ w3, w2.drewN nq = w3 := ⟨_, rfl⟩
      have hb3 : Below w2.heap.size w2 w3 := by rw [← hw3]; exact below_drewN _ _ _
      have d1 : w3.cell? ⟨w1.heap.size, 1, none⟩ = some (.slice (some ⟨b, vo, none⟩) dl dl) := by rw [← hw3]; simp [World.cell?, hrecH.out]
      rw [hw3]
      have hbelC : Below base w w3 := hbelB.trans (hb3.mono (by omega))
      have hin3 : Bys w3 base (.slice iao ds.length icap) ds := hin2.below hb3
      have hird3 : InRd w3 iao ds := by obtain ⟨ao3, c3, e3, _, _, hr3⟩ := hin3.at; injection e3 with e3; subst e3; exact hr3
      clear hw3 hird hin2 hP8 hbelB hb3 hbel2
      have H0 : Hid (Bys w3 base (.slice iao ds.length icap) ds ∧ InRd w3 iao ds ∧ Below base w w3) := ⟨hin3, hird3, hbelC⟩
      clear hin3 hird3 hbelC
      obtain ⟨nd, hnd⟩ : ∃ nd, ds.length = nd := ⟨_, rfl⟩
      rw [hnd] at hds H0 ⊢
      go_wp2
      go_loopw [1, 11, 34] (fun v _ i wr => ∃ (k : Nat) (ao' : Option Addr) (c' : Nat), i = .int .i64 k ∧ k ≤ dl ∧ v = .slice ao' (nd + k) c' ∧ Hid (Bys wr base (.slice ao' (nd + k) c') (ds ++ (List.range k).map (lev bs off)) ∧ InRd wr iao ds ∧ Below base w wr)) (fun _ _ i _ => dl - (intOf i).toNat)
      case atStart => exact ⟨0, iao, icap, rfl, by omega, rfl, by have h := H0.out; exact ⟨by simpa using h.1, h.2⟩⟩
      case round =>
        clear d1 H0
        obtain ⟨k, ao', c', rfl, hk, rfl, HK⟩ := hrel
        by_cases hlt : k < dl
        · obtain ⟨hbk, hik, hbelk⟩ := HK.out
          obtain rfl := hvo' (by omega)
          have hlt' : (k : Int) < (dl : Int) := by omega
          have cB : wr.cell? ⟨b, vo + k, none⟩ = some (.int .u8 (bs[vo + k]?.getD 0)) := by
            obtain ⟨_, _, _, _, _, _, _, hao, hcs⟩ := HP.out
            exact (hbelk.cell (p := ⟨b, vo + k, none⟩) (hao (by omega)).2).trans (hcs (vo + k) (by omega))
          obtain ⟨y, hy⟩ : ∃ y, bs[vo + k]?.getD 0 = y := ⟨_, rfl⟩
          rw [hy] at cB
          have hszk := hbelk.size
          have hszb : base ≤ (wr.alloc (.cells #[.int .u8 (bits BinOp.and IntKind.u8 y 127)] 5)).heap.size := by simp; omega
          have hbk1 : Bys (wr.alloc (.cells #[.int .u8 (bits BinOp.and IntKind.u8 y 127)] 5)) base (.slice ao' (nd + k) c') (ds ++ (List.range k).map (lev bs vo)) := hbk.below ((Below.refl _ _).alloc (Nat.le_refl _) _)
          have hik1 : InRd (wr.alloc (.cells #[.int .u8 (bits BinOp.and IntKind.u8 y 127)] 5)) iao ds := hik.grown (World.grownBy_alloc wr _ none) (by simp)
          have hlk : (ds ++ (List.range k).map (lev bs vo)).length = nd + k := by simp [hnd]
          have HB1 : Hid (Bys (wr.alloc (.cells #[.int .u8 (bits BinOp.and IntKind.u8 y 127)] 5)) base (.slice ao' (nd + k) c') (ds ++ (List.range k).map (lev bs vo))) := hbk1
          clear hbk hik hbk1
          have hcap : (nd + k) + 1 ≤ 100000000000 := by omega
          go_wp2_with (at_builtin; refine append_bytes base (.slice ao' (nd + k) c') (ds ++ (List.range k).map (lev bs vo)) rfl HB1.out ⟨wr.heap.size, 0, none⟩ 1 1 [bits BinOp.and IntKind.u8 y 127] rfl rfl (news1' wr (bits BinOp.and IntKind.u8 y 127)) (by rw [hlk]; exact hcap) hszb (nd + k) hlk ?_; intro ao1 c1 w4 hb4 he4)
          go_roundw
          case rel =>
            refine ⟨k + 1, ao1, c1, by go_num, by omega, by rw [Nat.add_assoc], ?_, hik1.app hb4 he4, (hbelk.alloc (by omega) _).grown he4.by hszb (fun q hq => (World.ownsRow.lt HB1.out q hq).1)⟩
            have : ds ++ (List.range (k + 1)).map (lev bs vo) = ds ++ (List.range k).map (lev bs vo) ++ [bits BinOp.and IntKind.u8 y 127] := by simp [List.range_succ, lev, hy]
            rw [this, ← Nat.add_assoc]
            exact hb4
          case measure => simp [intOf]; omega
        · obtain rfl : dl = k := by omega
          go_wp2
          refine bodyPost_ret (results_tmp3 rfl _ _ _) rfl ?_
          obtain ⟨hbk, hik, hbelk⟩ := HK.out
          exact ⟨.inr ⟨pre, (xi, off, dl), post, hsh, hpre, rfl, .inr ⟨HNE.out.symm, ao', c', by rw [hnd]; rfl, by rw [hnd]; exact hbk⟩⟩, hik, hbelk⟩
    · obtain ⟨C, hC⟩ : ∃ C, csn / 4 = C := ⟨_, rfl⟩
      rw [hC] at hne
      have hne' : ((dl : Int) != (C : Int)) = true := by simp; omega
      have HC : Hid (csn / 4 = C) := hC
      clear hC
      go_quiet ((go_at_call 13; exact (count_q P csn C cao cc w2 hP8 hcsn HC.out _).mono fun e w'' h => ⟨h.1, _, h.2⟩))
      go_wp2
      refine bodyPost_ret (results_tmp3 rfl _ _ _) rfl ?_
      have hdr : w2.grownBy (w2.drewN nq) none := ⟨rfl, rfl, rfl, Nat.le_refl _, fun _ _ _ => rfl⟩
      exact ⟨.inr ⟨pre, (xi, off, dl), post, hsh, hpre, rfl, .inl ⟨by rw [HC.out]; simp only; omega, rfl⟩⟩, hird.grown hdr (by simp), hbelB.trans (below_drewN _ _ _)⟩
  · refine bodyPost_ret (results_tmp3 rfl _ _ _) rfl ?_
    have hbel2 : Below w.heap.size w (w1.alloc (.cells #[.int .u8 0, .slice none 0 0] 50)) := hbel.alloc hbel.size _
    have hin2 := HIN.out.below hbel2
    obtain ⟨ao3, c3, e3, _, _, hr3⟩ := hin2.at
    injection e3 with e3
    subst e3
    exact ⟨.inl ⟨hnone, rfl⟩, hr3, hbel2.mono hbase⟩
end Go.Proofs.Ybulkedti
