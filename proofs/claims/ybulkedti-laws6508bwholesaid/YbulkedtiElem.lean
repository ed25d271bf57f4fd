import Derived.Test.YbulkedtiAt
namespace Go.Proofs.Ybulkedti
open Go.RowKit Go.Shelf
attribute [local go_sem] Oper.semAt_some

def Pack (N : Nat) (W : World) (P : Nat) (ext : Bool) (m : Nat) (a : Int) (b : Nat) (bs : List Int) : Prop :=
  P < N ∧ W.cell? ⟨P, 5, none⟩ = some (.bool ext) ∧ W.cell? ⟨P, 6, none⟩ = some (.int .u16 (profOf m a)) ∧
  ∃ ao cap, W.cell? ⟨P, 9, none⟩ = some (.slice ao bs.length cap) ∧ bs.length ≤ cap ∧ (0 < bs.length → ao = some ⟨b, 0, none⟩ ∧ b < N) ∧
    ∀ j, j < bs.length → W.cell? ⟨b, j, none⟩ = some (.int .u8 (bs[j]?.getD 0))
theorem Pack.below {N : Nat} {W W' : World} {P : Nat} {ext : Bool} {m : Nat} {a : Int} {b : Nat} {bs : List Int} (h : Pack N W P ext m a b bs) (hb : Below N W W') : Pack N W' P ext m a b bs := by
  obtain ⟨h0, h5, h6, ao, cap, h9, hc, hao, hcs⟩ := h
  exact ⟨h0, (hb.cell (p := ⟨P, 5, none⟩) h0).trans h5, (hb.cell (p := ⟨P, 6, none⟩) h0).trans h6, ao, cap, (hb.cell (p := ⟨P, 9, none⟩) h0).trans h9, hc, hao,
    fun j hj => (hb.cell (p := ⟨b, j, none⟩) (hao (by omega)).2).trans (hcs j hj)⟩

/-- Where the slice of an element's data points. -/
def voff (x : Int × Nat × Nat) : Nat := if x.2.2 = 0 then 0 else x.2.1
def shown (ext : Bool) (m : Nat) (ts : List (Option (Int × List Int))) : List (Int × Nat × Nat) := if ext = true ∧ m < 2 then seen (hlen m) 0 ts else []

theorem elems_stops (n : Nat) (hn : 1 ≤ n) (Bp N P b m : Nat) (a : Int) (ha : 0 ≤ a) (ha2 : a ≤ 15) (ext : Bool) (ts : List (Option (Int × List Int))) (bs : List Int) (hsz : bs.length ≤ 1000000000) (hB : m < 2 → Blk (hlen m) ts bs)
    (w : World) (hBp : Bp < w.heap.size) (hN : N ≤ w.heap.size) (hc : w.cell? ⟨Bp, 0, none⟩ = some (.pointer (some ⟨P, 0, none⟩))) (hP : Pack N w P ext m a b bs) :
    SeqStopsK Fence.wide n Yba.prog 15 #[.pointer (some ⟨Bp, 0, none⟩)] (fun x : Int × Nat × Nat => #[Value.agg #[.int .u8 x.1, .slice (some ⟨b, voff x, none⟩) x.2.2 x.2.2]]) (Below N)
      (fun ys => ys = shown ext m ts) (fun pre => pre <+: shown ext m ts) (shown ext m ts).length w := fun l J Jx W hW hJ0 _ hY h0 => by
  have hJ : ∀ s A B, J s A → A.grownBy B none → J s B := fun s A B h g => hJ0 s A B none h g (fun r e => by cases e)
  have hc' := (hW.cell (p := ⟨Bp, 0, none⟩) hBp).trans hc
  obtain ⟨hPN, h5, h6, ao, cap, h9, hcap, hao, hcs⟩ := hP.below (hW.mono hN)
  cases ext with
  | false =>
    exact (elems_off n l Bp P J W hc' h5 h0).mono fun e W' ⟨he, hj⟩ => ⟨he, .inl ⟨_, by simp [shown], hj⟩⟩
  | true =>
    by_cases hm : m < 2
    · by_cases hl : bs.length = 0
      · have hts : seen (hlen m) 0 ts = [] := by
          obtain ⟨_, junk, hbs, _⟩ := hB hm
          have : (encs (hlen m) ts).length = 0 := by rw [hbs, List.length_append] at hl; omega
          cases ts with
          | nil => rfl
          | cons t r =>
            exfalso
            rw [encs_cons, List.length_append] at this
            have h2 : 0 < (enc1 (hlen m) t).length := by
              rcases t with _ | ⟨x, d⟩
              · simp [enc1]
              · simp only [enc1]; split <;> simp
            omega
        rw [hl] at h9
        refine (elems_no n l Bp P 0 cap (hlen m) ao (profOf m a) (by omega) (fun w => header_in _ m a ha ha2 w) ?_ (.inr ⟨rfl, ?_⟩) J hJ W hc' h5 h6 h9 h0).mono fun e W' ⟨he, hj⟩ => ⟨he, .inl ⟨_, by simp [shown, hts], hj⟩⟩
        · unfold hlen; split <;> (try split) <;> omega
        · unfold hlen; split <;> (try split) <;> omega
      · obtain ⟨rfl, hbN⟩ := hao (by omega)
        have hs : shown true m ts = seen (hlen m) 0 ts := by simp [shown, hm]
        rw [hs] at hY ⊢
        have : m = 0 ∨ m = 1 := by omega
        rcases this with rfl | rfl
        · exact elems_h1 n l Bp N P b cap hn ts bs (hB hm) hsz hcap hbN J Jx hJ hY W hc' h5 h6 h9 hcs h0
        · exact elems_h2 n l Bp N P b cap hn a ha ha2 ts bs (hB hm) hsz hcap hbN J Jx hJ hY W hc' h5 h6 h9 hcs h0
    · refine (elems_no n l Bp P bs.length cap (hlen m) ao (profOf m a) (by omega) (fun w => header_in _ m a ha ha2 w) ?_ (.inl ?_) J hJ W hc' h5 h6 h9 h0).mono fun e W' ⟨he, hj⟩ => ⟨he, .inl ⟨_, by simp [shown, hm], hj⟩⟩
      · unfold hlen; split <;> (try split) <;> omega
      · unfold hlen; rw [if_neg (by omega), if_neg (by omega)]

set_option maxHeartbeats 1000000 in
theorem elements_in (n : Nat) (p0 : Option Addr) (w : World) :
    CallsIn Fence.wide n Yba.prog 14 #[.pointer p0] w fun e w' => e = .returned (.func (.func 15) #[] #[.pointer (some ⟨w.heap.size, 0, none⟩)]) ∧ w' = w.alloc (.cells #[.pointer p0] 31) := by
  refine callsIn_of_wp Yba.func14 rfl trivial ?_ rfl
  simp only [Yba.ntmps14, List.size_toArray, List.length_cons, List.length_nil, Nat.reduceAdd, Nat.reduceSub, Array.replicate_succ, Array.replicate_zero, List.push_toArray, List.append_toArray, List.nil_append, List.cons_append]
  gi_wp2
  go_ret
  exact ⟨rfl, rfl⟩

/-- The block B holds the cells cs. -/
def Rec (W : World) (B : Nat) (t : TypeId) (cs : Array Value) : Prop := W.heap[B]? = some (.cells cs t (0, 0))
theorem Rec.lt {W : World} {B : Nat} {t : TypeId} {cs : Array Value} (h : Rec W B t cs) : B < W.heap.size := (Array.getElem?_eq_some_iff.1 h).1
theorem Rec.kept {W W' : World} {row : Option Nat} {B : Nat} {t : TypeId} {cs : Array Value} (h : Rec W B t cs) (hg : W.grownBy W' row) (hne : some B ≠ row) : Rec W' B t cs := (hg.block B h.lt hne).trans h
theorem Rec.alloc {W : World} {B : Nat} {t : TypeId} {cs : Array Value} (h : Rec W B t cs) (o : Obj) : Rec (W.alloc o) B t cs := h.kept (World.grownBy_alloc W o none) (by simp)
theorem Rec.other {W : World} {B : Nat} {t : TypeId} {cs : Array Value} (h : Rec W B t cs) {a : Addr} (hne : B ≠ a.block) (u : Value) : Rec (W.setCell a u) B t cs := (Below.heap_setCell W a u B hne).trans h
theorem Rec.set {W : World} {B : Nat} {t : TypeId} {cs : Array Value} (h : Rec W B t cs) (j : Nat) (u : Value) : Rec (W.setCell ⟨B, j, none⟩ u) B t (cs.setIfInBounds j u) := by
  have hl := h.lt
  simp only [Rec, World.setCell, Array.getElem?_modify, if_true]
  rw [show W.heap[B]? = _ from h]
  rfl
theorem rec_own {β : Type} (B : Nat) (t : TypeId) (f : β → Array Value) : Own (fun s W => Rec W B t (f s)) := fun s X Y row hs hg hrow =>
  hs.kept hg (fun e' => by obtain ⟨o, ho, hc⟩ := hrow B e'.symm; rw [show X.heap[B]? = _ from hs] at ho; cases ho; cases hc)

theorem results12 {V : World} {B : Nat} {x y z u6 u7 u8 u9 u10 u11 u12 u13 u14 u15 : Value} (v0 v1 : Value) (h4 : Rec V (B + 1) 50 #[x, y]) (h5 : Rec V (B + 2) 4 #[z]) :
    (results Yba.f12 #[v0, v1, undef, .pointer (some ⟨B, 0, none⟩), .pointer (some ⟨B + 1, 0, none⟩), .pointer (some ⟨B + 1 + 1, 0, none⟩), u6, u7, u8, u9, u10, u11, u12, u13, u14, u15]).run Yba.prog V = .ok (.tuple #[.agg #[x, y], z]) V := by
  have c0 : V.cell? ⟨B + 1, 0, none⟩ = some x := by simp [World.cell?, show V.heap[B + 1]? = _ from h4]
  have c1 : V.cell? ⟨B + 1, 1, none⟩ = some y := by simp [World.cell?, show V.heap[B + 1]? = _ from h4]
  have c2 : V.cell? ⟨B + 1 + 1, 0, none⟩ = some z := by simp [World.cell?, show V.heap[B + 1 + 1]? = _ from h5]
  simp [results, Yba.f12, go_sem, c0, c1, c2]

set_option maxRecDepth 100000 in
set_option maxHeartbeats 4000000 in
theorem element_in (n : Nat) (hn : 3 ≤ n) (P b m : Nat) (a id : Int) (ha : 0 ≤ a) (ha2 : a ≤ 15) (ext : Bool) (ts : List (Option (Int × List Int))) (bs : List Int) (hsz : bs.length ≤ 1000000000) (hB : m < 2 → Blk (hlen m) ts bs)
    (w : World) (hP : Pack w.heap.size w P ext m a b bs) :
    CallsIn Fence.wide n Yba.prog 12 #[.pointer (some ⟨P, 0, none⟩), .int .u8 id] w fun e W' =>
      ((∃ pre x post, shown ext m ts = pre ++ x :: post ∧ (∀ y ∈ pre, y.1 ≠ id) ∧ x.1 = id ∧ e = .returned (.tuple #[.agg #[.int .u8 id, .slice (some ⟨b, voff x, none⟩) x.2.2 x.2.2], .bool true])) ∨
        ((∀ y ∈ shown ext m ts, y.1 ≠ id) ∧ e = .returned (.tuple #[.agg #[.int .u8 0, .slice none 0 0], .bool false]))) ∧ Below w.heap.size w W' := by
  have h1 : 1 ≤ n := by omega
  refine callsIn_of_wp_marks Yba.func12 rfl trivial ?_ rfl
  simp only [Yba.ntmps12, List.size_toArray, List.length_cons, List.length_nil, Nat.reduceAdd, Nat.reduceSub, Array.replicate_succ, Array.replicate_zero, List.push_toArray, List.append_toArray, List.nil_append, List.cons_append]
  gi_wp2_with (refine ⟨trivial, ?_⟩; gi_at_call 14; refine (elements_in (n - 1) _ _).mono ?_; rintro e w' ⟨rfl, rfl⟩)
  have b3 : Rec ((((w.alloc (.cells #[.int .u8 id] 5)).alloc (.cells #[.int .u8 0, .slice none 0 0] 50)).alloc (.cells #[.bool false] 4)).alloc (.cells #[.pointer (some ⟨P, 0, none⟩)] 31)) w.heap.size 5 #[.int .u8 id] :=
    (((show Rec _ _ _ _ from World.alloc_heap_new w _).alloc _).alloc _).alloc _
  have b4 : Rec ((((w.alloc (.cells #[.int .u8 id] 5)).alloc (.cells #[.int .u8 0, .slice none 0 0] 50)).alloc (.cells #[.bool false] 4)).alloc (.cells #[.pointer (some ⟨P, 0, none⟩)] 31)) (w.heap.size + 1) 50 #[.int .u8 0, .slice none 0 0] := by
    have h : Rec ((w.alloc (.cells #[.int .u8 id] 5)).alloc (.cells #[.int .u8 0, .slice none 0 0] 50)) (w.alloc (.cells #[.int .u8 id] 5)).heap.size 50 #[.int .u8 0, .slice none 0 0] := World.alloc_heap_new _ _
    rw [World.size_alloc] at h
    exact (h.alloc _).alloc _
  have b5 : Rec ((((w.alloc (.cells #[.int .u8 id] 5)).alloc (.cells #[.int .u8 0, .slice none 0 0] 50)).alloc (.cells #[.bool false] 4)).alloc (.cells #[.pointer (some ⟨P, 0, none⟩)] 31)) (w.heap.size + 2) 4 #[.bool false] := by
    have h : Rec (((w.alloc (.cells #[.int .u8 id] 5)).alloc (.cells #[.int .u8 0, .slice none 0 0] 50)).alloc (.cells #[.bool false] 4)) ((w.alloc (.cells #[.int .u8 id] 5)).alloc (.cells #[.int .u8 0, .slice none 0 0] 50)).heap.size 4 #[.bool false] := World.alloc_heap_new _ _
    simp only [World.size_alloc] at h
    exact h.alloc _
  have b6 : Rec ((((w.alloc (.cells #[.int .u8 id] 5)).alloc (.cells #[.int .u8 0, .slice none 0 0] 50)).alloc (.cells #[.bool false] 4)).alloc (.cells #[.pointer (some ⟨P, 0, none⟩)] 31)) (w.heap.size + 3) 31 #[.pointer (some ⟨P, 0, none⟩)] := by
    have h : Rec ((((w.alloc (.cells #[.int .u8 id] 5)).alloc (.cells #[.int .u8 0, .slice none 0 0] 50)).alloc (.cells #[.bool false] 4)).alloc (.cells #[.pointer (some ⟨P, 0, none⟩)] 31)) (((w.alloc (.cells #[.int .u8 id] 5)).alloc (.cells #[.int .u8 0, .slice none 0 0] 50)).alloc (.cells #[.bool false] 4)).heap.size 31 #[.pointer (some ⟨P, 0, none⟩)] := World.alloc_heap_new _ _
    simp only [World.size_alloc] at h
    exact h
  have hB0 : Below w.heap.size w ((((w.alloc (.cells #[.int .u8 id] 5)).alloc (.cells #[.int .u8 0, .slice none 0 0] 50)).alloc (.cells #[.bool false] 4)).alloc (.cells #[.pointer (some ⟨P, 0, none⟩)] 31)) :=
    ((((Below.refl _ w).alloc (Nat.le_refl _) _).alloc (by simp) _).alloc (by simp; omega) _).alloc (by simp; omega) _
  have hs4 : ((((w.alloc (.cells #[.int .u8 id] 5)).alloc (.cells #[.int .u8 0, .slice none 0 0] 50)).alloc (.cells #[.bool false] 4)).alloc (.cells #[.pointer (some ⟨P, 0, none⟩)] 31)).heap.size = w.heap.size + 4 := by simp
  obtain ⟨W0, hW0⟩ : ∃ W0, (((w.alloc (.cells #[.int .u8 id] 5)).alloc (.cells #[.int .u8 0, .slice none 0 0] 50)).alloc (.cells #[.bool false] 4)).alloc (.cells #[.pointer (some ⟨P, 0, none⟩)] 31) = W0 := ⟨_, rfl⟩
  rw [hW0] at b3 b4 b5 b6 hB0 hs4 ⊢
  clear hW0
  refine wpIn_rangeFunc_ownH rfl h1 (gf := 15) (lb := #[.pointer (some ⟨w.heap.size + 1 + 1 + 1, 0, none⟩)]) rfl trivial (enters_of Yba.func15 (by kernel_rfl) rfl)
    (elems_stops (n - 1) (by omega) (w.heap.size + 1 + 1 + 1) w.heap.size P b m a ha ha2 ext ts bs hsz hB W0 (by omega) (by omega) (Boxed.cell b6) (hP.below hB0)) belowK_t (belowK_b (by omega)) (Below.refl _ _) (fun _ => rfl)
    (fun pre W => ((∀ y ∈ pre, y.1 ≠ id) ∧ Rec W w.heap.size 5 #[.int .u8 id] ∧ Rec W (w.heap.size + 1) 50 #[.int .u8 0, .slice none 0 0] ∧ Rec W (w.heap.size + 2) 4 #[.bool false]) ∧ Below w.heap.size w W)
    (fun c pre W => (c = .ret ∧ ∃ ini last, pre = ini ++ [last] ∧ (∀ y ∈ ini, y.1 ≠ id) ∧ last.1 = id ∧ Rec W (w.heap.size + 1) 50 #[.int .u8 id, .slice (some ⟨b, voff last, none⟩) last.2.2 last.2.2] ∧ Rec W (w.heap.size + 2) 4 #[.bool true]) ∧ Below w.heap.size w W)
    (OwnFrom.and (Own.from (fun s A B row hs hg hr => ⟨hs.1, rec_own _ 5 (fun _ => _) () A B row hs.2.1 hg hr, rec_own _ 50 (fun _ => _) () A B row hs.2.2.1 hg hr, rec_own _ 4 (fun _ => _) () A B row hs.2.2.2 hg hr⟩) _) (ownFrom_below (Nat.le_refl _) (by omega)))
    (fun c => OwnFrom.and (Own.from (fun s A B row hs hg hr => by obtain ⟨hc, ini, last, e1, e2, e3, e4, e5⟩ := hs; exact ⟨hc, ini, last, e1, e2, e3, rec_own _ 50 (fun _ => _) () A B row e4 hg hr, rec_own _ 4 (fun _ => _) () A B row e5 hg hr⟩) _) (ownFrom_below (Nat.le_refl _) (by omega)))
    ⟨⟨by simp, b3, b4, b5⟩, hB0⟩
    (fun x a' W => ∃ Bx, w.heap.size ≤ Bx ∧ Rec W Bx 50 #[.int .u8 x.1, .slice (some ⟨b, voff x, none⟩) x.2.2 x.2.2] ∧ a' = { tmps := #[.pointer (some ⟨P, 0, none⟩), .int .u8 id, undef, .pointer (some ⟨w.heap.size, 0, none⟩), .pointer (some ⟨w.heap.size + 1, 0, none⟩), .pointer (some ⟨w.heap.size + 1 + 1, 0, none⟩), .pointer (some ⟨Bx, 0, none⟩), .pointer (some ⟨P, 0, none⟩), .func (.func 15) #[] #[.pointer (some ⟨w.heap.size + 1 + 1 + 1, 0, none⟩)], .agg #[.int .u8 x.1, .slice (some ⟨b, voff x, none⟩) x.2.2 x.2.2], undef, undef, undef, undef, undef, undef], defers := [] })
    (fun x a' _ X Y row hs hg hr => by obtain ⟨Bx, h1, h2, h3⟩ := hs; exact ⟨Bx, h1, rec_own Bx 50 (fun (_ : Unit) => _) () X Y row h2 hg (fun r e => (hr r e).2), h3⟩)
    ?assign ?body ?done ?stop
  case assign =>
    rintro l pre x W K ⟨⟨hp, r3, r4, r5⟩, hB1⟩ hK
    gi_wp2
    exact hK _ _ ((KeepsOthers.alloc _ _).from _) ((Below.refl _ W).alloc hB1.size _) ⟨⟨hp, r3.alloc _, r4.alloc _, r5.alloc _⟩, hB1.alloc hB1.size _⟩ ⟨W.heap.size, hB1.size, World.alloc_heap_new W _, rfl⟩
  case body =>
    rintro l pre x a' W hl _ ⟨⟨hp, r3, r4, r5⟩, hB1⟩ ⟨Bx, hBx, bX, rfl⟩ hlt
    have cX0 : W.cell? ⟨Bx, 0, none⟩ = some (.int .u8 x.1) := by simp [World.cell?, show W.heap[Bx]? = _ from bX]
    have cX1 : W.cell? ⟨Bx, 1, none⟩ = some (.slice (some ⟨b, voff x, none⟩) x.2.2 x.2.2) := by simp [World.cell?, show W.heap[Bx]? = _ from bX]
    have c3 : W.cell? ⟨w.heap.size, 0, none⟩ = some (.int .u8 id) := by simp [World.cell?, show W.heap[w.heap.size]? = _ from r3]
    have c40 : W.cell? ⟨w.heap.size + 1, 0, none⟩ = some (.int .u8 0) := by simp [World.cell?, show W.heap[w.heap.size + 1]? = _ from r4]
    have c41 : W.cell? ⟨w.heap.size + 1, 1, none⟩ = some (.slice none 0 0) := by simp [World.cell?, show W.heap[w.heap.size + 1]? = _ from r4]
    have c5 : W.cell? ⟨w.heap.size + 2, 0, none⟩ = some (.bool false) := by simp [World.cell?, show W.heap[w.heap.size + 2]? = _ from r5]
    have f40 : W.frozen? ⟨w.heap.size + 1, 0, none⟩ = false := by simp [World.frozen?, show W.heap[w.heap.size + 1]? = _ from r4]
    have f41 : W.frozen? ⟨w.heap.size + 1, 1, none⟩ = false := by simp [World.frozen?, show W.heap[w.heap.size + 1]? = _ from r4]
    have f5 : W.frozen? ⟨w.heap.size + 2, 0, none⟩ = false := by simp [World.frozen?, show W.heap[w.heap.size + 2]? = _ from r5]
    gi_wp2
    · rename_i hx
      obtain rfl : x.1 = id := eq_of_beq hx
      refine ⟨((KeepsOthers.setCell _ _ _).from _).trans (((KeepsOthers.setCell _ _ _).from _).trans ((KeepsOthers.setCell _ _ _).from _)), ⟨rfl, pre, x, rfl, hp, rfl, ?_, ?_⟩, ?_⟩
      · exact ((r4.set 0 _).set 1 _).other (a := ⟨w.heap.size + 1 + 1, 0, none⟩) (by simp) _
      · exact ((r5.other (a := ⟨w.heap.size + 1, 0, none⟩) (by simp) _).other (a := ⟨w.heap.size + 1, 1, none⟩) (by simp) _).set 0 _
      · exact ((hB1.setCell (p := ⟨w.heap.size + 1, 0, none⟩) (by simp) _).setCell (p := ⟨w.heap.size + 1, 1, none⟩) (by simp) _).setCell (p := ⟨w.heap.size + 1 + 1, 0, none⟩) (by simp; omega) _
    · rename_i hx
      exact ⟨KeepsFrom.refl _ _, Below.refl _ _, ⟨fun y hy => (List.mem_append.1 hy).elim (hp y) (fun e e' => by simp at e; subst e; simp [e'] at hx), r3, r4, r5⟩, hB1⟩
  case done =>
    rintro D ys W hD rfl ⟨⟨hne, r3, r4, r5⟩, hB1⟩ hK
    have c40 : W.cell? ⟨w.heap.size + 1, 0, none⟩ = some (.int .u8 0) := by simp [World.cell?, show W.heap[w.heap.size + 1]? = _ from r4]
    have c41 : W.cell? ⟨w.heap.size + 1, 1, none⟩ = some (.slice none 0 0) := by simp [World.cell?, show W.heap[w.heap.size + 1]? = _ from r4]
    have c5 : W.cell? ⟨w.heap.size + 2, 0, none⟩ = some (.bool false) := by simp [World.cell?, show W.heap[w.heap.size + 2]? = _ from r5]
    have f40 : W.frozen? ⟨w.heap.size + 1, 0, none⟩ = false := by simp [World.frozen?, show W.heap[w.heap.size + 1]? = _ from r4]
    have f41 : W.frozen? ⟨w.heap.size + 1, 1, none⟩ = false := by simp [World.frozen?, show W.heap[w.heap.size + 1]? = _ from r4]
    have f5 : W.frozen? ⟨w.heap.size + 2, 0, none⟩ = false := by simp [World.frozen?, show W.heap[w.heap.size + 2]? = _ from r5]
    gi_wp2
    have q4 := ((r4.set 0 (.int .u8 0)).set 1 (.slice none 0 0)).other (a := ⟨w.heap.size + 1 + 1, 0, none⟩) (by simp) (.bool false)
    have q5 := ((r5.other (a := ⟨w.heap.size + 1, 0, none⟩) (by simp) (.int .u8 0)).other (a := ⟨w.heap.size + 1, 1, none⟩) (by simp) (.slice none 0 0)).set 0 (.bool false)
    have hK' := ((KeepsOthers.setCell _ _ _).trans ((KeepsOthers.setCell _ _ _).trans (KeepsOthers.setCell _ _ _)) : KeepsOthers W (((W.setCell ⟨w.heap.size + 1, 0, none⟩ (.int .u8 0)).setCell ⟨w.heap.size + 1, 1, none⟩ (.slice none 0 0)).setCell ⟨w.heap.size + 1 + 1, 0, none⟩ (.bool false))).same D _ hK rfl
    refine ⟨by simp, .inl ⟨_, _, rfl, run_takeDeferred hK', ?_⟩⟩
    have q4' := rec_own _ 50 (fun _ => _) () _ _ _ q4 (grownBy_putObj' _ D (.deferred none)) (fun r e => by cases e; exact ⟨_, hK', rfl⟩)
    have q5' := rec_own _ 4 (fun _ => _) () _ _ _ q5 (grownBy_putObj' _ D (.deferred none)) (fun r e => by cases e; exact ⟨_, hK', rfl⟩)
    refine ⟨.tuple #[.agg #[.int .u8 0, .slice none 0 0], .bool false], ?_, .inr ⟨hne, rfl⟩, ((((hB1.setCell (p := ⟨w.heap.size + 1, 0, none⟩) (by simp) _).setCell (p := ⟨w.heap.size + 1, 1, none⟩) (by simp) _).setCell (p := ⟨w.heap.size + 1 + 1, 0, none⟩) (by simp; omega) _)).trans (belowK_b (w := w) (Nat.le_refl _) _ D _ _ (by omega) hK' rfl rfl)⟩
    exact results12 _ _ q4' q5'
  case stop =>
    rintro D c pre W hD hpre ⟨⟨rfl, ini, last, e1, e2, e3, r4, r5⟩, hB1⟩ hK
    gi_wp2
    refine ⟨by simp, .inl ⟨_, _, rfl, run_takeDeferred hK, ?_⟩⟩
    have q4' := rec_own _ 50 (fun _ => _) () _ _ _ r4 (grownBy_putObj' _ D (.deferred none)) (fun r e => by cases e; exact ⟨_, hK, rfl⟩)
    have q5' := rec_own _ 4 (fun _ => _) () _ _ _ r5 (grownBy_putObj' _ D (.deferred none)) (fun r e => by cases e; exact ⟨_, hK, rfl⟩)
    obtain ⟨post, hpost⟩ := hpre
    refine ⟨.tuple #[.agg #[.int .u8 id, .slice (some ⟨b, voff last, none⟩) last.2.2 last.2.2], .bool true], ?_, .inl ⟨ini, last, post, by rw [← hpost, e1]; simp, e2, e3, rfl⟩, hB1.trans (belowK_b (w := w) (Nat.le_refl _) W D _ _ (by omega) hK rfl rfl)⟩
    exact results12 _ _ q4' q5'

end Go.Proofs.Ybulkedti
