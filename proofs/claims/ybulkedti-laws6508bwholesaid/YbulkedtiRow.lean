import Derived.Test.YbulkedtiElem
import Derived.Deep.AppendLies
import Derived.OwnWalk
import Derived.Laws.CopyOwn
import Derived.Deep.DeepCutAuto
namespace Go.Proofs.Ybulkedti
open Go.RowKit

def u8v (x : Int) : Value := .int .u8 x
theorem u8_one (l : List Int) : ∀ v ∈ l.map u8v, v.oneCell' = true := by
  intro v hv
  obtain ⟨x, _, rfl⟩ := List.mem_map.1 hv
  rfl

/-- How an append moves the row: in place, or to a block that is made now, the old row as it lay. -/
def Ei (w w' : World) (v v' : Value) : Prop := (v'.ownBlock = v.ownBlock ∧ w.grownBy w' v.ownBlock) ∨ (v'.ownBlock = some w.heap.size ∧ w.grownBy w' none)
theorem Ei.by {w w' : World} {v v' : Value} (h : Ei w w' v v') : w.grownBy w' v.ownBlock := by
  rcases h with ⟨_, h⟩ | ⟨_, h⟩
  · exact h
  · exact ⟨h.os, h.tape, h.output, h.size, fun k hk _ => h.block k hk (by simp)⟩

theorem run_append_ei {P : Program} (w : World) (t ty : TypeId) (base : Nat) (e : TypeId) (i : TypeInfo) (z : Value) (size bytes : Nat) (ht : P.underlying t = some (.slice e)) (hi : P.info? e = some i) (hz : i.zero = some z)
    (hsize : i.size = size) (hby : i.bytes = bytes) (hzs : z.cells.size = size) (hsz : 0 < size) (v : Value) (n : Nat) (xs : List Value) (hown : w.ownsRow base e size v n xs)
    (ad : Addr) (m c : Nat) (news : List Value) (hl : news.length = m * size) (hnews : ∀ j u, news[j]? = some u → w.cell? (ad.add j) = some u) (h1 : ∀ u ∈ news, u.oneCell' = true)
    (h63 : n + m ≤ maxLen) (hbytes : (n + m) * bytes ≤ 140737488355328) (hbase : base ≤ w.heap.size) :
    ∃ ao cap w', (Builtin.append_ #[t, t] ty #[v, .slice (some ad) m c]).run P w = .ok (.slice ao (n + m) cap) w' ∧ w'.ownsRow base e size (.slice ao (n + m) cap) (n + m) (xs ++ news) ∧ Ei w w' v (.slice ao (n + m) cap) := by
  obtain ⟨v', w', hr, h2, h3, h4⟩ := run_append_own (P := P) w base t ty e i z size bytes ht hi hz hsize hby hzs hsz v n xs hown ad m c news hl hnews h1 h63 hbytes hbase
  have hsmall : n + m ≤ 9223372036854775807 := by simp only [maxLen] at h63; omega
  have hshape : ∃ ao cap, v' = .slice ao (n + m) cap := by
    rcases h2.2 with ⟨rfl, h0⟩ | ⟨g, cap, _, rfl, _⟩
    · exact ⟨none, 0, by rw [h0]⟩
    · exact ⟨_, _, rfl⟩
  obtain ⟨ao, cap, rfl⟩ := hshape
  refine ⟨ao, cap, w', hr, h2, ?_⟩
  rcases hown.2 with ⟨rfl, rfl⟩ | ⟨g, c0, cur, rfl, hbg, hg, hnc, hcm, hcs, htake⟩
  · have h3' : w.grownBy w' none := h3
    rcases h2.2 with ⟨hv, h0⟩ | ⟨g, cap', cur', hv, hbg, hg, _⟩
    · exact .inl ⟨by rw [hv], h3⟩
    · by_cases hm : m = 0
      · subst hm
        exact absurd ((h4.2 ⟨rfl, rfl⟩)) (by rw [hv]; simp)
      · have hr2 := run_append_nil (P := P) w t ty e i z ht hi hz ad m c news (by rw [hsize]; exact hl) hnews (by omega) (by omega) (by rw [hby]; have hb := hbytes; simp only [Nat.zero_add] at hb; omega)
        rw [hr2] at hr
        injection hr with e1 e2
        injection e1 with e3 e4 e5
        exact .inr ⟨by rw [← e3]; rfl, h3'⟩
  · by_cases hroom : n + m ≤ c0
    · have hr2 := run_append_room (P := P) w t ty e i ht hi g n c0 cur hg ad m c news (by rw [hsize]; exact hl) hnews h1 hroom (by rw [hsize, hl, hcs, ← Nat.add_mul]; exact Nat.mul_le_mul_right _ hroom)
      rw [hr2] at hr
      injection hr with e1 e2
      injection e1 with e3 e4 e5
      exact .inl ⟨by rw [← e3]; rfl, h3⟩
    · have hr2 := run_append_grow (P := P) w t ty e i z ht hi hz ⟨g, 0, none⟩ n c0 xs (by rw [hsize]; exact hown.1) (hown.cells (g := g) rfl) ad m c news (by rw [hsize]; exact hl) hnews (by omega) (by omega) (by rw [hby]; exact growslice_fits (by omega) hbytes)
      rw [hr2] at hr
      injection hr with e1 e2
      injection e1 with e3 e4 e5
      refine .inr ⟨by rw [← e3]; rfl, ?_⟩
      rw [← e2]
      exact ⟨rfl, rfl, rfl, by simp, fun k hk _ => heap_alloc_old w.drew _ k hk⟩

theorem append_ei {ops : Array Oper} {rest : List Oper} {dst : Option Tmp} {x y : Operand} {ty : TypeId} {pos : String} {after : Array Edge} {a : Act} {w : World} {Q : Exit → Act → World → Prop} (t e : TypeId) (size bytes : Nat) (z : Value) (ht : Yba.prog.underlying t = some (.slice e))
    (hinf : (Yba.prog.info? e).map (fun i => (i.zero, i.size, i.bytes)) = some (some z, size, bytes)) (hzs : z.cells.size = size) (hsz : 0 < size)
    (base : Nat) (v : Value) (n : Nat) (xs : List Value) (hs : a.eval x = v) (hown : w.ownsRow base e size v n xs) (ad : Addr) (m c : Nat) (news : List Value) (hx : a.eval y = .slice (some ad) m c) (hl : news.length = m * size)
    (hnews : ∀ j u, news[j]? = some u → w.cell? (ad.add j) = some u) (h1 : ∀ u ∈ news, u.oneCell' = true) (h63 : n + m ≤ maxLen) (hbytes : (n + m) * bytes ≤ 140737488355328) (hbase : base ≤ w.heap.size)
    (h : ∀ ao cap w', w'.ownsRow base e size (.slice ao (n + m) cap) (n + m) (xs ++ news) → Ei w w' v (.slice ao (n + m) cap) → wpList Yba.prog ops Q rest (a.put dst (.slice ao (n + m) cap)) w') :
    wpList Yba.prog ops Q (⟨dst, .call { callee := .builtin .append, args := #[x, y], argTypes := #[t, t] }, ty, pos, after, none⟩ :: rest) a w := by
  obtain ⟨i, hi, hz0, hz1, hz2⟩ := info_parts hinf
  obtain ⟨ao, cap, w', hr, h2, h3⟩ := run_append_ei (P := Yba.prog) w t ty base e i z size bytes ht hi hz0 hz1 hz2 hzs hsz v n xs hown ad m c news hl hnews h1 h63 hbytes hbase
  refine wpList_plain rfl fun K hK => ?_
  unfold Oper.wp execOp
  simp only [resolve, invoke, builtin, Sem.run_bind, Sem.run_pure, Result.andThen_ok, List.map_toArray, List.map_cons, List.map_nil, hs, hx, hr]
  exact hK _ _ (h ao cap w' h2 h3)

theorem Yba.info5 : (Yba.prog.info? 5).map (fun i => (i.zero, i.size, i.bytes)) = some (some (.int .u8 0), 1, 1) := by kernel_rfl
theorem Yba.info29 : (Yba.prog.info? 29).map (fun i => (i.zero, i.size, i.bytes)) = some (some (.agg #[.int .u8 0, .slice none 0 0]), 2, 32) := by kernel_rfl

/-- The bytes that a slice of the call's own holds. -/
def Bys (w : World) (base : Nat) (v : Value) (bs : List Int) : Prop := w.ownsRow base 5 1 v bs.length (bs.map u8v)

theorem append_bytes {ops : Array Oper} {rest : List Oper} {dst : Option Tmp} {x y : Operand} {ty : TypeId} {pos : String} {after : Array Edge} {a : Act} {w : World} {Q : Exit → Act → World → Prop}
    (base : Nat) (v : Value) (bs : List Int) (hs : a.eval x = v) (hown : Bys w base v bs) (ad : Addr) (m c : Nat) (news : List Int) (hx : a.eval y = .slice (some ad) m c) (hl : news.length = m)
    (hnews : ∀ j u, (news.map u8v)[j]? = some u → w.cell? (ad.add j) = some u) (hbig : bs.length + m ≤ 100000000000) (hbase : base ≤ w.heap.size) (k : Nat) (hk : bs.length = k)
    (h : ∀ ao cap w', Bys w' base (.slice ao (k + m) cap) (bs ++ news) → Ei w w' v (.slice ao (k + m) cap) → wpList Yba.prog ops Q rest (a.put dst (.slice ao (k + m) cap)) w') :
    wpList Yba.prog ops Q (⟨dst, .call { callee := .builtin .append, args := #[x, y], argTypes := #[22, 22] }, ty, pos, after, none⟩ :: rest) a w := by
  subst hk
  refine append_ei 22 5 1 1 (.int .u8 0) Yba.underlying22 Yba.info5 rfl (by omega) base v bs.length (bs.map u8v) hs hown ad m c (news.map u8v) hx (by simp [hl]) hnews (u8_one _) (by unfold maxLen; omega) (by omega) hbase ?_
  intro ao cap w' h2 h3
  refine h ao cap w' ?_ h3
  unfold Bys
  rw [List.map_append, List.length_append, hl]
  exact h2

theorem add_at (b o j : Nat) : (⟨b, o, none⟩ : Addr).add j = ⟨b, o + j, none⟩ := by unfold Addr.add; split <;> simp_all

theorem Bys.at {w : World} {base : Nat} {v : Value} {bs : List Int} (h : Bys w base v bs) : ∃ ao cap, v = .slice ao bs.length cap ∧ bs.length ≤ cap ∧ (0 < bs.length → ∃ g, ao = some ⟨g, 0, none⟩ ∧ base ≤ g ∧ g < w.heap.size) ∧
    ∀ g, ao = some ⟨g, 0, none⟩ → ∀ j, j < bs.length → w.cell? ⟨g, j, none⟩ = some (.int .u8 (bs[j]?.getD 0)) := by
  have hh := h
  unfold Bys at hh
  rcases hh.2 with ⟨rfl, h0⟩ | ⟨g, cap, cur, rfl, hb, hg, hc, _⟩
  · exact ⟨none, 0, by rw [h0], by omega, fun h => by omega, fun g h => by cases h⟩
  · refine ⟨_, _, rfl, hc, fun _ => ⟨g, rfl, hb, (Array.getElem?_eq_some_iff.1 hg).1⟩, fun g' e j hj => ?_⟩
    cases e
    have := hh.cells (g := g) rfl j (u8v (bs[j]?.getD 0)) (by rw [List.getElem?_map, List.getElem?_eq_getElem hj]; simp)
    rw [add_at, Nat.zero_add] at this
    exact this

/-- n bytes of d, filled up by zeros. -/
def zfill (n : Nat) (d : List Int) : List Int := d.take n ++ List.replicate (n - d.length) 0
theorem zfill_len (n : Nat) (d : List Int) : (zfill n d).length = n := by simp [zfill]; omega
theorem zfill_mem {n : Nat} {d : List Int} (h : ∀ y ∈ d, 0 ≤ y ∧ y ≤ 255) : ∀ y ∈ zfill n d, 0 ≤ y ∧ y ≤ 255 := by
  intro y hy
  rcases List.mem_append.1 hy with hy | hy
  · exact h y (List.mem_of_mem_take hy)
  · rw [(List.mem_replicate.1 hy).2]; omega

theorem min_eq (a b : Nat) : Nat.min a b = min a b := rfl
theorem copy_take {ops : Array Oper} {rest : List Oper} {dst : Option Tmp} {x y : Operand} {ty : TypeId} {pos : String} {after : Array Edge} {a : Act} {w : World} {Q : Exit → Act → World → Prop} (g n L sc : Nat) (src : Option Addr) (d : List Int) (hL : d.length = L)
    (hx : a.eval x = .slice (some ⟨g, 0, none⟩) n n) (hy : a.eval y = .slice src L sc) (hg : Rec w g 5 (Array.replicate n (.int .u8 0))) (hsrc : 0 < L → ∃ ad, src = some ad ∧ ∀ j v, (d.map u8v)[j]? = some v → w.cell? (ad.add j) = some v)
    (h : ∀ w', Rec w' g 5 ((zfill n d).map u8v).toArray → w.grownBy w' (some g) → wpList Yba.prog ops Q rest (a.put dst (goInt (Nat.min L n))) w') :
    wpList Yba.prog ops Q (⟨dst, .call { callee := .builtin .copy, args := #[x, y], argTypes := #[22, 22] }, ty, pos, after, none⟩ :: rest) a w := by
  have hs1 : (Yba.prog.info? 5).map (·.size) = some 1 := by kernel_rfl
  subst hL
  by_cases h0 : Nat.min d.length n = 0
  · refine wpList_copy_nothing rfl x y 22 22 rfl 5 Yba.underlying22 hs1 _ _ _ _ _ _ hx hy h0 ?_
    rw [h0] at h
    refine h w ?_ ⟨rfl, rfl, rfl, Nat.le_refl _, fun _ _ _ => rfl⟩
    unfold Rec at hg ⊢
    rw [hg]
    have e : ((zfill n d).map u8v).toArray = Array.replicate n (.int .u8 0) := by
      have h0' : d.length = 0 ∨ n = 0 := by simp only [min_eq] at h0; omega
      rcases h0' with h0' | rfl
      · obtain rfl : d = [] := List.eq_nil_of_length_eq_zero h0'
        simp [zfill, u8v]
      · simp [zfill]
    rw [e]
  · obtain ⟨ad, rfl, hs⟩ := hsrc (by simp only [min_eq] at h0; omega)
    have hmin : ((d.take n).map u8v).length = Nat.min d.length n := by simp [min_eq, Nat.min_comm]
    refine wpList_copy_own rfl x y 22 22 rfl 5 Yba.underlying22 hs1 g 0 n n ad d.length sc hx hy _ 5 hg ((d.take n).map u8v) hmin (fun j v hv => hs j v ?_) (by rw [hmin]; simp [min_eq]; omega) (u8_one _) ?_
    · rw [List.getElem?_map] at hv ⊢
      rw [List.getElem?_take] at hv
      split at hv
      · exact hv
      · simp at hv
    · rw [hmin]
      refine h _ ?_ ⟨rfl, rfl, rfl, by simp, fun k _ hk => setRow_other w g k _ (fun e => hk (by simp [e]))⟩
      have hh := setRow_heap w g (Array.replicate n (.int .u8 0)) ((Array.replicate n (Value.int .u8 0)).toList.take 0 ++ ((d.take n).map u8v ++ (Array.replicate n (Value.int .u8 0)).toList.drop (0 + Nat.min d.length n))).toArray 5 _ hg
      unfold Rec
      rw [hh]
      congr 2
      simp only [List.take_zero, List.nil_append, Nat.zero_add, Array.toList_replicate, List.drop_replicate, zfill, List.map_append, List.map_replicate]
      congr 3
      simp only [min_eq]
      omega

theorem or_4096 (a : Int) (h0 : 0 ≤ a) (h1 : a ≤ 15) : bits BinOp.or IntKind.u16 4096 a = 4096 + a := by
  have : a = 0 ∨ a = 1 ∨ a = 2 ∨ a = 3 ∨ a = 4 ∨ a = 5 ∨ a = 6 ∨ a = 7 ∨ a = 8 ∨ a = 9 ∨ a = 10 ∨ a = 11 ∨ a = 12 ∨ a = 13 ∨ a = 14 ∨ a = 15 := by omega
  rcases this with rfl | rfl | rfl | rfl | rfl | rfl | rfl | rfl | rfl | rfl | rfl | rfl | rfl | rfl | rfl | rfl <;> decide

end Go.Proofs.Ybulkedti
