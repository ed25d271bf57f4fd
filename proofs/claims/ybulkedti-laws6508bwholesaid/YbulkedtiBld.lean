import Derived.Test.YbulkedtiRow
import Derived.Deep.CutBlock
import Derived.Laws.OwnMore
namespace Go.Proofs.Ybulkedti
open Go.RowKit
set_option linter.unusedVariables false

structure El where
  id : Int
  data : List Int
  pad : Int

/-- The given elements, E 0, .., E (n - 1), at off in block b. -/
def IsElems (w : World) (ao : Option Addr) (n b off : Nat) (E : Nat → El) : Prop :=
  (0 < n → ao = some ⟨b, off, none⟩ ∧ b < w.heap.size) ∧
  (∀ k, k < n → w.cell? ⟨b, off + k * 3, none⟩ = some (.int .u8 (E k).id) ∧ w.cell? ⟨b, off + k * 3 + 2, none⟩ = some (.int .u8 (E k).pad) ∧
    ∃ dao dc, w.cell? ⟨b, off + k * 3 + 1, none⟩ = some (.slice dao (E k).data.length dc) ∧
      (0 < (E k).data.length → ∃ ad, dao = some ad ∧ ad.block < w.heap.size ∧ ∀ j u, ((E k).data.map u8v)[j]? = some u → w.cell? (ad.add j) = some u)) ∧
  ∀ k, (0 ≤ (E k).id ∧ (E k).id ≤ 255) ∧ (0 ≤ (E k).pad ∧ (E k).pad ≤ 255) ∧ (∀ y ∈ (E k).data, 0 ≤ y ∧ y ≤ 255) ∧ (E k).data.length ≤ maxLen

def bh (m : Nat) : Nat := if m = 1 then 2 else 1

def vcells (v : Int × Nat × List Int) : List Value := [.int .u8 v.1, .slice (some ⟨v.2.1, 0, none⟩) v.2.2.length v.2.2.length]
/-- What the two rows hold: the block's bytes; the visible elements, each with its data's block. -/
def Phys (w : World) (n₀ : Nat) (bv : Value) (bs : List Int) (vv : Value) (vs : List (Int × Nat × List Int)) : Prop :=
  Bys w n₀ bv bs ∧ w.ownsRow n₀ 29 2 vv vs.length (vs.flatMap vcells) ∧ ∀ v ∈ vs, Rec w v.2.1 5 (v.2.2.map u8v).toArray ∧ n₀ ≤ v.2.1 ∧ bv.ownBlock ≠ some v.2.1
/-- What they mean. -/
def Means (h : Nat) (bs : List Int) (vs : List (Int × Nat × List Int)) (st : Bool) : Prop :=
  ∃ ts junk, bs = encs h ts ++ junk ∧ (∀ t ∈ ts, okTok h t) ∧ (junk = [] ∨ (h = 1 ∧ ∃ j, junk = 240 :: j)) ∧ st = decide (junk ≠ []) ∧ vs.map (fun v => (v.1, v.2.2)) = ts.filterMap id


theorem make_bytes {ops : Array Oper} {rest : List Oper} {dst : Option Tmp} {l c : Operand} {ty : TypeId} {pos : String} {after : Array Edge} {a : Act} {w : World} {Q : Exit → Act → World → Prop} (n : Nat) (hl : a.eval l = .int .i64 (n : Int)) (hc : a.eval c = .int .i64 (n : Int)) (hn : n ≤ 1000000000)
    (h : ∀ w', Rec w' w.heap.size 5 (Array.replicate n (.int .u8 0)) → w.grownBy w' none → wpList Yba.prog ops Q rest (a.put dst (.slice (some ⟨w.heap.size, 0, none⟩) n n)) w') :
    wpList Yba.prog ops Q (⟨dst, .makeSlice 22 l c, ty, pos, after, none⟩ :: rest) a w := by
  obtain ⟨i, hi, hz0, hz1, hz2⟩ := info_parts Yba.info5
  refine wpList_make_full w rfl l c 22 rfl w.heap.size 5 i _ 1 Yba.underlying22 hi hz0 hz1 _ _ _ _ n hl hc rfl rfl (by rw [hz2]; omega) (by unfold maxLen; omega) (Nat.le_refl _) ?_
  intro w' hown hgr
  refine h w' ?_ hgr
  rcases hown.2 with ⟨h0, _⟩ | ⟨g, cap, cur, hv, _, hg, _, _, hcs, htk⟩
  · cases h0
  · injection hv with e1 e2 e3
    injection e1 with e1
    injection e1 with e1
    subst e1
    subst e3
    unfold Rec
    rw [hg]
    have : cur = Array.replicate n (.int .u8 0) := by
      apply Array.ext'
      have hz : (Value.int IntKind.u8 0).cells = #[.int .u8 0] := rfl
      rw [hz, toList_madeCells_one, Nat.mul_one, List.take_of_length_le (by simp [hcs])] at htk
      rw [htk]
      simp
    rw [this]

theorem own_ne {w : World} {b1 b2 e1 e2 s1 s2 n1 n2 : Nat} {v1 v2 : Value} {x1 x2 : List Value} (h1 : w.ownsRow b1 e1 s1 v1 n1 x1) (h2 : w.ownsRow b2 e2 s2 v2 n2 x2) (hne : e1 ≠ e2) : v1.ownBlock = none ∨ v1.ownBlock ≠ v2.ownBlock := by
  rcases h1.2 with ⟨rfl, _⟩ | ⟨g, c, cur, rfl, _, hg, _⟩
  · exact .inl rfl
  · right
    rcases h2.2 with ⟨rfl, _⟩ | ⟨g', c', cur', rfl, _, hg', _⟩
    · simp [Value.ownBlock]
    · simp only [Value.ownBlock]
      intro e
      injection e with e
      subst e
      rw [hg] at hg'
      injection hg' with hg'
      injection hg' with _ h
      exact hne h
theorem own_rec_ne {w : World} {b1 e1 s1 n1 g t : Nat} {v1 : Value} {x1 : List Value} {cs : Array Value} (h1 : w.ownsRow b1 e1 s1 v1 n1 x1) (h2 : Rec w g t cs) (hne : e1 ≠ t) : some g ≠ v1.ownBlock := by
  rcases h1.2 with ⟨rfl, _⟩ | ⟨g', c', cur', rfl, _, hg', _⟩
  · simp [Value.ownBlock]
  · simp only [Value.ownBlock]
    intro e
    injection e with e
    subst e
    rw [show w.heap[g]? = _ from h2] at hg'
    injection hg' with hg'
    injection hg' with _ h
    exact hne h.symm

theorem Phys.keep {w w' : World} {n₀ : Nat} {bv vv : Value} {bs : List Int} {vs : List (Int × Nat × List Int)} (h : Phys w n₀ bv bs vv vs) (hg : w.grownBy w' none) : Phys w' n₀ bv bs vv vs := by
  obtain ⟨h1, h2, h3⟩ := h
  refine ⟨World.ownsRow.kept h1 hg ?_, h2.kept hg ?_, fun v hv => ⟨(h3 v hv).1.kept hg (by simp), (h3 v hv).2⟩⟩
  · by_cases e : bv.ownBlock = none
    · exact .inl e
    · exact .inr e
  · by_cases e : vv.ownBlock = none
    · exact .inl e
    · exact .inr e
theorem Phys.keepRow {w w' : World} {n₀ : Nat} {bv vv : Value} {bs : List Int} {vs : List (Int × Nat × List Int)} (h : Phys w n₀ bv bs vv vs) {g : Nat} (hg : w.grownBy w' (some g)) (hb : bv.ownBlock ≠ some g) (hv : vv.ownBlock ≠ some g) (hd : ∀ v ∈ vs, v.2.1 ≠ g) : Phys w' n₀ bv bs vv vs := by
  obtain ⟨h1, h2, h3⟩ := h
  exact ⟨World.ownsRow.kept h1 hg (.inr hb), h2.kept hg (.inr hv), fun v hvs => ⟨(h3 v hvs).1.kept hg (by intro e; exact hd v hvs (by simpa using e)), (h3 v hvs).2⟩⟩
theorem Phys.app {w w' : World} {n₀ : Nat} {bv bv' vv : Value} {bs news : List Int} {vs : List (Int × Nat × List Int)} (h : Phys w n₀ bv bs vv vs) (hb : Bys w' n₀ bv' (bs ++ news)) (he : Ei w w' bv bv') : Phys w' n₀ bv' (bs ++ news) vv vs := by
  obtain ⟨h1, h2, h3⟩ := h
  refine ⟨hb, h2.kept he.by (own_ne h2 h1 (by decide)), fun v hv => ?_⟩
  obtain ⟨q1, q2, q3⟩ := h3 v hv
  refine ⟨q1.kept he.by (Ne.symm q3), q2, ?_⟩
  rcases he with ⟨e, _⟩ | ⟨e, _⟩
  · rw [e]; exact q3
  · rw [e]
    have := q1.lt
    intro e2
    injection e2 with e2
    omega
theorem Phys.vis {w w' : World} {n₀ : Nat} {bv vv vv' : Value} {bs d : List Int} {vs : List (Int × Nat × List Int)} {x : Int} {g : Nat} (h : Phys w n₀ bv bs vv vs) (hr : w'.ownsRow n₀ 29 2 vv' (vs.length + 1) (vs.flatMap vcells ++ vcells (x, g, d))) (he : Ei w w' vv vv')
    (hg : Rec w g 5 (d.map u8v).toArray) (hn : n₀ ≤ g) (hb : bv.ownBlock ≠ some g) : Phys w' n₀ bv bs vv' (vs ++ [(x, g, d)]) := by
  obtain ⟨h1, h2, h3⟩ := h
  refine ⟨World.ownsRow.kept h1 he.by (own_ne h1 h2 (by decide)), by simpa using hr, fun v hv => ?_⟩
  rcases List.mem_append.1 hv with hv | hv
  · obtain ⟨q1, q2, q3⟩ := h3 v hv
    exact ⟨q1.kept he.by (own_rec_ne h2 q1 (by decide)), q2, q3⟩
  · simp only [List.mem_singleton] at hv
    subst hv
    exact ⟨hg.kept he.by (own_rec_ne h2 hg (by decide)), hn, hb⟩

theorem Means.pad {h : Nat} {bs : List Int} {vs : List (Int × Nat × List Int)} {st : Bool} (hm : Means h bs vs st) : Means h (bs ++ [0]) vs st := by
  obtain ⟨ts, junk, rfl, h2, h3, h4, h5⟩ := hm
  rcases h3 with rfl | ⟨h1, j, rfl⟩
  · refine ⟨ts ++ [none], [], ?_, ?_, .inl rfl, h4, by simpa using h5⟩
    · simp [encs_append, encs_one, enc1]
    · intro t ht
      rcases List.mem_append.1 ht with ht | ht
      · exact h2 t ht
      · simp at ht; subst ht; trivial
  · exact ⟨ts, 240 :: (j ++ [0]), by simp, h2, .inr ⟨h1, _, rfl⟩, h4, h5⟩
theorem Means.term {bs : List Int} {vs : List (Int × Nat × List Int)} {st : Bool} (hm : Means 1 bs vs st) : Means 1 (bs ++ [240]) vs true := by
  obtain ⟨ts, junk, rfl, h2, h3, h4, h5⟩ := hm
  rcases h3 with rfl | ⟨h1, j, rfl⟩
  · exact ⟨ts, [240], by simp, h2, .inr ⟨rfl, _, rfl⟩, by simp, h5⟩
  · exact ⟨ts, 240 :: (j ++ [240]), by simp, h2, .inr ⟨h1, _, rfl⟩, by simp, h5⟩
theorem Means.elem {h : Nat} {bs d : List Int} {vs : List (Int × Nat × List Int)} {x : Int} (g : Nat) (hm : Means h bs vs false) (ho : okTok h (some (x, d))) : Means h (bs ++ enc1 h (some (x, d))) (vs ++ [(x, g, d)]) false := by
  obtain ⟨ts, junk, rfl, h2, h3, h4, h5⟩ := hm
  have hj : junk = [] := by simpa using h4
  subst hj
  refine ⟨ts ++ [some (x, d)], [], by simp [encs_append, encs_one], ?_, .inl rfl, by simp, ?_⟩
  · intro t ht
    rcases List.mem_append.1 ht with ht | ht
    · exact h2 t ht
    · simp at ht; subst ht; exact ho
  · simp only [List.map_append, List.filterMap_append, h5]
    rfl
theorem Means.junk {h : Nat} {bs b2 : List Int} {vs : List (Int × Nat × List Int)} (hm : Means h bs vs true) : Means h (bs ++ b2) vs true := by
  obtain ⟨ts, junk, rfl, h2, h3, h4, h5⟩ := hm
  rcases h3 with rfl | ⟨h1, j, rfl⟩
  · simp at h4
  · exact ⟨ts, 240 :: (j ++ b2), by simp, h2, .inr ⟨h1, _, rfl⟩, by simp, h5⟩

theorem news1 (w : World) (x : Int) : ∀ j u, ([x].map u8v)[j]? = some u → (w.alloc (.cells #[.int .u8 x] 5)).cell? ((⟨w.heap.size, 0, none⟩ : Addr).add j) = some u :=
  World.news_of_block (cs := #[.int .u8 x]) (t := 5) (fr := (0, 0)) (World.alloc_heap_new w _)
theorem news2 (w : World) (x y : Int) : ∀ j u, ([x, y].map u8v)[j]? = some u → (w.alloc (.cells #[.int .u8 x, .int .u8 y] 5)).cell? ((⟨w.heap.size, 0, none⟩ : Addr).add j) = some u :=
  World.news_of_block (cs := #[.int .u8 x, .int .u8 y]) (t := 5) (fr := (0, 0)) (World.alloc_heap_new w _)

theorem news_rec {w : World} {g : Nat} {d : List Int} (h : Rec w g 5 (d.map u8v).toArray) : ∀ j u, (d.map u8v)[j]? = some u → w.cell? ((⟨g, 0, none⟩ : Addr).add j) = some u := by
  intro j u hu
  exact World.news_of_block (cs := (d.map u8v).toArray) (t := 5) (fr := (0, 0)) h j u (by simpa using hu)
theorem news_vis (w : World) (x : Int) (g : Nat) (d : List Int) : ∀ j u, (vcells (x, g, d))[j]? = some u → (w.alloc (.cells #[.int .u8 x, .slice (some ⟨g, 0, none⟩) d.length d.length] 29)).cell? ((⟨w.heap.size, 0, none⟩ : Addr).add j) = some u := by
  intro j u hu
  exact World.news_of_block (cs := #[.int .u8 x, .slice (some ⟨g, 0, none⟩) d.length d.length]) (t := 29) (fr := (0, 0)) (World.alloc_heap_new w _) j u hu
theorem filter_len {h : Nat} : ∀ ts : List (Option (Int × List Int)), (ts.filterMap id).length ≤ (encs h ts).length
  | [] => by simp
  | none :: r => by rw [encs_cons, List.length_append]; have := filter_len (h := h) r; simp [enc1]; omega
  | some (x, d) :: r => by
    rw [encs_cons, List.length_append]
    have := filter_len (h := h) r
    have h2 : 0 < (enc1 h (some (x, d))).length := by simp only [enc1]; split <;> simp
    simp only [List.filterMap_cons, id, List.length_cons]
    omega
theorem Means.vlen {h : Nat} {bs : List Int} {vs : List (Int × Nat × List Int)} {st : Bool} (hm : Means h bs vs st) : vs.length ≤ bs.length := by
  obtain ⟨ts, junk, rfl, _, _, _, h5⟩ := hm
  have : vs.length = (ts.filterMap id).length := by rw [← h5]; simp
  have := filter_len (h := h) ts
  simp only [List.length_append]
  omega
theorem okTok_len {h : Nat} {x : Int} {d : List Int} (ho : okTok h (some (x, d))) : d.length ≤ 255 := by
  obtain ⟨⟨_, h2⟩, _⟩ := ho
  split at h2 <;> omega

theorem add_block (ad : Addr) (j : Nat) : (ad.add j).block = ad.block := by unfold Addr.add; split <;> rfl
theorem Ei.ne {w w' : World} {v v' : Value} {g : Nat} (h : Ei w w' v v') (hn : v.ownBlock ≠ some g) (hg : g < w.heap.size) : v'.ownBlock ≠ some g := by
  rcases h with ⟨e, _⟩ | ⟨e, _⟩
  · rw [e]; exact hn
  · rw [e]
    intro e2
    injection e2 with e2
    omega

theorem Phys.made {wc w1 w2 : World} {n₀ : Nat} {bv vv : Value} {bs : List Int} {vs : List (Int × Nat × List Int)} (h : Phys wc n₀ bv bs vv vs) (h1 : wc.grownBy w1 none) (h2 : w1.grownBy w2 (some wc.heap.size)) : Phys w2 n₀ bv bs vv vs ∧ bv.ownBlock ≠ some wc.heap.size := by
  have hb : bv.ownBlock ≠ some wc.heap.size := fun e => by have := (World.ownsRow.lt h.1 _ e).2; omega
  refine ⟨(h.keep h1).keepRow h2 hb (fun e => by have := (h.2.1.lt _ e).2; omega) (fun v hv e => ?_), hb⟩
  have := (h.2.2 v hv).1.lt
  omega

theorem or_hdr0 : ∀ a : Fin 15, ∀ b : Fin 16, bits BinOp.or IntKind.u8 (((a.val : Nat) : Int) * 16) ((b.val : Nat) : Int) = ((a.val : Nat) : Int) * 16 + ((b.val : Nat) : Int) := by decide +kernel
theorem or_hdr (x y : Int) (x1 : 1 ≤ x) (x2 : x ≤ 14) (y1 : 0 ≤ y) (y2 : y ≤ 15) : bits BinOp.or IntKind.u8 (x * 16) y = x * 16 + y := by
  have h := or_hdr0 ⟨x.toNat, by omega⟩ ⟨y.toNat, by omega⟩
  simp only [Int.toNat_of_nonneg (show 0 ≤ x by omega), Int.toNat_of_nonneg y1] at h
  exact h

def lenV : Value → Nat
  | .slice _ n _ => n
  | _ => 0

/-- The state of the build, between two statements. -/
def BS (w0 w : World) (m : Nat) (bv vv : Value) (st : Bool) (mx : Nat) : Prop :=
  (∃ bs vs, Phys w w0.heap.size bv bs vv vs ∧ Means (bh m) bs vs st ∧ bs.length ≤ mx) ∧ Below w0.heap.size w0 w

def Built (w : World) (m : Nat) (a : Int) (e : Ending) (w' : World) : Prop :=
  ∃ bv vv st, e = .returned (.tuple #[bv, .int .u16 (profOf m a), if m = 2 then .slice none 0 0 else vv]) ∧ BS w w' m bv vv st 1000000


set_option maxRecDepth 20000 in
set_option maxHeartbeats 4000000 in
theorem build_any (ao : Option Addr) (n cap b off m : Nat) (E : Nat → El) (form app term : Int) (hf0 : 0 ≤ form) (hf1 : form ≤ 255) (ha0 : 0 ≤ app) (ha1 : app ≤ 255) (ht0 : 0 ≤ term) (ht1 : term ≤ 255) (hm : form % 3 = (m : Int)) (hn : n ≤ 1024)
    (w : World) (hE : IsElems w ao n b off E) :
    Calls Yba.prog 5 #[.slice ao n cap, .int .u8 form, .int .u8 app, .int .u8 term] w fun e w' => Built w m (app % 16) e w' := by
  have hm3 : m < 3 := by omega
  go_enter Yba.func5, Yba.ntmps5
  go_upto_block 0 with fail
  go_cut [13] (fun s wc => s = .int .u16 (profOf m (app % 16)) ∧ wc = w)
  case first =>
    have : m = 0 ∨ m = 1 ∨ m = 2 := by omega
    rcases this with rfl | rfl | rfl
    · go_wp2
      go_meet
      case rel => exact ⟨rfl, rfl⟩
    · go_wp2
      go_meet
      case rel => exact ⟨by rw [or_4096 _ (by omega) (by omega)]; rfl, rfl⟩
    · go_wp2
      go_meet
      case rel => exact ⟨rfl, rfl⟩
  case rest =>
    obtain ⟨rfl, rfl⟩ := hcut
    go_upto_region 11 with fail
    go_cut [44] (fun s wc' => (∃ c : Bool, s = .bool c ∧ (c = true → m ≠ 1)) ∧ wc' = wc)
    case first =>
      by_cases m1 : m = 1
      · subst m1
        go_wp2
        go_meet
        case rel => exact ⟨⟨_, rfl, by simp⟩, rfl⟩
      · go_wp2
        go_meet
        case rel => exact ⟨⟨_, rfl, fun _ => m1⟩, rfl⟩
    case rest =>
      obtain ⟨⟨c, rfl, hc⟩, rfl⟩ := hcut
      go_upto_if 44 with fail
      obtain ⟨w, rfl⟩ : ∃ w, w = wc := ⟨_, rfl⟩
      go_cut [14] (fun s wc' => (∃ T : Int, s = .int .i64 T ∧ (0 ≤ T → m ≠ 1)) ∧ wc' = w)
      case first =>
        cases c
        · go_wp2
          go_meet
          case rel => exact ⟨⟨_, rfl, by omega⟩, rfl⟩
        · go_wp2
          go_meet
          case rel => exact ⟨⟨_, rfl, fun _ => by first | exact hc rfl | exact hc trivial⟩, rfl⟩
      case rest =>
        obtain ⟨⟨T, rfl, hT⟩, rfl⟩ := hcut
        obtain ⟨w, rfl⟩ : ∃ w, w = wc := ⟨_, rfl⟩
        have HE : Hid (IsElems w ao n b off E) := hE
        clear hE hc c hf0 hf1 ha0 ha1 ht0 ht1 hm
        obtain ⟨ob, hob⟩ : ∃ ob : Bool, ((m : Int) != 1) = ob := ⟨_, rfl⟩
        rw [hob]
        have HOB : Hid (((m : Int) != 1) = ob) := hob
        clear hob
        go_wp2
        go_loopw [15, 16, 17, 18] (fun bv vv st kv wr => ∃ (k : Nat) (s : Bool), kv = .int .i64 k ∧ st = .bool s ∧ k ≤ n ∧ BS w wr m bv vv s (260 * k)) (fun _ _ _ kv _ => n + 1 - (intOf kv).toNat)
        case atStart =>
          refine ⟨0, false, rfl, rfl, by omega, ⟨[], [], ⟨?_, ?_, by simp⟩, ⟨[], [], rfl, by simp, .inl rfl, rfl, rfl⟩, by simp⟩, Below.refl _ _⟩
          · exact World.ownsRow_nil _ _ _ _
          · exact World.ownsRow_nil _ _ _ _
        case round =>
          obtain ⟨k, s, rfl, rfl, hk, hbs⟩ := hrel
          have HBS : Hid (BS w wr m u15 u16 s (260 * k)) := hbs
          clear hbs
          go_upto_if 60 with fail
          go_cut [15, 17] (fun bv st wc => ∃ s' : Bool, st = .bool s' ∧ BS w wc m bv u16 s' (260 * k + 1))
          case first =>
            have HBS' := HBS.out
            obtain ⟨⟨bs, vs, hph, hme, hlen⟩, hbel⟩ := HBS'
            by_cases hkT : (k : Int) = T
            · have hkT' : ((k : Int) == T) = true := by simp [hkT]
              rw [hkT']
              have hm1 : bh m = 1 := by unfold bh; rw [if_neg (hT (by omega))]
              have hsz := hbel.size
              clear hkT hkT'
              have hph1 := hph.keep (World.grownBy_alloc wr (.cells #[.int .u8 240] 5) none)
              have hsz1 : w.heap.size ≤ (wr.alloc (.cells #[.int .u8 240] 5)).heap.size := by simp; omega
              go_wp2_with (at_builtin; refine append_bytes w.heap.size u15 bs rfl hph1.1 ⟨wr.heap.size, 0, none⟩ 1 1 [240] rfl rfl (news1 wr 240) (by omega) hsz1 bs.length rfl ?_; intro ao1 c1 w1 hb1 he1)
              go_meet
              case rel => exact ⟨true, rfl, ⟨_, vs, hph1.app hb1 he1, by rw [hm1] at hme ⊢; exact hme.term, by simp; omega⟩, (hbel.alloc hsz _).grown he1.by hsz1 (fun q hq => (World.ownsRow.lt hph1.1 q hq).1)⟩
            · have hkT' : ((k : Int) == T) = false := by simp [hkT]
              rw [hkT']
              go_wp2
              go_meet
              case rel => exact ⟨s, rfl, ⟨bs, vs, hph, hme, by omega⟩, hbel⟩
          case rest =>
            obtain ⟨s', rfl, hbs⟩ := hcut
            have HB2 : Hid (BS w wc m u15 u16 s' (260 * k + 1)) := hbs
            clear hbs HBS
            by_cases hkn : k = n
            · have hkn' : ((k : Int) == (n : Int)) = true := by simp [hkn]
              clear hkn
              go_wp2
              go_loopw [15] (fun bv wr' => ∃ ao' c' bs vs N, bs.length = N ∧ bv = .slice ao' N c' ∧ N ≤ 260 * k + 4 ∧ Hid (Phys wr' w.heap.size (.slice ao' N c') bs u16 vs ∧ Means (bh m) bs vs s' ∧ Below w.heap.size w wr')) (fun bv _ => (4 - lenV bv % 4) % 4)
              case atStart =>
                obtain ⟨⟨bs, vs, hph, hme, hlen⟩, hbel⟩ := HB2.out
                obtain ⟨ao', c', rfl, _⟩ := Bys.at hph.1
                exact ⟨ao', c', bs, vs, _, rfl, rfl, by omega, hph, hme, hbel⟩
              case round =>
                clear HB2
                obtain ⟨ao', c', bs, vs, N, hN, rfl, hNb, HPM⟩ := hrel
                by_cases h4 : N % 4 = 0
                · have h4' : ((N : Int) % 4 != 0) = false := by simp; omega
                  by_cases hm2 : m = 2
                  · have hm2' : ((m : Int) == 2) = true := by simp [hm2]
                    have HM2 : Hid (m = 2) := hm2
                    clear hm2
                    go_wp2
                    refine bodyPost_ret (results_tmp3 rfl _ _ _) rfl ?_
                    obtain ⟨hph, hme, hbel⟩ := HPM.out
                    have hm2 := HM2.out
                    subst hm2
                    exact ⟨.slice ao' N c', u16, s', rfl, ⟨bs, vs, hph, hme, by omega⟩, hbel⟩
                  · have hm2' : ((m : Int) == 2) = false := by simp; omega
                    have HM2 : Hid (¬ m = 2) := hm2
                    clear hm2
                    go_wp2
                    refine bodyPost_ret (results_tmp3 rfl _ _ _) rfl ?_
                    obtain ⟨hph, hme, hbel⟩ := HPM.out
                    exact ⟨.slice ao' N c', u16, s', by rw [if_neg HM2.out]; rfl, ⟨bs, vs, hph, hme, by omega⟩, hbel⟩
                · have h4' : ((N : Int) % 4 != 0) = true := by simp; omega
                  obtain ⟨hph, hme, hbel⟩ := HPM.out
                  have hsz := hbel.size
                  have hph1 := hph.keep (World.grownBy_alloc wr (.cells #[.int .u8 0] 5) none)
                  have hsz1 : w.heap.size ≤ (wr.alloc (.cells #[.int .u8 0] 5)).heap.size := by simp; omega
                  have HM : Hid (Means (bh m) bs vs s') := hme
                  clear hme hph
                  go_wp2_with (at_builtin; refine append_bytes w.heap.size (.slice ao' N c') bs rfl hph1.1 ⟨wr.heap.size, 0, none⟩ 1 1 [0] rfl rfl (news1 wr 0) (by omega) hsz1 N hN ?_; intro ao1 c1 w1 hb1 he1)
                  go_roundw
                  case rel =>
                    exact ⟨ao1, c1, bs ++ [0], vs, N + 1, by simp [hN], rfl, by omega, hph1.app hb1 he1, HM.out.pad, (hbel.alloc hsz _).grown he1.by hsz1 (fun q hq => (World.ownsRow.lt hph1.1 q hq).1)⟩
                  case measure => simp [lenV]; omega
            · have hlt : k < n := by omega
              have hkn' : ((k : Int) == (n : Int)) = false := by simp; omega
              have HE1 := HE.out.1 (by omega)
              obtain ⟨rfl, hbw⟩ := HE1
              obtain ⟨e1, e2, dao, dc, e3, e4⟩ := HE.out.2.1 k hlt
              have hbel2 := HB2.out.2
              have c1 := (hbel2.cell (p := ⟨b, off + k * 3, none⟩) hbw).trans e1
              have c2 := (hbel2.cell (p := ⟨b, off + k * 3 + 2, none⟩) hbw).trans e2
              have c3 := (hbel2.cell (p := ⟨b, off + k * 3 + 1, none⟩) hbw).trans e3
              obtain ⟨⟨i0, i1⟩, ⟨p0, p1⟩, hdb, hdl⟩ := HE.out.2.2 k
              obtain ⟨x0, hx0⟩ : ∃ x0, (E k).id = x0 := ⟨_, rfl⟩
              obtain ⟨dt, hdt⟩ : ∃ dt, (E k).data = dt := ⟨_, rfl⟩
              obtain ⟨pd, hpd⟩ : ∃ pd, (E k).pad = pd := ⟨_, rfl⟩
              obtain ⟨L, hL⟩ : ∃ L, dt.length = L := ⟨_, rfl⟩
              rw [hx0] at c1 i0 i1
              rw [hpd] at c2 p0 p1
              rw [hdt] at c3 e4 hdb hdl
              rw [hL] at c3 e4 hdl
              have HSRC : Hid (0 < L → ∃ ad, dao = some ad ∧ ad.block < w.heap.size ∧ ∀ j u, (dt.map u8v)[j]? = some u → w.cell? (ad.add j) = some u) := e4
              have HDB : Hid (∀ y ∈ dt, 0 ≤ y ∧ y ≤ 255) := hdb
              have hL63 : L ≤ 9223372036854775807 := by simpa [maxLen] using hdl
              clear e1 e2 e3 e4 hdb hdl hbel2
              go_wp2
              clear c1 c2 c3
              obtain ⟨el, hel⟩ : ∃ el, wc.heap.size = el := ⟨_, rfl⟩
              rw [hel]
              go_loopw [15, 20] (fun bv jv wr' => ∃ j : Nat, jv = .int .i64 j ∧ (j : Int) ≤ pd % 3 ∧ BS w wr' m bv u16 s' (260 * k + 1 + j) ∧ Rec wr' el 48 #[.int .u8 x0, .slice dao L dc, .int .u8 pd]) (fun _ jv _ => 3 - (intOf jv).toNat)
              case atStart =>
                refine ⟨0, rfl, by simp; omega, ?_, by rw [← hel]; exact World.alloc_heap_new _ _⟩
                obtain ⟨⟨bs, vs, hph, hme, hlen⟩, hbel⟩ := HB2.out
                exact ⟨⟨bs, vs, hph.keep (World.grownBy_alloc _ _ none), hme, hlen⟩, hbel.alloc hbel.size _⟩
              case round =>
                clear HB2
                obtain ⟨j, rfl, hj, hbs, hrec⟩ := hrel
                have d0 : wr.cell? ⟨el, 0, none⟩ = some (.int .u8 x0) := by simp [World.cell?, show wr.heap[el]? = _ from hrec]
                have d1 : wr.cell? ⟨el, 1, none⟩ = some (.slice dao L dc) := by simp [World.cell?, show wr.heap[el]? = _ from hrec]
                have d2 : wr.cell? ⟨el, 2, none⟩ = some (.int .u8 pd) := by simp [World.cell?, show wr.heap[el]? = _ from hrec]
                by_cases hjp : (j : Int) < pd % 3
                · obtain ⟨⟨bs, vs, hph, hme, hlen⟩, hbel⟩ := hbs
                  have hsz := hbel.size
                  have hph1 := hph.keep (World.grownBy_alloc wr (.cells #[.int .u8 0] 5) none)
                  have hsz1 : w.heap.size ≤ (wr.alloc (.cells #[.int .u8 0] 5)).heap.size := by simp; omega
                  have hrec1 := hrec.alloc (.cells #[.int .u8 0] 5)
                  have HM : Hid (Means (bh m) bs vs s') := hme
                  clear hme hrec hph
                  go_wp2_with (at_builtin; refine append_bytes w.heap.size u15 bs rfl hph1.1 ⟨wr.heap.size, 0, none⟩ 1 1 [0] rfl rfl (news1 wr 0) (by omega) hsz1 bs.length rfl ?_; intro ao1 c1 w1 hb1 he1)
                  go_roundw
                  case rel =>
                    exact ⟨j + 1, by go_num, by simp; omega, ⟨⟨_, vs, hph1.app hb1 he1, HM.out.pad, by simp; omega⟩, (hbel.alloc hsz _).grown he1.by hsz1 (fun q hq => (World.ownsRow.lt hph1.1 q hq).1)⟩, hrec1.kept he1.by (own_rec_ne hph1.1 hrec1 (by decide))⟩
                  case measure => simp [intOf]; omega
                · obtain ⟨⟨bs, vs, hph, hme, hlen⟩, hbel⟩ := hbs
                  have HP : Hid (Phys wr w.heap.size u15 bs u16 vs) := hph
                  have HM : Hid (Means (bh m) bs vs s') := hme
                  have HR : Hid (Rec wr el 48 #[.int .u8 x0, .slice dao L dc, .int .u8 pd]) := hrec
                  have hlen2 : bs.length ≤ 260 * k + 3 := by omega
                  have hjp' : pd % 3 ≤ (j : Int) := by omega
                  clear hph hme hrec hlen hjp
                  go_upto_if 83 with fail
                  go_cut [15, 21, 22] (fun bv iv dv wc => ∃ (x : Int) (g : Nat) (d : List Int), iv = .int .u8 x ∧ dv = .slice (some ⟨g, 0, none⟩) d.length d.length ∧ Hid (okTok (bh m) (some (x, d)) ∧ Rec wc g 5 (d.map u8v).toArray ∧ w.heap.size ≤ g ∧ bv.ownBlock ≠ some g ∧
                    (∃ hd, Phys wc w.heap.size bv (bs ++ hd) u16 vs ∧ hd ++ d = enc1 (bh m) (some (x, d)) ∧ hd.length ≤ 2)) ∧ Below w.heap.size w wc)
                  case first =>
                    cases ob with
                    | false =>
                      have hm1 : m = 1 := by have := HOB.out; simp at this; omega
                      have hbh : bh m = 2 := by unfold bh; rw [if_pos hm1]
                      clear hm1
                      go_upto_if 121 with fail
                      go_cut [21] (fun iv wc => ∃ x : Int, iv = .int .u8 x ∧ (1 ≤ x ∧ x ≤ 255) ∧ wc = wr)
                      case first =>
                        by_cases hz : x0 = 0
                        · have hz' : (x0 == 0) = true := by simp [hz]
                          rw [hz']
                          go_wp2
                          go_meet
                          case rel => exact ⟨1, rfl, by omega, rfl⟩
                        · have hz' : (x0 == 0) = false := by simp [hz]
                          rw [hz']
                          go_wp2
                          go_meet
                          case rel => exact ⟨x0, rfl, by omega, rfl⟩
                      case rest =>
                        obtain ⟨x, rfl, ⟨x1, x2⟩, rfl⟩ := hcut
                        go_upto_if 126 with fail
                        go_cut [24] (fun lv wc' => ∃ l : Nat, lv = .int .i64 l ∧ l ≤ 255 ∧ wc' = wc)
                        case first =>
                          by_cases hz : (255 : Int) < (L : Int)
                          · have hz' : decide ((255 : Int) < (L : Int)) = true := by simp; omega
                            rw [hz']
                            go_wp2
                            go_meet
                            case rel => exact ⟨255, rfl, by omega, rfl⟩
                          · have hz' : decide ((255 : Int) < (L : Int)) = false := by simp; omega
                            rw [hz']
                            go_wp2
                            go_meet
                            case rel => exact ⟨L, rfl, by omega, rfl⟩
                        case rest =>
                          obtain ⟨l, rfl, l1, rfl⟩ := hcut
                          have hsz := hbel.size
                          go_wp2_with (first
                            | (at_make; refine make_bytes l rfl rfl (by omega) ?_; intro w1 hr1 hg1
                               have d1' := hg1.cell d1 (by simp)
                               have hbel1 := hbel.grown hg1 hsz (by simp)
                               have hsrc1 : 0 < L → ∃ ad, dao = some ad ∧ ∀ jj u, (dt.map u8v)[jj]? = some u → w1.cell? (ad.add jj) = some u := fun h0 => by obtain ⟨ad, e, hlt, hcs⟩ := HSRC.out h0; exact ⟨ad, e, fun jj u hu => (hbel1.cell (p := ad.add jj) (by rw [add_block]; exact hlt)).trans (hcs jj u hu)⟩
                               have HS1 : Hid (0 < L → ∃ ad, dao = some ad ∧ ∀ jj u, (dt.map u8v)[jj]? = some u → w1.cell? (ad.add jj) = some u) := hsrc1
                               clear hsrc1)
                            | (with_reducible refine copy_take wc.heap.size l L dc dao dt hL (by with_unfolding_all exact rfl) (by with_unfolding_all exact rfl) hr1 HS1.out ?_; intro w2 hr2 hg2
                               obtain ⟨hph2, hbne⟩ := HP.out.made hg1 hg2
                               have hbel2 := hbel1.grown hg2 hbel1.size (fun q hq => by cases hq; exact hsz)
                               have hph3 := hph2.keep (World.grownBy_alloc w2 (.cells #[.int .u8 x, .int .u8 (l : Int)] 5) none)
                               have hsz3 : w.heap.size ≤ (w2.alloc (.cells #[.int .u8 x, .int .u8 (l : Int)] 5)).heap.size := by have := hbel2.size; simp; omega)
                            | (at_builtin; refine append_bytes w.heap.size u15 bs rfl hph3.1 ⟨w2.heap.size, 0, none⟩ 2 2 [x, (l : Int)] rfl rfl (news2 w2 x l) (by omega) hsz3 bs.length rfl ?_; intro ao3 c3 w3 hb3 he3))
                          go_meet
                          case rel =>
                            refine ⟨x, wc.heap.size, zfill l dt, rfl, by rw [zfill_len], ⟨?_, (hr2.alloc _).kept he3.by (Ne.symm hbne), hsz, he3.ne hbne (hr2.alloc _).lt, ⟨[x, (l : Int)], hph3.app hb3 he3, ?_, by simp⟩⟩, (hbel2.alloc hbel2.size _).grown he3.by hsz3 (fun q hq => (World.ownsRow.lt hph3.1 q hq).1)⟩
                            · rw [hbh]
                              exact ⟨⟨by omega, by rw [zfill_len]; simp; omega⟩, zfill_mem HDB.out⟩
                            · rw [hbh]
                              simp [enc1, zfill_len]
                    | true =>
                      have hbh : bh m = 1 := by have := HOB.out; unfold bh; rw [if_neg (by intro e; rw [e] at this; simp at this)]
                      go_upto_region 32 with fail
                      go_cut [91] (fun s wc => s = .bool (decide (x0 < 1 ∨ 14 < x0)) ∧ wc = wr)
                      case first =>
                        by_cases hz : x0 < 1
                        · go_wp2
                          go_meet
                          case rel => exact ⟨by simp [hz], rfl⟩
                        · by_cases hz2 : 14 < x0
                          · go_wp2
                            go_meet
                            case rel => exact ⟨by simp [hz2], rfl⟩
                          · go_wp2
                            go_meet
                            case rel => exact ⟨by simp; omega, rfl⟩
                      case rest =>
                        obtain ⟨rfl, rfl⟩ := hcut
                        go_upto_if 91 with fail
                        go_cut [21] (fun iv wc' => ∃ x : Int, iv = .int .u8 x ∧ (1 ≤ x ∧ x ≤ 14) ∧ wc' = wc)
                        case first =>
                          by_cases hz : x0 < 1 ∨ 14 < x0
                          · have hz' : decide (x0 < 1 ∨ 14 < x0) = true := by simp only [hz, decide_true]
                            rw [hz']
                            clear hz hz'
                            go_wp2
                            go_meet
                            case rel => exact ⟨1 + x0 % 14, rfl, by omega, rfl⟩
                          · have hz' : decide (x0 < 1 ∨ 14 < x0) = false := by simp only [hz, decide_false]
                            rw [hz']
                            clear hz'
                            go_wp2
                            go_meet
                            case rel => exact ⟨x0, rfl, by omega, rfl⟩
                        case rest =>
                          obtain ⟨x, rfl, ⟨x1, x2⟩, rfl⟩ := hcut
                          go_upto_if 100 with fail
                          obtain ⟨wd, rfl⟩ : ∃ wd, wd = wc := ⟨_, rfl⟩
                          go_cut [23] (fun lv wc' => ∃ l : Nat, lv = .int .i64 l ∧ (1 ≤ l ∧ l ≤ 9223372036854775807) ∧ wc' = wd)
                          case first =>
                            by_cases hz : (L : Int) < 1
                            · have hz' : decide ((L : Int) < 1) = true := by simp; omega
                              rw [hz']
                              go_wp2
                              go_meet
                              case rel => exact ⟨1, rfl, by omega, rfl⟩
                            · have hz' : decide ((L : Int) < 1) = false := by simp; omega
                              rw [hz']
                              go_wp2
                              go_meet
                              case rel => exact ⟨L, rfl, by omega, rfl⟩
                          case rest =>
                            obtain ⟨l0, rfl, ⟨l01, l02⟩, rfl⟩ := hcut
                            go_upto_if 102 with fail
                            obtain ⟨wd, rfl⟩ : ∃ wd, wd = wc := ⟨_, rfl⟩
                            go_cut [23] (fun lv wc' => ∃ l : Nat, lv = .int .i64 l ∧ (1 ≤ l ∧ l ≤ 16) ∧ wc' = wd)
                            case first =>
                              by_cases hz : (16 : Int) < (l0 : Int)
                              · have hz' : decide ((16 : Int) < (l0 : Int)) = true := by simp; omega
                                rw [hz']
                                go_wp2
                                go_meet
                                case rel => exact ⟨16, rfl, by omega, rfl⟩
                              · have hz' : decide ((16 : Int) < (l0 : Int)) = false := by simp; omega
                                rw [hz']
                                go_wp2
                                go_meet
                                case rel => exact ⟨l0, rfl, by omega, rfl⟩
                            case rest =>
                              obtain ⟨l, rfl, ⟨l1, l2⟩, rfl⟩ := hcut
                              have hsz := hbel.size
                              have hbits := or_hdr x ((l : Int) - 1) x1 x2 (by omega) (by omega)
                              go_wp2_with (first
                                | (at_make; refine make_bytes l rfl rfl (by omega) ?_; intro w1 hr1 hg1
                                   have d1' := hg1.cell d1 (by simp)
                                   have hbel1 := hbel.grown hg1 hsz (by simp)
                                   have hsrc1 : 0 < L → ∃ ad, dao = some ad ∧ ∀ jj u, (dt.map u8v)[jj]? = some u → w1.cell? (ad.add jj) = some u := fun h0 => by obtain ⟨ad, e, hlt, hcs⟩ := HSRC.out h0; exact ⟨ad, e, fun jj u hu => (hbel1.cell (p := ad.add jj) (by rw [add_block]; exact hlt)).trans (hcs jj u hu)⟩
                                   have HS1 : Hid (0 < L → ∃ ad, dao = some ad ∧ ∀ jj u, (dt.map u8v)[jj]? = some u → w1.cell? (ad.add jj) = some u) := hsrc1
                                   clear hsrc1)
                                | (with_reducible refine copy_take wc.heap.size l L dc dao dt hL (by with_unfolding_all exact rfl) (by with_unfolding_all exact rfl) hr1 HS1.out ?_; intro w2 hr2 hg2
                                   obtain ⟨hph2, hbne⟩ := HP.out.made hg1 hg2
                                   have hbel2 := hbel1.grown hg2 hbel1.size (fun q hq => by cases hq; exact hsz)
                                   have hph3 := hph2.keep (World.grownBy_alloc w2 (.cells #[.int .u8 (x * 16 + ((l : Int) - 1))] 5) none)
                                   have hsz3 : w.heap.size ≤ (w2.alloc (.cells #[.int .u8 (x * 16 + ((l : Int) - 1))] 5)).heap.size := by have := hbel2.size; simp; omega)
                                | (at_builtin; refine append_bytes w.heap.size u15 bs rfl hph3.1 ⟨w2.heap.size, 0, none⟩ 1 1 [x * 16 + ((l : Int) - 1)] rfl rfl (news1 w2 _) (by omega) hsz3 bs.length rfl ?_; intro ao3 c3 w3 hb3 he3))
                              go_meet
                              case rel =>
                                refine ⟨x, wc.heap.size, zfill l dt, rfl, by rw [zfill_len], ⟨?_, (hr2.alloc _).kept he3.by (Ne.symm hbne), hsz, he3.ne hbne (hr2.alloc _).lt, ⟨[x * 16 + ((l : Int) - 1)], hph3.app hb3 he3, ?_, by simp⟩⟩, (hbel2.alloc hbel2.size _).grown he3.by hsz3 (fun q hq => (World.ownsRow.lt hph3.1 q hq).1)⟩
                                · rw [hbh]
                                  exact ⟨⟨by omega, by rw [zfill_len]; simp; omega⟩, zfill_mem HDB.out⟩
                                · rw [hbh]
                                  simp [enc1, zfill_len]
                  case rest =>
                    obtain ⟨x, g, d, rfl, rfl, HX, hbel3⟩ := hcut
                    obtain ⟨hok, hrg, hgn, hbne, hd, hph, henc, hdl⟩ := HX.out
                    have hsz := hbel3.size
                    have hd255 := okTok_len hok
                    have hvl := HM.out.vlen
                    have HOK : Hid (okTok (bh m) (some (x, d))) := hok
                    have HEN : Hid (hd ++ d = enc1 (bh m) (some (x, d))) := henc
                    have HRG : Hid (Rec wc g 5 (d.map u8v).toArray) := hrg
                    have HPH : Hid (Phys wc w.heap.size u15 (bs ++ hd) u16 vs) := hph
                    have hlx : (bs ++ hd).length = bs.length + hd.length := by simp
                    clear hok henc hrg hph HX HP HR d0 d1 d2
                    cases s' with
                    | true =>
                      go_wp2_with (at_builtin; refine append_bytes w.heap.size u15 (bs ++ hd) rfl HPH.out.1 ⟨g, 0, none⟩ d.length d.length d rfl rfl (news_rec HRG.out) (by omega) hsz (bs.length + hd.length) hlx ?_; intro ao1 c1 w1 hb1 he1)
                      go_roundw
                      case rel =>
                        exact ⟨k + 1, true, by go_num, rfl, by omega, ⟨_, vs, HPH.out.app hb1 he1, by rw [List.append_assoc]; exact HM.out.junk, by simp; omega⟩, hbel3.grown he1.by hsz (fun q hq => (World.ownsRow.lt HPH.out.1 q hq).1)⟩
                      case measure => simp [intOf]; omega
                    | false =>
                      go_wp2_with (first
                        | (at_builtin; refine append_bytes w.heap.size u15 (bs ++ hd) rfl HPH.out.1 ⟨g, 0, none⟩ d.length d.length d rfl rfl (news_rec HRG.out) (by omega) hsz (bs.length + hd.length) hlx ?_; intro ao1 c1 w1 hb1 he1
                           have hph1 := (HPH.out.app hb1 he1).keep (World.grownBy_alloc w1 (.cells #[.int .u8 x, .slice (some ⟨g, 0, none⟩) d.length d.length] 29) none)
                           have hbel4 := hbel3.grown he1.by hsz (fun q hq => (World.ownsRow.lt HPH.out.1 q hq).1)
                           have hsz4 : w.heap.size ≤ (w1.alloc (.cells #[.int .u8 x, .slice (some ⟨g, 0, none⟩) d.length d.length] 29)).heap.size := by have := hbel4.size; simp; omega)
                        | (at_builtin; refine append_ei 25 29 2 32 _ Yba.underlying25 Yba.info29 rfl (by omega) w.heap.size u16 vs.length (vs.flatMap vcells) rfl hph1.2.1 ⟨w1.heap.size, 0, none⟩ 1 1 (vcells (x, g, d)) rfl rfl (news_vis w1 x g d) (by simp [vcells, Value.oneCell']) (by unfold maxLen; omega) (by omega) hsz4 ?_; intro ao2 c2 w2 hr2 he2))
                      go_roundw
                      case rel =>
                        have hbel5 := hbel4.alloc hbel4.size (.cells #[.int .u8 x, .slice (some ⟨g, 0, none⟩) d.length d.length] 29)
                        refine ⟨k + 1, false, by go_num, rfl, by omega, ⟨_, _, hph1.vis hr2 he2 ((HRG.out.kept he1.by (Ne.symm hbne)).alloc _) hgn (he1.ne hbne HRG.out.lt), ?_, by simp; omega⟩, hbel5.grown he2.by hsz4 (fun q hq => (hph1.2.1.lt q hq).1)⟩
                        rw [List.append_assoc, HEN.out]
                        exact HM.out.elem g HOK.out
                      case measure => simp [intOf]; omega
end Go.Proofs.Ybulkedti
