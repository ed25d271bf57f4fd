import Derived.Test.YbulkedqqSt
namespace Go.Proofs.Ybulkedqq
open Go.RowKit
set_option linter.unusedVariables false

/-- The scan's entry. -/
def scanE (pb s : Nat) (sv : Value) : Ent := ⟨.iface 76 (pt pb), sv, .slice none 0 0, .slice none 0 0, oneS s⟩
theorem push_scan {wr w1 : World} {N a b c m cap : Nat} {ao : Option Addr} {Es : List Ent} (h : St wr N (.slice ao m cap) Es a b c) (hN : N ≤ wr.heap.size) (hb1 : Below wr.heap.size wr w1) {pb s : Nat} {sv : Value} (hent : EntR w1 (oneS s) sv (.slice none 0 0) (.slice none 0 0)) (hT : IsT 1 w1 (.iface 76 (pt pb)) (oneS s)) (htag : Tag w1 s 35) (hge : wr.heap.size ≤ s) :
    (w1.alloc (.cells #[.iface 76 (.pointer (some ⟨pb, 0, none⟩)), sv, .slice none 0 0, .slice none 0 0] 30)).ownsRow N 30 4 (.slice ao Es.length cap) Es.length (Es.flatMap ec) ∧ RowR (w1.alloc (.cells #[.iface 76 (.pointer (some ⟨pb, 0, none⟩)), sv, .slice none 0 0, .slice none 0 0] 30)) 30 4 (.slice (some ⟨w1.heap.size, 0, none⟩) 1 1) 1 (ec (scanE pb s sv)) ∧ N ≤ (w1.alloc (.cells #[.iface 76 (.pointer (some ⟨pb, 0, none⟩)), sv, .slice none 0 0, .slice none 0 0] 30)).heap.size ∧
    (∀ u ∈ ec (scanE pb s sv), u.oneCell' = true) ∧
    ∀ v' w3, w3.ownsRow N 30 4 v' (Es.length + 1) (Es.flatMap ec ++ ec (scanE pb s sv)) → (w1.alloc (.cells #[.iface 76 (.pointer (some ⟨pb, 0, none⟩)), sv, .slice none 0 0, .slice none 0 0] 30)).grownBy w3 (Value.slice ao Es.length cap).ownBlock → St w3 N v' (Es ++ [scanE pb s sv]) (a + 1) (b + 1) c ∧ Below N wr w3 := by
  have hE : EntOK w1 1 (scanE pb s sv) := ⟨hent, hT⟩
  have h' : St wr N (.slice ao m cap) (Es ++ []) a b c := by simpa using h
  have := St.push (fs := [s]) (fj := []) (fn := []) h' hN hb1 (scanE pb s sv) 1 hE (by simp [scanE, oneS, fS]) (by simp [scanE, oneS, fJ]) (by simp [scanE, oneS, fN]) (by simp) (by simp) (by simp) (by simpa using ⟨hge, htag⟩) (by simp) (by simp) (a + 1) (b + 1) c (by simp) (by simp) (by simp)
  exact ⟨this.1, this.2.1, this.2.2.1, hE.one, this.2.2.2⟩

theorem St.mono {w : World} {B a b c a' b' c' : Nat} {v : Value} {Es : List Ent} (h : St w B v Es a b c) (ha : a ≤ a') (hb : b ≤ b') (hc : c ≤ c') : St w B v Es a' b' c' := ⟨h.1, h.2.1, h.2.2.1, h.2.2.2.mono ha hb hc⟩

/-- The entry of a CTERef, made in the law itself. -/
def cteE (z : Nat) : Ent := ⟨.iface 36 (pt (z + 1)), .slice (some ⟨z + 1 + 1, 0, none⟩) 1 1, .slice none 0 0, .slice none 0 0, oneS z⟩
def cteW (wr : World) : World := ((wr.alloc (.cells #[.pointer none, .string ⟨#[]⟩] 35)).alloc (.cells #[.pointer (some ⟨wr.heap.size, 0, none⟩)] 38)).alloc (.cells #[.pointer (some ⟨wr.heap.size, 0, none⟩)] 32)
theorem push_cte {wr : World} {N a b c m cap : Nat} {ao : Option Addr} {Es : List Ent} (h : St wr N (.slice ao m cap) Es a b c) (hN : N ≤ wr.heap.size) :
    ((cteW wr).alloc (.cells #[(cteE wr.heap.size).p, (cteE wr.heap.size).sv, (cteE wr.heap.size).jv, (cteE wr.heap.size).nv] 30)).ownsRow N 30 4 (.slice ao Es.length cap) Es.length (Es.flatMap ec) ∧ RowR ((cteW wr).alloc (.cells #[(cteE wr.heap.size).p, (cteE wr.heap.size).sv, (cteE wr.heap.size).jv, (cteE wr.heap.size).nv] 30)) 30 4 (.slice (some ⟨(cteW wr).heap.size, 0, none⟩) 1 1) 1 (ec (cteE wr.heap.size)) ∧ N ≤ ((cteW wr).alloc (.cells #[(cteE wr.heap.size).p, (cteE wr.heap.size).sv, (cteE wr.heap.size).jv, (cteE wr.heap.size).nv] 30)).heap.size ∧
    (∀ u ∈ ec (cteE wr.heap.size), u.oneCell' = true) ∧
    ∀ v' w3, w3.ownsRow N 30 4 v' (Es.length + 1) (Es.flatMap ec ++ ec (cteE wr.heap.size)) → ((cteW wr).alloc (.cells #[(cteE wr.heap.size).p, (cteE wr.heap.size).sv, (cteE wr.heap.size).jv, (cteE wr.heap.size).nv] 30)).grownBy w3 (Value.slice ao Es.length cap).ownBlock → St w3 N v' (Es ++ [cteE wr.heap.size]) (a + 1) (b + 1) c ∧ Below N wr w3 := by
  have hS : Rec (cteW wr) wr.heap.size 35 #[.pointer none, .string ⟨#[]⟩] := ((rec_new wr _ _).alloc _).alloc _
  have hC : Rec (cteW wr) (wr.heap.size + 1) 38 #[.pointer (some ⟨wr.heap.size, 0, none⟩)] := (rec_new' _ _ _ _ (by simp)).alloc _
  have hR : Rec (cteW wr) (wr.heap.size + 1 + 1) 32 #[.pointer (some ⟨wr.heap.size, 0, none⟩)] := rec_new' _ _ _ _ (by simp)
  have hb : Below wr.heap.size wr (cteW wr) := (((Below.refl _ wr).alloc (Nat.le_refl _) _).alloc (by simp) _).alloc (by simp; omega) _
  have hE : EntOK (cteW wr) 1 (cteE wr.heap.size) := ⟨⟨row_one hR, RowR.nil _ _ _, RowR.nil _ _ _⟩, .inr (.inl ⟨_, _, _, rfl, hC, rfl, rfl⟩)⟩
  have h' : St wr N (.slice ao m cap) (Es ++ []) a b c := by simpa using h
  have := St.push (fs := [wr.heap.size]) (fj := []) (fn := []) h' hN hb (cteE wr.heap.size) 1 hE (by simp [cteE, oneS, fS]) (by simp [cteE, oneS, fJ]) (by simp [cteE, oneS, fN]) (by simp) (by simp) (by simp) (by simpa using ⟨_, hS⟩) (by simp) (by simp) (a + 1) (b + 1) c (by simp) (by simp) (by simp)
  exact ⟨this.1, this.2.1, this.2.2.1, hE.one, this.2.2.2⟩

/-- An entry on the stack, its shape laid open. -/
theorem St.open {w : World} {B a b c n cap : Nat} {ao : Option Addr} {pre post : List Ent} {E : Ent} (h : St w B (.slice ao n cap) (pre ++ E :: post) a b c) :
    ∃ ty pb sa sc ja jq na nq T d, E = ⟨.iface ty (.pointer (some ⟨pb, 0, none⟩)), .slice sa T.s.length sc, .slice ja T.j.length jq, .slice na T.n.length nq, T⟩ ∧ EntOK w d E ∧ T ∈ (pre ++ E :: post).map (·.T) := by
  obtain ⟨_, ⟨d, hd⟩, _, _⟩ := h
  have hE := hd E (by simp)
  obtain ⟨ty, pb, hp⟩ := hE.2.shape
  obtain ⟨_, sa, sc, h1, _⟩ := hE.1.1
  obtain ⟨_, ja, jq, h2, _⟩ := hE.1.2.1
  obtain ⟨_, na, nq, h3, _⟩ := hE.1.2.2
  refine ⟨ty, pb, sa, sc, ja, jq, na, nq, E.T, d, ?_, hE, by simp⟩
  cases E
  simp only at hp h1 h2 h3
  rw [hp, h1, h2, h3]
  rfl
theorem snoc_of {Es : List Ent} (h : Es ≠ []) : ∃ pre E, Es = pre ++ [E] := by
  rcases List.eq_nil_or_concat Es with h' | ⟨pre, E, h'⟩
  · exact absurd h' h
  · exact ⟨pre, E, by simpa using h'⟩

/-- The top of the stack is written anew, at the end of a round. -/
theorem St.top {wc w7 : World} {N a b c g vc : Nat} {pre : List Ent} {E0 : Ent} {fs : List Nat} (h : St wc N (.slice (some ⟨g, 0, none⟩) (pre.length + 1) vc) (pre ++ [E0]) a b c) (hN : N ≤ wc.heap.size) (hb : Below wc.heap.size wc w7) (E : Ent) (d : Nat) (hE : EntOK w7 d E)
    (hs : E.T.s.Perm (fs ++ E0.T.s)) (hj : (E.T.j.map (·.1)).Perm (E0.T.j.map (·.1))) (hn : (E.T.n.map (·.2)).Perm (E0.T.n.map (·.2))) (ns : fs.Nodup) (gs : ∀ x ∈ fs, wc.heap.size ≤ x ∧ Tag w7 x 35) (a' b' c' : Nat) (ha : a + fs.length ≤ a') (hbb : b ≤ b') (hc : c ≤ c') :
    St (set4o w7 g (pre.length * 4) E.p E.sv E.jv E.nv) N (.slice (some ⟨g, 0, none⟩) (pre.length + 1) vc) (pre ++ [E]) a' b' c' ∧ Below N wc (set4o w7 g (pre.length * 4) E.p E.sv E.jv E.nv) ∧ ∃ cur, Rec w7 g 30 cur ∧ N ≤ g ∧ cur.size = vc * 4 ∧ pre.length + 1 ≤ vc := by
  obtain ⟨_, g', cur, e1, hBg, hrec, hcsz, hcap, _⟩ := h.at (pre := pre) (post := [])
  cases e1
  have h7 := h.below hb
  have hrec7 : Rec w7 g 30 cur := (hb.block g hrec.lt).trans hrec
  have hk7 : KeptB w7 (set4o w7 g (pre.length * 4) E.p E.sv E.jv E.nv) := set4o_kept hrec7 _ _ _ _
  have ho := h7.1
  rw [show (pre ++ [E0]).length = pre.length + 1 by simp] at ho
  refine ⟨h.step (fs := fs) (fj := []) (fn := []) ((KeptB.below hb).trans hk7) hN E d (hE.keep hk7) _ (own_set4o ho E) (by simpa [fS] using hs) (by simpa [fJ] using hj) (by simpa [fN] using hn) ns (by simp) (by simp) (fun x hx => ⟨(gs x hx).1, hk7.tag (gs x hx).2 (by decide)⟩) (by simp) (by simp) a' b' c' ha (by simp; omega) (by simpa using hc), ?_, cur, hrec7, hBg, hcsz, by omega⟩
  exact set4o_below (hb.mono hN) hBg _ _ _ _

def derE (E s : Nat) (sv jv nv : Value) (T : Pl) : Ent := ⟨.iface 40 (pt (E + 1)), sv, jv, nv, (oneS s).cat T⟩
theorem push_derived {wc w3 w4 : World} {N a b c g vc Z d : Nat} {pre : List Ent} {E0 : Ent} {p sv jv nv : Value} (h : St wc N (.slice (some ⟨g, 0, none⟩) (pre.length + 1) vc) (pre ++ [E0]) a b c) (hN : N ≤ wc.heap.size) (hZ : wc.heap.size = Z) (hb3 : Below Z wc w3) (hs3 : Rec w3 (Z + 1) 35 #[.pointer none, .string ⟨#[]⟩]) (hp : E0.p = p) (hok : EntOK wc d E0)
    (ho4 : EntO w4 w3.heap.size ((oneS (Z + 1)).cat E0.T) sv jv nv) (hb4 : Below w3.heap.size w3 w4) {E : Nat} (hE : w4.heap.size = E) :
    let w7 := (w4.alloc (.cells #[.iface 40 (.pointer (some ⟨E + 1, 0, none⟩)), sv, jv, nv] 30)).alloc (.cells #[.pointer (some ⟨Z + 1, 0, none⟩), .bool false, p] 42)
    Rec w7 E 30 #[.iface 40 (.pointer (some ⟨E + 1, 0, none⟩)), sv, jv, nv] ∧
    St (set4o w7 g (pre.length * 4) (.iface 40 (.pointer (some ⟨E + 1, 0, none⟩))) sv jv nv) N (.slice (some ⟨g, 0, none⟩) (pre.length + 1) vc) (pre ++ [derE E (Z + 1) sv jv nv E0.T]) (a + 1) b c ∧ Below N wc (set4o w7 g (pre.length * 4) (.iface 40 (.pointer (some ⟨E + 1, 0, none⟩))) sv jv nv) ∧ ∃ cur, Rec w7 g 30 cur ∧ N ≤ g ∧ cur.size = vc * 4 ∧ pre.length + 1 ≤ vc := by
  intro w7
  have hr7 : Rec w7 E 30 #[.iface 40 (.pointer (some ⟨E + 1, 0, none⟩)), sv, jv, nv] := (rec_new' _ _ _ _ hE).alloc _
  have hd7 : Rec w7 (E + 1) 42 #[.pointer (some ⟨Z + 1, 0, none⟩), .bool false, p] := rec_new' _ _ _ _ (by simp [hE])
  have hb47 : Below w4.heap.size w4 w7 := ((Below.refl _ w4).alloc (Nat.le_refl _) _).alloc (by simp) _
  have hk47 : KeptB w4 w7 := KeptB.below hb47
  have hk37 : KeptB w3 w7 := (KeptB.below hb4).trans hk47
  have hz3 : Z ≤ w3.heap.size := by have := hb3.size; omega
  have hz4 : Z ≤ w4.heap.size := by have := hb4.size; omega
  have hb7 : Below wc.heap.size wc w7 := by
    rw [hZ]
    exact (hb3.trans (hb4.mono hz3)).trans (hb47.mono hz4)
  have hE7 : EntOK w7 (d + 1) (derE E (Z + 1) sv jv nv E0.T) := by
    refine ⟨ho4.row.keep hk47.kept, .inr (.inr (.inl ⟨E + 1, Z + 1, p, _, E0.T, rfl, hd7, rfl, rfl, ?_, rfl⟩))⟩
    rw [← hp]
    exact hok.2.keep (KeptB.below hb7).kept
  have := St.top (fs := [Z + 1]) h hN hb7 (derE E (Z + 1) sv jv nv E0.T) (d + 1) hE7 (by simp [derE, oneS, Pl.cat]) (by simp [derE, oneS, Pl.cat, shf, Function.comp_def]) (by simp [derE, oneS, Pl.cat]) (by simp) (by simpa using ⟨by omega, ⟨_, hk37 _ _ _ hs3 (by decide)⟩⟩) (a + 1) b c (by simp) (by omega) (by omega)
  exact ⟨hr7, this.1, this.2.1, this.2.2⟩


theorem two_of {Es : List Ent} (h : 2 ≤ Es.length) : ∃ pre E F, Es = pre ++ [E, F] := by
  obtain ⟨a, F, rfl⟩ := snoc_of (Es := Es) (by rintro rfl; simp at h)
  obtain ⟨pre, E, rfl⟩ := snoc_of (Es := a) (by rintro rfl; simp at h)
  exact ⟨pre, E, F, by simp⟩
def lenOf : Value → Nat
  | .slice _ m _ => m
  | _ => 0
def aggE (Z : Nat) (sv jv nv : Value) (T : Pl) : Ent := ⟨.iface 43 (pt (Z + 1)), sv, jv, nv, T⟩
theorem push_agg {wc : World} {N a b c g vc Z d : Nat} {pre : List Ent} {E0 : Ent} {p sv jv nv : Value} (h : St wc N (.slice (some ⟨g, 0, none⟩) (pre.length + 1) vc) (pre ++ [E0]) a b c) (hN : N ≤ wc.heap.size) (hZ : wc.heap.size = Z) (hp : E0 = ⟨p, sv, jv, nv, E0.T⟩) (hok : EntOK wc d E0) :
    let w7 := (wc.alloc (.cells #[.iface 43 (.pointer (some ⟨Z + 1, 0, none⟩)), sv, jv, nv] 30)).alloc (.cells #[.slice none 0 0, .slice none 0 0, p] 47)
    Rec w7 Z 30 #[.iface 43 (.pointer (some ⟨Z + 1, 0, none⟩)), sv, jv, nv] ∧
    St (set4o w7 g (pre.length * 4) (.iface 43 (.pointer (some ⟨Z + 1, 0, none⟩))) sv jv nv) N (.slice (some ⟨g, 0, none⟩) (pre.length + 1) vc) (pre ++ [aggE Z sv jv nv E0.T]) a b c ∧ Below N wc (set4o w7 g (pre.length * 4) (.iface 43 (.pointer (some ⟨Z + 1, 0, none⟩))) sv jv nv) ∧ ∃ cur, Rec w7 g 30 cur ∧ N ≤ g ∧ cur.size = vc * 4 ∧ pre.length + 1 ≤ vc := by
  intro w7
  have hr7 : Rec w7 Z 30 #[.iface 43 (.pointer (some ⟨Z + 1, 0, none⟩)), sv, jv, nv] := (rec_new' _ _ _ _ hZ).alloc _
  have hd7 : Rec w7 (Z + 1) 47 #[.slice none 0 0, .slice none 0 0, p] := rec_new' _ _ _ _ (by simp [hZ])
  have hb7 : Below wc.heap.size wc w7 := ((Below.refl _ wc).alloc (Nat.le_refl _) _).alloc (by simp) _
  have hk7 := KeptB.below hb7
  have hok7 := hok.keep hk7
  have hE7 : EntOK w7 (d + 1) (aggE Z sv jv nv E0.T) := by
    have h1 := hok7.1
    have h2 := hok7.2
    rw [hp] at h1 h2
    exact ⟨h1, .inr (.inr (.inr (.inr (.inl ⟨Z + 1, p, _, rfl, hd7, rfl, h2⟩))))⟩
  have := St.top (fs := []) h hN hb7 (aggE Z sv jv nv E0.T) (d + 1) hE7 (by simp [aggE]) (by simp [aggE]) (by simp [aggE]) (by simp) (by simp) a b c (by simp) (by omega) (by omega)
  exact ⟨hr7, this.1, this.2.1, this.2.2⟩
end Go.Proofs.Ybulkedqq
