import Derived.Test.YbulkedrsKeep
namespace Go.Proofs.Ybulkedrs
open Go.RowKit
set_option linter.unusedVariables false
attribute [local go_sem] Go.wp_at_zero Go.wp_at_succ

theorem run_ne {w : World} {R B e size n : Nat} {v vd vc : Value} {xs : List Value} (h : RunAt w R vd vc) (ho : w.ownsRow B e size v n xs) (he : e ≠ 64) : v.ownBlock ≠ some R := by
  obtain ⟨rc, h1, _⟩ := h
  intro hv
  rcases ho.2 with ⟨rfl, _⟩ | ⟨g, cap, cur, rfl, _, hg, _⟩
  · simp [Value.ownBlock] at hv
  · simp [Value.ownBlock] at hv
    subst hv
    rw [h1] at hg
    cases hg
    exact he rfl

theorem step_call1 {P : Program} {ops : Array Oper} {o : Oper} {a : Act} {w : World} {K : Act → World → Prop} {Q : Exit → Act → World → Prop} {E : Prop} (hgd : o.guard = none) (f : FuncId) (x : Operand) (ty : Array TypeId)
    (hop : o.op = .call { callee := .value (.func f), args := #[x], argTypes := ty }) (fn : Func) (hf : P.funcs[f]? = some fn) (hname : (fn.name == "runtime.NumGoroutine") = false) (hb : fn.body.isNone = false) (v r : Value) (hx : a.eval x = v) (hc : Calls P f #[v] w fun e w' => e = .returned r ∧ w' = w) (hK : K (a.put o.dst r) w) :
    if Region.wanted o (yielded ops a.tmps) = true then Oper.wp P o a w K Q else E := by
  have hw : Region.wanted o (yielded ops a.tmps) = true := by simp [Region.wanted, hgd]
  rw [if_pos hw]
  have hrun : (execOp a.eval o).run P w = .ok (.enter f #[v]) w := by
    have hcf : ∀ args, (callFunc f args).run P w = .ok (.enter f args) w := fun args => by
      have hb' : fn.body.isNone = false := hb
      simp only [callFunc, Sem.run_bind, run_program, Result.andThen_ok, hf, hname, hb']
      simp
    simp [execOp, hop, resolve, go_sem, hcf]
    cases x <;> simpa [Act.eval] using hx
  unfold Oper.wp
  rw [hrun, Oper.upon_enter]
  refine hc.mono fun e w' h => ?_
  obtain ⟨rfl, rfl⟩ := h
  exact hK

theorem dlg_step {wr w1 : World} {R B k : Nat} {v v' vc : Value} {l : List Nat} {S : Nat → Int} {dlg : Array Value} {tmp : Obj} (hrun : RunAt wr R v vc) (hl : l.length = k) (hown : wr.ownsRow B 65 1 v k (l.map pt)) (hds : ∀ i, i < k → Dl wr (l.getD i 0) (S i))
    (hdlg : dlg[37]? = some (.string (stS (S k)))) (hgrow : ((wr.alloc (.cells dlg 86)).alloc tmp).drew.grownBy w1 v.ownBlock) (hown1 : w1.ownsRow B 65 1 v' (k + 1) (l.map pt ++ [pt wr.heap.size])) :
    RunAt (w1.setCell ⟨R, 12, none⟩ v') R v' vc ∧ Dlgs (w1.setCell ⟨R, 12, none⟩ v') B v' (k + 1) S := by
  have ho2 : ((wr.alloc (.cells dlg 86)).alloc tmp).drew.ownsRow B 65 1 v k (l.map pt) := ((hown.alloc _).alloc _).drew
  have k1 : Keep [65] ((wr.alloc (.cells dlg 86)).alloc tmp).drew w1 := (Keep.refl _ _).grown hgrow ho2 rfl
  have k0 : Keep [65] wr w1 := Keep.trans (((Keep.refl _ _).alloc _).alloc _).drew k1
  have hr1 : RunAt w1 R v vc := hrun.keep k0 rfl
  obtain ⟨rc, hrc, _⟩ := id hr1
  have k2 : Keep [64] w1 (w1.setCell ⟨R, 12, none⟩ v') := (Keep.refl _ _).setCell (p := ⟨R, 12, none⟩) hrc rfl _
  refine ⟨hr1.set12 _, l ++ [wr.heap.size], by simp [hl], ?_, fun i hi => ?_⟩
  · rw [List.map_append]
    exact ownsRow_keep hown1 k2 rfl
  · by_cases hik : i < k
    · have e : (l ++ [wr.heap.size]).getD i 0 = l.getD i 0 := by simp [List.getD, List.getElem?_append_left (show i < l.length by omega)]
      rw [e]
      exact ((hds i hik).keep k0 rfl).keep k2 rfl
    · obtain rfl : i = k := by omega
      have e : (l ++ [wr.heap.size]).getD i 0 = wr.heap.size := by simp [List.getD, hl]
      rw [e]
      have : Dl ((wr.alloc (.cells dlg 86)).alloc tmp).drew wr.heap.size (S i) := ⟨dlg, heap_alloc2_old wr _ _, hdlg⟩
      exact (this.keep k1 rfl).keep k2 rfl

theorem sAlloc {w : World} {R bs i j : Nat} {v x : Value} (o : Obj) (hR : R < w.heap.size) (hb : bs < w.heap.size) (h : w.cell? ⟨R, i, none⟩ = some v ∧ w.cell? ⟨bs, j, none⟩ = some x ∧ w.frozen? ⟨R, i, none⟩ = false) :
    (w.alloc o).drew.cell? ⟨R, i, none⟩ = some v ∧ (w.alloc o).drew.cell? ⟨bs, j, none⟩ = some x ∧ (w.alloc o).drew.frozen? ⟨R, i, none⟩ = false := by
  rw [World.cell?_drew, World.cell?_drew, World.frozen?_drew, World.cell?_alloc_past _ _ _ hR, World.cell?_alloc_past _ _ _ hb, World.frozen?_alloc_past _ _ _ hR]
  exact h

end Go.Proofs.Ybulkedrs
