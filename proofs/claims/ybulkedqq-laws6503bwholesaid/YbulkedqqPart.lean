import Derived.Test.YbulkedqqLook
namespace Go.Proofs.Ybulkedqq
open Go.RowKit
set_option linter.unusedVariables false
/-- Parts of a code. -/
def sq1 : Code → Code
  | .seq a _ => a
  | c => c
def sq2 : Code → Code
  | .seq _ b => b
  | c => c
def inBlk : Code → Code
  | .block _ c => c
  | c => c
def inLoop : Code → Code
  | .loop c => c
  | c => c
/-- What stands behind a round of the first loop. -/
def RR (w : World) (N k : Nat) (v i : Value) (w' : World) : Prop :=
  ∃ (k' : Nat) (Es' : List Ent), i = .int .i64 k' ∧ k' = k + 1 ∧ (∃ ao m c, v = .slice ao m c) ∧ Hid (St w' N v Es' (2 * k') (2 * k') k') ∧ Hid (Below N w w')
end Go.Proofs.Ybulkedqq
