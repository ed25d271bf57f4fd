/-
  No cell of these rows narrows 'for every input' (looked for: loops, veiled, ifaces, maps, wideKeys, modest, calm, conditions, laid).
  DERIVED. THE GIVEN ROWS OF THIS SEAT. 2 by the template 'for every input the law returns true; each argument reads behind the call as it read before'; 0 by the template 'total and deterministic' (their statements: YbulkedsuTotals.lean).
  GIVEN WITH THE SEED: the statements are not yours to turn. If you find one false, say at which input.
  Laid BY PROGRAM, IN A SANDBOX (cutbox-rows.mjs): the forced cells as the released guide's own fill.sh prints them over the translation 97c1cb1b9842e22a… (all of the seat's roots in one cut). By AI agents, Wed Nov 11 2026. No macro, syntax, notation, axiom, sorry.
-/
import Derived.Test.YbulkedsuChecked
import GoSem.Claim
import GoSem.ClaimJoined
import GoSem.ClaimMapViews
import Derived.JoinedTies
import Derived.KernelRfl
namespace Go.Proofs.Ybulkedsu
/- THE CELL 'sum', in the pinned program and in every row, IS THE sha256 OF THE DUMP (.gsa) THAT YbulkedsuProg.lean LOADS. Nothing in Lean hashes anything: it is a label: what it is worth is what the hold of that sum in a sandbox is worth. -/
noncomputable def Yba.pinned : Pinned := { name := "ybulkedsu", sum := "97c1cb1b9842e22aabeed71f9f94297d4941c4b26042219777a5cf32af5fda0e", checked := Yba.checked }
namespace Rows
def none {H : Type} : Left H := { results := [], args := [] }

/-- 'config.LawS6507AWhole': WHATEVER THE INPUT: true; the input reads as it did. -/
def lawS6507AWholeSpec : ChangeSpec := { name := "lawS6507AWhole", fn := fun _ => fun
  | [d1, d2] => { results := [.lit (.bool true)], args := [d1, d2] }
  | _ => none }
def lawS6507AWholeRow : OpenClaim := { program := "ybulkedsu", sum := "97c1cb1b9842e22aabeed71f9f94297d4941c4b26042219777a5cf32af5fda0e", func := "example.com/tollgate/tollgate/pkg/config.LawS6507AWhole", spec := "lawS6507AWhole", apart := false }
def LawS6507AWholeSaid : Prop := lawS6507AWholeRow.holds Yba.pinned (OpenSpec.ofChange lawS6507AWholeSpec)

/-- ITS FALSE NEIGHBOUR: 'it returns false'. Refute it at one input. -/
def lawS6507AWholeWrong : ChangeSpec := { name := "lawS6507AWhole", fn := fun _ => fun
  | [d1, d2] => { results := [.lit (.bool false)], args := [d1, d2] }
  | _ => none }
def LawS6507AWholeWrongFalsely : Prop := lawS6507AWholeRow.holds Yba.pinned (OpenSpec.ofChange lawS6507AWholeWrong)

/-- 'config.LawS6507AAssoc': WHATEVER THE INPUT: true; the input reads as it did. -/
def lawS6507AAssocSpec : ChangeSpec := { name := "lawS6507AAssoc", fn := fun _ => fun
  | [d1, d2, d3] => { results := [.lit (.bool true)], args := [d1, d2, d3] }
  | _ => none }
def lawS6507AAssocRow : OpenClaim := { program := "ybulkedsu", sum := "97c1cb1b9842e22aabeed71f9f94297d4941c4b26042219777a5cf32af5fda0e", func := "example.com/tollgate/tollgate/pkg/config.LawS6507AAssoc", spec := "lawS6507AAssoc", apart := false }
def LawS6507AAssocSaid : Prop := lawS6507AAssocRow.holds Yba.pinned (OpenSpec.ofChange lawS6507AAssocSpec)

/-- ITS FALSE NEIGHBOUR: 'it returns false'. Refute it at one input. -/
def lawS6507AAssocWrong : ChangeSpec := { name := "lawS6507AAssoc", fn := fun _ => fun
  | [d1, d2, d3] => { results := [.lit (.bool false)], args := [d1, d2, d3] }
  | _ => none }
def LawS6507AAssocWrongFalsely : Prop := lawS6507AAssocRow.holds Yba.pinned (OpenSpec.ofChange lawS6507AAssocWrong)

end Rows
end Go.Proofs.Ybulkedsu
