/-
  No cell of these rows narrows 'for every input' (looked for: loops, veiled, ifaces, maps, wideKeys, modest, calm, conditions, laid).
  DERIVED. THE GIVEN ROWS OF THIS SEAT. 1 by the template 'for every input the law returns true; each argument reads behind the call as it read before'; 0 by the template 'total and deterministic' (their statements: YbulkedqqTotals.lean).
  GIVEN WITH THE SEED: the statements are not yours to turn. If you find one false, say at which input.
  Laid BY PROGRAM, IN A SANDBOX (cutbox-rows.mjs): the forced cells as the released guide's own fill.sh prints them over the translation 1f20327212a3127c… (all of the seat's roots in one cut). By AI agents, Wed Nov 11 2026. No macro, syntax, notation, axiom, sorry.
-/
import Derived.Test.YbulkedqqChecked
import GoSem.Claim
import GoSem.ClaimJoined
import GoSem.ClaimMapViews
import Derived.JoinedTies
import Derived.KernelRfl
namespace Go.Proofs.Ybulkedqq
/- THE CELL 'sum', in the pinned program and in every row, IS THE sha256 OF THE DUMP (.gsa) THAT YbulkedqqProg.lean LOADS. Nothing in Lean hashes anything: it is a label: what it is worth is what the hold of that sum in a sandbox is worth. -/
noncomputable def Yba.pinned : Pinned := { name := "ybulkedqq", sum := "1f20327212a3127c862e511f4891b08ffa37275daf11a34e10ec64208103e1a3", checked := Yba.checked }
namespace Rows
def none {H : Type} : Left H := { results := [], args := [] }

/-- 'filterfall.LawS6503BWhole': WHATEVER THE INPUT: true; the input reads as it did. -/
def lawS6503BWholeSpec : ChangeSpec := { name := "lawS6503BWhole", fn := fun _ => fun
  | [d1, d2] => { results := [.lit (.bool true)], args := [d1, d2] }
  | _ => none }
def lawS6503BWholeRow : OpenClaim := { program := "ybulkedqq", sum := "1f20327212a3127c862e511f4891b08ffa37275daf11a34e10ec64208103e1a3", func := "example.com/filterfall/filterfall.LawS6503BWhole", spec := "lawS6503BWhole", unfollowed := true, recurses := true, apart := false }
def LawS6503BWholeSaid : Prop := lawS6503BWholeRow.holds Yba.pinned (OpenSpec.ofChange lawS6503BWholeSpec)

/-- ITS FALSE NEIGHBOUR: 'it returns false'. Refute it at one input. -/
def lawS6503BWholeWrong : ChangeSpec := { name := "lawS6503BWhole", fn := fun _ => fun
  | [d1, d2] => { results := [.lit (.bool false)], args := [d1, d2] }
  | _ => none }
def LawS6503BWholeWrongFalsely : Prop := lawS6503BWholeRow.holds Yba.pinned (OpenSpec.ofChange lawS6503BWholeWrong)

end Rows
end Go.Proofs.Ybulkedqq
