/-
  No cell of these rows narrows 'for every input' (looked for: loops, veiled, ifaces, maps, wideKeys, modest, calm, conditions, laid).
  DERIVED. THE GIVEN ROWS OF THIS SEAT. 2 by the template 'for every input the law returns true; each argument reads behind the call as it read before'; 0 by the template 'total and deterministic' (their statements: YbulkedtiTotals.lean).
  GIVEN WITH THE SEED: the statements are not yours to turn. If you find one false, say at which input.
  Laid BY PROGRAM, IN A SANDBOX (cutbox-rows.mjs): the forced cells as the released guide's own fill.sh prints them over the translation d095332a4e6dd662… (all of the seat's roots in one cut). By AI agents, Wed Nov 11 2026. No macro, syntax, notation, axiom, sorry.
-/
import Derived.Test.YbulkedtiChecked
import GoSem.Claim
import GoSem.ClaimJoined
import GoSem.ClaimMapViews
import Derived.JoinedTies
import Derived.KernelRfl
namespace Go.Proofs.Ybulkedti
/- THE CELL 'sum', in the pinned program and in every row, IS THE sha256 OF THE DUMP (.gsa) THAT YbulkedtiProg.lean LOADS. Nothing in Lean hashes anything: it is a label: what it is worth is what the hold of that sum in a sandbox is worth. -/
noncomputable def Yba.pinned : Pinned := { name := "ybulkedti", sum := "d095332a4e6dd6625d60c16ec703c061de5c7afb7ea6b4d2f9c5113ca2ee657c", checked := Yba.checked }
namespace Rows
def none {H : Type} : Left H := { results := [], args := [] }

/-- 'headroom.LawS6508BWhole': WHATEVER THE INPUT: true; the input reads as it did. -/
def lawS6508BWholeSpec : ChangeSpec := { name := "lawS6508BWhole", fn := fun _ => fun
  | [d1, d2, d3, d4, d5, d6, d7, d8, d9] => { results := [.lit (.bool true)], args := [d1, d2, d3, d4, d5, d6, d7, d8, d9] }
  | _ => none }
def lawS6508BWholeRow : OpenClaim := { program := "ybulkedti", sum := "d095332a4e6dd6625d60c16ec703c061de5c7afb7ea6b4d2f9c5113ca2ee657c", func := "example.com/headroom/headroom.LawS6508BWhole", spec := "lawS6508BWhole", unfollowed := true, recurses := true, apart := false }
def LawS6508BWholeSaid : Prop := lawS6508BWholeRow.holds Yba.pinned (OpenSpec.ofChange lawS6508BWholeSpec)

/-- ITS FALSE NEIGHBOUR: 'it returns false'. Refute it at one input. -/
def lawS6508BWholeWrong : ChangeSpec := { name := "lawS6508BWhole", fn := fun _ => fun
  | [d1, d2, d3, d4, d5, d6, d7, d8, d9] => { results := [.lit (.bool false)], args := [d1, d2, d3, d4, d5, d6, d7, d8, d9] }
  | _ => none }
def LawS6508BWholeWrongFalsely : Prop := lawS6508BWholeRow.holds Yba.pinned (OpenSpec.ofChange lawS6508BWholeWrong)

/-- 'headroom.LawS6508CWhole': WHATEVER THE INPUT: true; the input reads as it did. -/
def lawS6508CWholeSpec : ChangeSpec := { name := "lawS6508CWhole", fn := fun _ => fun
  | [d1, d2] => { results := [.lit (.bool true)], args := [d1, d2] }
  | _ => none }
def lawS6508CWholeRow : OpenClaim := { program := "ybulkedti", sum := "d095332a4e6dd6625d60c16ec703c061de5c7afb7ea6b4d2f9c5113ca2ee657c", func := "example.com/headroom/headroom.LawS6508CWhole", spec := "lawS6508CWhole", apart := false }
def LawS6508CWholeSaid : Prop := lawS6508CWholeRow.holds Yba.pinned (OpenSpec.ofChange lawS6508CWholeSpec)

/-- ITS FALSE NEIGHBOUR: 'it returns false'. Refute it at one input. -/
def lawS6508CWholeWrong : ChangeSpec := { name := "lawS6508CWhole", fn := fun _ => fun
  | [d1, d2] => { results := [.lit (.bool false)], args := [d1, d2] }
  | _ => none }
def LawS6508CWholeWrongFalsely : Prop := lawS6508CWholeRow.holds Yba.pinned (OpenSpec.ofChange lawS6508CWholeWrong)

end Rows
end Go.Proofs.Ybulkedti
