/-
  No cell of these rows narrows 'for every input' (looked for: loops, veiled, ifaces, maps, wideKeys, modest, calm, conditions, laid).
  DERIVED. THE GIVEN ROWS OF THIS SEAT. 2 by the template 'for every input the law returns true; each argument reads behind the call as it read before'; 0 by the template 'total and deterministic' (their statements: YbulkedrsTotals.lean).
  GIVEN WITH THE SEED: the statements are not yours to turn. If you find one false, say at which input.
  Laid BY PROGRAM, IN A SANDBOX (cutbox-rows.mjs): the forced cells as the released guide's own fill.sh prints them over the translation b6f39e5f23d695f7… (all of the seat's roots in one cut). By AI agents, Wed Nov 11 2026. No macro, syntax, notation, axiom, sorry.
-/
import Derived.Test.YbulkedrsChecked
import GoSem.Claim
import GoSem.ClaimJoined
import GoSem.ClaimMapViews
import Derived.JoinedTies
import Derived.KernelRfl
namespace Go.Proofs.Ybulkedrs
/- THE CELL 'sum', in the pinned program and in every row, IS THE sha256 OF THE DUMP (.gsa) THAT YbulkedrsProg.lean LOADS. Nothing in Lean hashes anything: it is a label: what it is worth is what the hold of that sum in a sandbox is worth. -/
noncomputable def Yba.pinned : Pinned := { name := "ybulkedrs", sum := "b6f39e5f23d695f74a2a044a11ee730f31e1c37d18b198431e95451b20017dc8", checked := Yba.checked }
namespace Rows
def none {H : Type} : Left H := { results := [], args := [] }

/-- 'catalogue.LawS6505AWhole': WHATEVER THE INPUT: true; the input reads as it did. -/
def lawS6505AWholeSpec : ChangeSpec := { name := "lawS6505AWhole", fn := fun _ => fun
  | [d1, d2, d3] => { results := [.lit (.bool true)], args := [d1, d2, d3] }
  | _ => none }
def lawS6505AWholeRow : OpenClaim := { program := "ybulkedrs", sum := "b6f39e5f23d695f74a2a044a11ee730f31e1c37d18b198431e95451b20017dc8", func := "example.com/siproof/siproof/internal/catalogue.LawS6505AWhole", spec := "lawS6505AWhole", plainKeys := false, apart := false }
def LawS6505AWholeSaid : Prop := lawS6505AWholeRow.holds Yba.pinned (OpenSpec.ofChange lawS6505AWholeSpec)

/-- ITS FALSE NEIGHBOUR: 'it returns false'. Refute it at one input. -/
def lawS6505AWholeWrong : ChangeSpec := { name := "lawS6505AWhole", fn := fun _ => fun
  | [d1, d2, d3] => { results := [.lit (.bool false)], args := [d1, d2, d3] }
  | _ => none }
def LawS6505AWholeWrongFalsely : Prop := lawS6505AWholeRow.holds Yba.pinned (OpenSpec.ofChange lawS6505AWholeWrong)

/-- 'live.LawS6505CWhole': WHATEVER THE INPUT: true; the input reads as it did. -/
def lawS6505CWholeSpec : ChangeSpec := { name := "lawS6505CWhole", fn := fun _ => fun
  | [d1, d2] => { results := [.lit (.bool true)], args := [d1, d2] }
  | _ => none }
def lawS6505CWholeRow : OpenClaim := { program := "ybulkedrs", sum := "b6f39e5f23d695f74a2a044a11ee730f31e1c37d18b198431e95451b20017dc8", func := "example.com/siproof/siproof/internal/live.LawS6505CWhole", spec := "lawS6505CWhole", plainKeys := false, apart := false }
def LawS6505CWholeSaid : Prop := lawS6505CWholeRow.holds Yba.pinned (OpenSpec.ofChange lawS6505CWholeSpec)

/-- ITS FALSE NEIGHBOUR: 'it returns false'. Refute it at one input. -/
def lawS6505CWholeWrong : ChangeSpec := { name := "lawS6505CWhole", fn := fun _ => fun
  | [d1, d2] => { results := [.lit (.bool false)], args := [d1, d2] }
  | _ => none }
def LawS6505CWholeWrongFalsely : Prop := lawS6505CWholeRow.holds Yba.pinned (OpenSpec.ofChange lawS6505CWholeWrong)

end Rows
end Go.Proofs.Ybulkedrs
