/-
  No cell of these rows narrows 'for every input' (looked for: loops, veiled, ifaces, maps, wideKeys, modest, calm, conditions, laid).
  DERIVED. THE GIVEN ROWS OF THIS SEAT. 2 by the template 'for every input the law returns true; each argument reads behind the call as it read before'; 0 by the template 'total and deterministic' (their statements: YbulkdrjiTotals.lean).
  GIVEN WITH THE SEED: the statements are not yours to turn. If you find one false, say at which input.
  Laid BY PROGRAM, IN A SANDBOX (cutbox-rows.mjs): the forced cells as the released guide's own fill.sh prints them over the translation d0f5ff32137677f1… (all of the seat's roots in one cut). By AI agents, Wed Nov 11 2026. No macro, syntax, notation, axiom, sorry.
-/
import Derived.Test.YbulkdrjiChecked
import GoSem.Claim
import GoSem.ClaimJoined
import GoSem.ClaimMapViews
import Derived.JoinedTies
import Derived.KernelRfl
namespace Go.Proofs.Ybulkdrji
/- THE CELL 'sum', in the pinned program and in every row, IS THE sha256 OF THE DUMP (.gsa) THAT YbulkdrjiProg.lean LOADS. Nothing in Lean hashes anything: it is a label: what it is worth is what the hold of that sum in a sandbox is worth. -/
noncomputable def Yba.pinned : Pinned := { name := "ybulkdrji", sum := "d0f5ff32137677f108a33198729ecda7ea72d8c70cc9387c074ab6c748df3fef", checked := Yba.checked }
namespace Rows
def none {H : Type} : Left H := { results := [], args := [] }

/-- 'centre.LawS5910AWhole': WHATEVER THE INPUT: true; the input reads as it did. -/
def lawS5910AWholeSpec : ChangeSpec := { name := "lawS5910AWhole", fn := fun _ => fun
  | [d] => { results := [.lit (.bool true)], args := [d] }
  | _ => none }
def lawS5910AWholeRow : OpenClaim := { program := "ybulkdrji", sum := "d0f5ff32137677f108a33198729ecda7ea72d8c70cc9387c074ab6c748df3fef", func := "example.com/tocsin/tocsin/centre.LawS5910AWhole", spec := "lawS5910AWhole", apart := false }
def LawS5910AWholeSaid : Prop := lawS5910AWholeRow.holds Yba.pinned (OpenSpec.ofChange lawS5910AWholeSpec)

/-- ITS FALSE NEIGHBOUR: 'it returns false'. Refute it at one input. -/
def lawS5910AWholeWrong : ChangeSpec := { name := "lawS5910AWhole", fn := fun _ => fun
  | [d] => { results := [.lit (.bool false)], args := [d] }
  | _ => none }
def LawS5910AWholeWrongFalsely : Prop := lawS5910AWholeRow.holds Yba.pinned (OpenSpec.ofChange lawS5910AWholeWrong)

/-- 'centre.LawS5910CWhole': WHATEVER THE INPUT: true; the input reads as it did. -/
def lawS5910CWholeSpec : ChangeSpec := { name := "lawS5910CWhole", fn := fun _ => fun
  | [d1, d2, d3, d4, d5, d6, d7, d8, d9, d10, d11] => { results := [.lit (.bool true)], args := [d1, d2, d3, d4, d5, d6, d7, d8, d9, d10, d11] }
  | _ => none }
def lawS5910CWholeRow : OpenClaim := { program := "ybulkdrji", sum := "d0f5ff32137677f108a33198729ecda7ea72d8c70cc9387c074ab6c748df3fef", func := "example.com/tocsin/tocsin/centre.LawS5910CWhole", spec := "lawS5910CWhole", apart := false }
def LawS5910CWholeSaid : Prop := lawS5910CWholeRow.holds Yba.pinned (OpenSpec.ofChange lawS5910CWholeSpec)

/-- ITS FALSE NEIGHBOUR: 'it returns false'. Refute it at one input. -/
def lawS5910CWholeWrong : ChangeSpec := { name := "lawS5910CWhole", fn := fun _ => fun
  | [d1, d2, d3, d4, d5, d6, d7, d8, d9, d10, d11] => { results := [.lit (.bool false)], args := [d1, d2, d3, d4, d5, d6, d7, d8, d9, d10, d11] }
  | _ => none }
def LawS5910CWholeWrongFalsely : Prop := lawS5910CWholeRow.holds Yba.pinned (OpenSpec.ofChange lawS5910CWholeWrong)

end Rows
end Go.Proofs.Ybulkdrji
