/-
  No cell of these rows narrows 'for every input' (looked for: loops, veiled, ifaces, maps, wideKeys, modest, calm, conditions, laid).
  DERIVED. THE GIVEN ROWS OF THIS SEAT. 1 by the template 'for every input the law returns true; each argument reads behind the call as it read before'; 0 by the template 'total and deterministic' (their statements: YbulkdrkkTotals.lean).
  GIVEN WITH THE SEED: the statements are not yours to turn. If you find one false, say at which input.
  Laid BY PROGRAM, IN A SANDBOX (cutbox-rows.mjs): the forced cells as the released guide's own fill.sh prints them over the translation 08528b083011d54a… (all of the seat's roots in one cut). By AI agents, Wed Nov 11 2026. No macro, syntax, notation, axiom, sorry.
-/
import Derived.Test.YbulkdrkkChecked
import GoSem.Claim
import GoSem.ClaimJoined
import GoSem.ClaimMapViews
import Derived.JoinedTies
import Derived.KernelRfl
namespace Go.Proofs.Ybulkdrkk
/- THE CELL 'sum', in the pinned program and in every row, IS THE sha256 OF THE DUMP (.gsa) THAT YbulkdrkkProg.lean LOADS. Nothing in Lean hashes anything: it is a label: what it is worth is what the hold of that sum in a sandbox is worth. -/
noncomputable def Yba.pinned : Pinned := { name := "ybulkdrkk", sum := "08528b083011d54a7141d4f2d59c3a0393cadd2ae3897af6fc018b331f186cfb", checked := Yba.checked }
namespace Rows
def none {H : Type} : Left H := { results := [], args := [] }

/-- 'sealwire.LawS5912CWhole': WHATEVER THE INPUT: true; the input reads as it did. -/
def lawS5912CWholeSpec : ChangeSpec := { name := "lawS5912CWhole", fn := fun _ => fun
  | [d1, d2, d3, d4, d5, d6, d7, d8, d9, d10] => { results := [.lit (.bool true)], args := [d1, d2, d3, d4, d5, d6, d7, d8, d9, d10] }
  | _ => none }
def lawS5912CWholeRow : OpenClaim := { program := "ybulkdrkk", sum := "08528b083011d54a7141d4f2d59c3a0393cadd2ae3897af6fc018b331f186cfb", func := "example.com/sealwire/sealwire.LawS5912CWhole", spec := "lawS5912CWhole", apart := false }
def LawS5912CWholeSaid : Prop := lawS5912CWholeRow.holds Yba.pinned (OpenSpec.ofChange lawS5912CWholeSpec)

/-- ITS FALSE NEIGHBOUR: 'it returns false'. Refute it at one input. -/
def lawS5912CWholeWrong : ChangeSpec := { name := "lawS5912CWhole", fn := fun _ => fun
  | [d1, d2, d3, d4, d5, d6, d7, d8, d9, d10] => { results := [.lit (.bool false)], args := [d1, d2, d3, d4, d5, d6, d7, d8, d9, d10] }
  | _ => none }
def LawS5912CWholeWrongFalsely : Prop := lawS5912CWholeRow.holds Yba.pinned (OpenSpec.ofChange lawS5912CWholeWrong)

end Rows
end Go.Proofs.Ybulkdrkk
