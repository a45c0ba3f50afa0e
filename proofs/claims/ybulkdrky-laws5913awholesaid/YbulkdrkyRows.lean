/-
  No cell of these rows narrows 'for every input' (looked for: loops, veiled, ifaces, maps, wideKeys, modest, calm, conditions, laid).
  DERIVED. THE GIVEN ROWS OF THIS SEAT. 1 by the template 'for every input the law returns true; each argument reads behind the call as it read before'; 0 by the template 'total and deterministic' (their statements: YbulkdrkyTotals.lean).
  GIVEN WITH THE SEED: the statements are not yours to turn. If you find one false, say at which input.
  Laid BY PROGRAM, IN A SANDBOX (cutbox-rows.mjs): the forced cells as the released guide's own fill.sh prints them over the translation a9f9b43dcf5dfd07… (all of the seat's roots in one cut). By AI agents, Wed Nov 11 2026. No macro, syntax, notation, axiom, sorry.
-/
import Derived.Test.YbulkdrkyChecked
import GoSem.Claim
import GoSem.ClaimJoined
import GoSem.ClaimMapViews
import Derived.JoinedTies
import Derived.KernelRfl
namespace Go.Proofs.Ybulkdrky
/- THE CELL 'sum', in the pinned program and in every row, IS THE sha256 OF THE DUMP (.gsa) THAT YbulkdrkyProg.lean LOADS. Nothing in Lean hashes anything: it is a label: what it is worth is what the hold of that sum in a sandbox is worth. -/
noncomputable def Yba.pinned : Pinned := { name := "ybulkdrky", sum := "a9f9b43dcf5dfd07fcaa50625c91383b622e5ef16a8e6c8aa04ee2594b24dfdc", checked := Yba.checked }
namespace Rows
def none {H : Type} : Left H := { results := [], args := [] }

/-- 'chopsticks.LawS5913AWhole': WHATEVER THE INPUT: true; the input reads as it did. -/
def lawS5913AWholeSpec : ChangeSpec := { name := "lawS5913AWhole", fn := fun _ => fun
  | [d1, d2, d3] => { results := [.lit (.bool true)], args := [d1, d2, d3] }
  | _ => none }
def lawS5913AWholeRow : OpenClaim := { program := "ybulkdrky", sum := "a9f9b43dcf5dfd07fcaa50625c91383b622e5ef16a8e6c8aa04ee2594b24dfdc", func := "example.com/handsum/handsum/internal/chopsticks.LawS5913AWhole", spec := "lawS5913AWhole", apart := false }
def LawS5913AWholeSaid : Prop := lawS5913AWholeRow.holds Yba.pinned (OpenSpec.ofChange lawS5913AWholeSpec)

/-- ITS FALSE NEIGHBOUR: 'it returns false'. Refute it at one input. -/
def lawS5913AWholeWrong : ChangeSpec := { name := "lawS5913AWhole", fn := fun _ => fun
  | [d1, d2, d3] => { results := [.lit (.bool false)], args := [d1, d2, d3] }
  | _ => none }
def LawS5913AWholeWrongFalsely : Prop := lawS5913AWholeRow.holds Yba.pinned (OpenSpec.ofChange lawS5913AWholeWrong)

end Rows
end Go.Proofs.Ybulkdrky
