/-
  No cell of these rows narrows 'for every input' (looked for: loops, veiled, ifaces, maps, wideKeys, modest, calm, conditions, laid).
  DERIVED. THE GIVEN ROWS OF THIS SEAT. 3 by the template 'for every input the law returns true; each argument reads behind the call as it read before'; 0 by the template 'total and deterministic' (their statements: YbulkdrigTotals.lean).
  GIVEN WITH THE SEED: the statements are not yours to turn. If you find one false, say at which input.
  Laid BY PROGRAM, IN A SANDBOX (cutbox-rows.mjs): the forced cells as the released guide's own fill.sh prints them over the translation ce75b6c1bfd12780… (all of the seat's roots in one cut). By AI agents, Wed Nov 11 2026. No macro, syntax, notation, axiom, sorry.
-/
import Derived.Test.YbulkdrigChecked
import GoSem.Claim
import GoSem.ClaimJoined
import GoSem.ClaimMapViews
import Derived.JoinedTies
import Derived.KernelRfl
namespace Go.Proofs.Ybulkdrig
/- THE CELL 'sum', in the pinned program and in every row, IS THE sha256 OF THE DUMP (.gsa) THAT YbulkdrigProg.lean LOADS. Nothing in Lean hashes anything: it is a label: what it is worth is what the hold of that sum in a sandbox is worth. -/
noncomputable def Yba.pinned : Pinned := { name := "ybulkdrig", sum := "ce75b6c1bfd1278046a1921ae28a1fd753f6a34f8599579d2033d291f2106009", checked := Yba.checked }
namespace Rows
def none {H : Type} : Left H := { results := [], args := [] }

/-- 'trace.LawS5908AWhole': WHATEVER THE INPUT: true; the input reads as it did. -/
def lawS5908AWholeSpec : ChangeSpec := { name := "lawS5908AWhole", fn := fun _ => fun
  | [d1, d2, d3] => { results := [.lit (.bool true)], args := [d1, d2, d3] }
  | _ => none }
def lawS5908AWholeRow : OpenClaim := { program := "ybulkdrig", sum := "ce75b6c1bfd1278046a1921ae28a1fd753f6a34f8599579d2033d291f2106009", func := "example.com/sojourn/sojourn/trace.LawS5908AWhole", spec := "lawS5908AWhole", named := ["encoding/binary.BigEndian"], plainKeys := false, apart := false }
def LawS5908AWholeSaid : Prop := lawS5908AWholeRow.holds Yba.pinned (OpenSpec.ofChange lawS5908AWholeSpec)

/-- ITS FALSE NEIGHBOUR: 'it returns false'. Refute it at one input. -/
def lawS5908AWholeWrong : ChangeSpec := { name := "lawS5908AWhole", fn := fun _ => fun
  | [d1, d2, d3] => { results := [.lit (.bool false)], args := [d1, d2, d3] }
  | _ => none }
def LawS5908AWholeWrongFalsely : Prop := lawS5908AWholeRow.holds Yba.pinned (OpenSpec.ofChange lawS5908AWholeWrong)

/-- 'gsmvlr.LawS5908BWhole': WHATEVER THE INPUT: true; the input reads as it did. -/
def lawS5908BWholeSpec : ChangeSpec := { name := "lawS5908BWhole", fn := fun _ => fun
  | [d1, d2, d3, d4, d5] => { results := [.lit (.bool true)], args := [d1, d2, d3, d4, d5] }
  | _ => none }
def lawS5908BWholeRow : OpenClaim := { program := "ybulkdrig", sum := "ce75b6c1bfd1278046a1921ae28a1fd753f6a34f8599579d2033d291f2106009", func := "example.com/sojourn/sojourn/gsmvlr.LawS5908BWhole", spec := "lawS5908BWhole", plainKeys := false, apart := false }
def LawS5908BWholeSaid : Prop := lawS5908BWholeRow.holds Yba.pinned (OpenSpec.ofChange lawS5908BWholeSpec)

/-- ITS FALSE NEIGHBOUR: 'it returns false'. Refute it at one input. -/
def lawS5908BWholeWrong : ChangeSpec := { name := "lawS5908BWhole", fn := fun _ => fun
  | [d1, d2, d3, d4, d5] => { results := [.lit (.bool false)], args := [d1, d2, d3, d4, d5] }
  | _ => none }
def LawS5908BWholeWrongFalsely : Prop := lawS5908BWholeRow.holds Yba.pinned (OpenSpec.ofChange lawS5908BWholeWrong)

/-- 'iif.LawS5908CWhole': WHATEVER THE INPUT: true; the input reads as it did. -/
def lawS5908CWholeSpec : ChangeSpec := { name := "lawS5908CWhole", fn := fun _ => fun
  | [d1, d2, d3, d4, d5, d6, d7] => { results := [.lit (.bool true)], args := [d1, d2, d3, d4, d5, d6, d7] }
  | _ => none }
def lawS5908CWholeRow : OpenClaim := { program := "ybulkdrig", sum := "ce75b6c1bfd1278046a1921ae28a1fd753f6a34f8599579d2033d291f2106009", func := "example.com/sojourn/sojourn/iif.LawS5908CWhole", spec := "lawS5908CWhole", inPlace := ["(*internal/sync.Mutex).Lock", "internal/race.Disable", "sync/atomic.CompareAndSwapInt32", "internal/race.Enable", "internal/race.Acquire", "(*internal/sync.Mutex).lockSlow", "internal/sync.runtime_canSpin", "internal/sync.runtime_doSpin", "internal/sync.throw", "internal/sync.runtime_nanotime", "internal/sync.runtime_SemacquireMutex", "sync/atomic.AddInt32", "(*internal/sync.Mutex).Unlock", "internal/race.ReleaseMerge", "(*internal/sync.Mutex).unlockSlow", "internal/sync.fatal", "internal/sync.runtime_Semrelease", "(*internal/sync.Mutex).TryLock"], plainKeys := false, apart := false }
def LawS5908CWholeSaid : Prop := lawS5908CWholeRow.holds Yba.pinned (OpenSpec.ofChange lawS5908CWholeSpec)

/-- ITS FALSE NEIGHBOUR: 'it returns false'. Refute it at one input. -/
def lawS5908CWholeWrong : ChangeSpec := { name := "lawS5908CWhole", fn := fun _ => fun
  | [d1, d2, d3, d4, d5, d6, d7] => { results := [.lit (.bool false)], args := [d1, d2, d3, d4, d5, d6, d7] }
  | _ => none }
def LawS5908CWholeWrongFalsely : Prop := lawS5908CWholeRow.holds Yba.pinned (OpenSpec.ofChange lawS5908CWholeWrong)

end Rows
end Go.Proofs.Ybulkdrig
