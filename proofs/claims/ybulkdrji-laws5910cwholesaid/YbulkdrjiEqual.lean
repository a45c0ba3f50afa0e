/-
  (standing).equal (function 7), and zzs5910cwritten (function 6).
-/
import Derived.Test.YbulkdrjiRows
import Derived.WalkKit
import Derived.WalkSpells
import Derived.Laws.Pointers
import Derived.Deep.QuietTactic
import Derived.BigQuiet
import Derived.Deep.DeepCutAuto
namespace Go.Proofs.Ybulkdrji
open Go.RowKit
set_option linter.unusedVariables false

/-- p is nil where there is no count; else it leads to a block of its own that holds c. -/
def CountIs (w : World) (p : Option Addr) (has : Bool) (c : Int) : Prop :=
  (has = false ∧ p = none) ∨ (has = true ∧ ∃ g, p = some ⟨g, 0, none⟩ ∧ w.heap[g]? = some (.cells #[.int .u16 c] 26 (0, 0)))
theorem CountIs.grown {w w' : World} {p : Option Addr} {has : Bool} {c : Int} (h : CountIs w p has c) (hb : Below w.heap.size w w') : CountIs w' p has c := by
  rcases h with h | ⟨h1, g, h2, h3⟩
  · exact .inl h
  · exact .inr ⟨h1, g, h2, (hb.block g (lt_of_block h3)).trans h3⟩
/-- Do the counts agree? -/
def agree (h1 : Bool) (c1 : Int) (h2 : Bool) (c2 : Int) : Bool := (!h1 && !h2) || (h1 && h2 && (c1 == c2))

theorem ret_bool {a b : Bool} (h : a = b) : Ending.returned (.bool a) = .returned (.bool b) := by rw [h]

set_option maxRecDepth 100000 in
set_option maxHeartbeats 4000000 in
theorem equal_any (s1 s2 o1 o2 : ByteArray) (p q pw qw : Option Addr) (h1 h2 : Bool) (c1 c2 : Int) (w : World) (hp : CountIs w p h1 c1) (hq : CountIs w q h2 c2) :
    Calls Yba.prog 7 #[.agg #[.string s1, .string s2, .pointer p, .pointer pw], .agg #[.string o1, .string o2, .pointer q, .pointer qw]] w fun e w' =>
      e = .returned (.bool ((s1.toList == o1.toList) && (s2.toList == o2.toList) && agree h1 c1 h2 c2)) ∧ Below w.heap.size w w' := by
  obtain ⟨ag, hag⟩ : ∃ b, b = agree h1 c1 h2 c2 := ⟨_, rfl⟩
  rw [← hag]
  go_enter Yba.func7, Yba.ntmps7
  go_upto_region 1 with fail
  go_cut [5] (fun s w' => s = .bool ag ∧ ∃ n, w' = ((w.alloc (.cells #[.string s1, .string s2, .pointer p, .pointer pw] 31)).alloc (.cells #[.string o1, .string o2, .pointer q, .pointer qw] 31)).drewN n)
  case first =>
    rcases hp with ⟨rfl, rfl⟩ | ⟨rfl, g, rfl, hg⟩
    · rcases hq with ⟨rfl, rfl⟩ | ⟨rfl, g2, rfl, hg2⟩
      · go_quiet (fail)
        go_wp2
        go_meet
        case rel => exact ⟨by rw [hag]; rfl, _, rfl⟩
      · go_quiet (fail)
        go_wp2
        go_meet
        case rel => exact ⟨by rw [hag]; rfl, _, rfl⟩
    · have cg : ∀ O1 O2, ((w.alloc O1).alloc O2).cell? ⟨g, 0, none⟩ = some (.int .u16 c1) := fun O1 O2 => by
        have hlt := lt_of_block hg
        rw [cell_of_row _ g 0 #[.int .u16 c1] 26 (0, 0) ((Below.heap_alloc _ O2 g (by simp; omega)).trans ((Below.heap_alloc w O1 g hlt).trans hg))]; rfl
      rcases hq with ⟨rfl, rfl⟩ | ⟨rfl, g2, rfl, hg2⟩
      · clear hg
        go_quiet (fail)
        go_wp2
        go_meet
        case rel => exact ⟨by rw [hag]; rfl, _, rfl⟩
      · have cg2 : ∀ O1 O2, ((w.alloc O1).alloc O2).cell? ⟨g2, 0, none⟩ = some (.int .u16 c2) := fun O1 O2 => by
          have hlt := lt_of_block hg2
          rw [cell_of_row _ g2 0 #[.int .u16 c2] 26 (0, 0) ((Below.heap_alloc _ O2 g2 (by simp; omega)).trans ((Below.heap_alloc w O1 g2 hlt).trans hg2))]; rfl
        clear hg hg2
        go_quiet (fail)
        go_wp2
        go_meet
        case rel => exact ⟨by rw [hag]; simp [agree], _, rfl⟩
  case rest =>
    obtain ⟨rfl, n, rfl⟩ := hcut
    clear hp hq hag
    have BF : Below w.heap.size w (((w.alloc (.cells #[.string s1, .string s2, .pointer p, .pointer pw] 31)).alloc (.cells #[.string o1, .string o2, .pointer q, .pointer qw] 31)).drewN n) := by
      have h := ((Below.refl w.heap.size w).alloc (Nat.le_refl _) (.cells #[.string s1, .string s2, .pointer p, .pointer pw] 31)).alloc (by simp) (.cells #[.string o1, .string o2, .pointer q, .pointer qw] 31)
      exact ⟨h.os, h.tape, h.output, h.size, h.block⟩
    cases e1 : (s1.toList == o1.toList) with
    | false =>
      go_wp2
      go_ret
      exact ⟨ret_bool (by rw [e1]; rfl), BF⟩
    | true =>
      cases e2 : (s2.toList == o2.toList) with
      | false =>
        go_wp2
        go_ret
        exact ⟨ret_bool (by rw [e1, e2]; rfl), BF⟩
      | true =>
        go_wp2
        go_ret
        exact ⟨ret_bool (by rw [e1, e2]; simp), BF⟩

/-- p is nil, or leads to a block of its own that holds the pair (u, k). -/
def PairIs (w : World) (p : Option Addr) (u : Int) (k : Bool) : Prop := p = none ∨ ∃ g, p = some ⟨g, 0, none⟩ ∧ w.heap[g]? = some (.cells #[.int .u16 u, .bool k] 33 (0, 0))
theorem PairIs.grown {w w' : World} {p : Option Addr} {u : Int} {k : Bool} (h : PairIs w p u k) (hb : Below w.heap.size w w') : PairIs w' p u k := by
  rcases h with h | ⟨g, h2, h3⟩
  · exact .inl h
  · exact .inr ⟨g, h2, (hb.block g (lt_of_block h3)).trans h3⟩

set_option maxRecDepth 100000 in
set_option maxHeartbeats 1000000 in
theorem written_any (pick : Int) (h0 : 0 ≤ pick) (h1 : pick ≤ 255) (w : World) :
    Calls Yba.prog 6 #[.int .u8 pick] w fun e w' => ∃ p u k, e = .returned (.pointer p) ∧ PairIs w' p u k ∧ Below w.heap.size w w' := by
  rcases (show pick % 3 = 0 ∨ pick % 3 = 1 ∨ pick % 3 = 2 by omega) with h | h | h
  · have e0 : (pick % 3 == 0) = true := by rw [h]; rfl
    clear h
    go_enter Yba.func6, Yba.ntmps6
    go_wp2
    go_ret
    exact ⟨none, 0, false, rfl, .inl rfl, Below.refl _ _⟩
  · have e0 : (pick % 3 == 0) = false := by rw [h]; rfl
    have e1 : (pick % 3 == 1) = true := by rw [h]; rfl
    clear h
    go_enter Yba.func6, Yba.ntmps6
    go_wp2
    go_ret
    exact ⟨_, _, _, rfl, .inr ⟨_, rfl, heap_alloc_new w _⟩, (Below.refl _ _).alloc (Nat.le_refl _) _⟩
  · have e0 : (pick % 3 == 0) = false := by rw [h]; rfl
    have e1 : (pick % 3 == 1) = false := by rw [h]; rfl
    clear h
    go_enter Yba.func6, Yba.ntmps6
    go_wp2
    go_ret
    exact ⟨_, _, _, rfl, .inr ⟨_, rfl, heap_alloc_new w _⟩, (Below.refl _ _).alloc (Nat.le_refl _) _⟩
end Go.Proofs.Ybulkdrji
