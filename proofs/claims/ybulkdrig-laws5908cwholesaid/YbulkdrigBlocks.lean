/-
  Rows of pointers; the block of the IIF; the keys that came in.
-/
import Derived.Test.YbulkdrigKeys
import Derived.Test.YbulkdrigLock
import Derived.Test.YbulkdrigLaws
import Derived.WalkSpells
namespace Go.Proofs.Ybulkdrig
open Go.RowKit
set_option linter.unusedVariables false

theorem Yba.info86 : (Yba.prog.info? 86).map (fun i => (i.zero, i.size, i.bytes)) = some (some (.pointer none), 1, 8) := by kernel_rfl

/-- Block g holds the pointers qs, and no cell of it is frozen. -/
def PRow (w : World) (g : Nat) (qs : List (Option Addr)) : Prop := w.heap[g]? = some (.cells (qs.map Value.pointer).toArray 86 (0, 0))
theorem PRow.keep {w w' : World} {g : Nat} {qs : List (Option Addr)} (h : PRow w g qs) (e : w'.heap[g]? = w.heap[g]?) : PRow w' g qs := by
  unfold PRow at *; rw [e]; exact h
theorem PRow.lt {w : World} {g : Nat} {qs : List (Option Addr)} (h : PRow w g qs) : g < w.heap.size := lt_of_block h
theorem PRow.cell {w : World} {g : Nat} {qs : List (Option Addr)} (h : PRow w g qs) (j : Nat) (hj : j < qs.length) : w.cell? ⟨g, j, none⟩ = some (.pointer (qs.getD j none)) := by
  rw [cell_of_row w g j _ 86 (0, 0) h]; simp [hj]
theorem PRow.free {w : World} {g : Nat} {qs : List (Option Addr)} (h : PRow w g qs) (j : Nat) : w.frozen? ⟨g, j, none⟩ = false := frozen_of_row w g j _ 86 h
theorem PRow.set {w : World} {g : Nat} {qs : List (Option Addr)} (h : PRow w g qs) (j : Nat) (v : Option Addr) : PRow (w.setCell ⟨g, j, none⟩ (.pointer v)) g (qs.set j v) := by
  unfold PRow at *
  rw [heap_setCell_same w g j _ 86 _ h]
  simp [List.map_set]
theorem PRow.grown {w w' : World} {g : Nat} {qs : List (Option Addr)} {row : Option Nat} (h : PRow w g qs) (hg : w.grownBy w' row) (hne : some g ≠ row) : PRow w' g qs := h.keep (hg.block g h.lt hne)
theorem PRow.alloc {w : World} {g : Nat} {qs : List (Option Addr)} (h : PRow w g qs) (o : Obj) : PRow (w.alloc o) g qs := h.keep (Below.heap_alloc w o g h.lt)
theorem PRow.other {w : World} {g : Nat} {qs : List (Option Addr)} (h : PRow w g qs) {a : Addr} (ha : g ≠ a.block) (v : Value) : PRow (w.setCell a v) g qs := h.keep (heap_setCell_other w a g v ha)
theorem PRow.drewN {w : World} {g : Nat} {qs : List (Option Addr)} (h : PRow w g qs) (n : Nat) : PRow (w.drewN n) g qs := h

theorem wpList_make_ptrs {w : World} {ops : Array Oper} {rest : List Oper} {o : Oper} {a : Act} {Q : Exit → Act → World → Prop}
    (hg : o.guard = none) (l c : Operand) (hop : o.op = Op.makeSlice 85 l c) (L C : Int) (n : Nat) (hl : a.eval l = .int .i64 L) (hc : a.eval c = .int .i64 C) (hL : L = (n : Int)) (hC : C = (n : Int)) (hn : n ≤ 17592186043904)
    (hK : ∀ w' qs, Hid (qs = List.replicate n none) → PRow w' w.heap.size qs → w.grownBy w' none → wpList Yba.prog ops Q rest (a.put o.dst (.slice (some ⟨w.heap.size, 0, none⟩) n n)) w') :
    wpList Yba.prog ops Q (o :: rest) a w := by
  obtain ⟨i, hi, h0, h1, h2⟩ := info_parts Yba.info86
  refine wpList_make_full w hg l c 85 hop 0 86 i (.pointer none) 1 Yba.underlying85 hi h0 h1 .i64 .i64 L C n hl hc hL hC (by rw [h2]; omega) (by unfold maxLen; omega) (Nat.zero_le _) ?_
  intro w' hown hgr
  refine hK w' _ rfl ?_ hgr
  obtain ⟨_, h | ⟨g, cap, cur, hv, _, hh, _, _, hcs, hct⟩⟩ := hown
  · exact absurd h.1 (by simp)
  · simp only [Value.slice.injEq, Option.some.injEq, Addr.mk.injEq] at hv
    obtain ⟨⟨rfl, _⟩, _, rfl⟩ := hv
    unfold PRow
    rw [hh]
    have e : cur.toList = List.replicate n (Value.pointer none) := by
      have := toList_madeCells_one (Value.pointer none) n
      rw [Nat.mul_one] at hct hcs
      rw [show (Value.pointer none).cells = #[Value.pointer none] from rfl, this] at hct
      rw [← hct, List.take_of_length_le (by simp; omega)]
    have e2 : cur = (List.replicate n (Value.pointer none)).toArray := by rw [← e]
    rw [e2]
    simp

/-- The cells of the IIF: the lock's state word st, the map gM. -/
def fcells (st : Int) (gM : Nat) : Array Value :=
  #[Value.nilIface, Value.int IntKind.i64 0, Value.int IntKind.u8 0, Value.int IntKind.u8 0, Value.int IntKind.u8 0, Value.string { data := #[] }, Value.int IntKind.i64 0, Value.nilIface,
    Value.nilIface, Value.nilFunc, Value.int IntKind.i64 0, Value.int IntKind.i64 0, Value.nilFunc, Value.int IntKind.i32 st, Value.int IntKind.u32 0, Value.map none, Value.map (some gM),
    Value.int IntKind.u32 0, Value.bool false, Value.int IntKind.u64 0, Value.int IntKind.u32 0, Value.map none, Value.nilIface, Value.int IntKind.u32 0, Value.int IntKind.u32 0, Value.int IntKind.u64 0,
    Value.pointer none, Value.pointer none, Value.int IntKind.u64 0]
def FBlk (w : World) (g : Nat) (st : Int) (gM : Nat) : Prop := w.heap[g]? = some (.cells (fcells st gM) 84 (0, 0))
theorem FBlk.keep {w w' : World} {g gM : Nat} {st : Int} (h : FBlk w g st gM) (e : w'.heap[g]? = w.heap[g]?) : FBlk w' g st gM := by unfold FBlk at *; rw [e]; exact h
theorem FBlk.lt {w : World} {g gM : Nat} {st : Int} (h : FBlk w g st gM) : g < w.heap.size := lt_of_block h
theorem FBlk.map {w : World} {g gM : Nat} {st : Int} (h : FBlk w g st gM) : w.cell? ⟨g, 16, none⟩ = some (.map (some gM)) := by
  rw [cell_of_row w g 16 _ 84 (0, 0) h]; rfl
theorem FBlk.state {w : World} {g gM : Nat} {st : Int} (h : FBlk w g st gM) : w.cell? ⟨g, 13, none⟩ = some (.int .i32 st) := by
  rw [cell_of_row w g 13 _ 84 (0, 0) h]; rfl
theorem FBlk.free {w : World} {g gM : Nat} {st : Int} (h : FBlk w g st gM) (j : Nat) : w.frozen? ⟨g, j, none⟩ = false := frozen_of_row w g j _ 84 h
theorem FBlk.set {w : World} {g gM : Nat} {st : Int} (h : FBlk w g st gM) (v : Int) : FBlk (w.setCell ⟨g, 13, none⟩ (.int .i32 v)) g v gM := by
  unfold FBlk at *
  rw [heap_setCell_same w g 13 _ 84 _ h]
  rfl
theorem FBlk.grown {w w' : World} {g gM : Nat} {st : Int} {row : Option Nat} (h : FBlk w g st gM) (hg : w.grownBy w' row) (hne : some g ≠ row) : FBlk w' g st gM := h.keep (hg.block g h.lt hne)
theorem FBlk.alloc {w : World} {g gM : Nat} {st : Int} (h : FBlk w g st gM) (o : Obj) : FBlk (w.alloc o) g st gM := h.keep (Below.heap_alloc w o g h.lt)
theorem FBlk.other {w : World} {g gM : Nat} {st : Int} (h : FBlk w g st gM) {a : Addr} (ha : g ≠ a.block) (v : Value) : FBlk (w.setCell a v) g st gM := h.keep (heap_setCell_other w a g v ha)
theorem FBlk.drewN {w : World} {g gM : Nat} {st : Int} (h : FBlk w g st gM) (n : Nat) : FBlk (w.drewN n) g st gM := h

/-- The keys that came in: n strings ks at aK. -/
def KeysAt (w : World) (aK : Option Addr) (ks : List ByteArray) : Prop := ∀ j, j < ks.length → ∃ b o, aK = some ⟨b, o, none⟩ ∧ b < w.heap.size ∧ ∀ i, i < ks.length → w.cell? ⟨b, o + i, none⟩ = some (.string (ks.getD i ByteArray.empty))

theorem below_drewN' {B : Nat} {a w : World} (h : Below B a w) (n : Nat) : Below B a (w.drewN n) := ⟨h.os, h.tape, h.output, h.size, h.block⟩

end Go.Proofs.Ybulkdrig
