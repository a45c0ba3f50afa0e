/-
  Rows of bytes that the call itself made: small laws on worlds, for the walks of this seat.
-/
import Derived.Test.YbulkdrigRows
import Derived.WalkKit
import Derived.Laws.CopyOwn
import Derived.Deep.QuietTactic
import Derived.BigQuiet
namespace Go.Proofs.Ybulkdrig
open Go.RowKit

/-- Block g holds the bytes zs, and no cell of it is frozen. -/
def Row (w : World) (g : Nat) (zs : List Int) : Prop := w.heap[g]? = some (.cells (zs.map (Value.int .u8)).toArray 5 (0, 0))

theorem Row.cell {w : World} {g : Nat} {zs : List Int} (h : Row w g zs) (j : Nat) (hj : j < zs.length) : w.cell? ⟨g, j, none⟩ = some (.int .u8 (zs.getD j 0)) := by
  rw [cell_of_row w g j _ 5 (0, 0) h]
  simp [hj]
theorem Row.free {w : World} {g : Nat} {zs : List Int} (h : Row w g zs) (j : Nat) : w.frozen? ⟨g, j, none⟩ = false := frozen_of_row w g j _ 5 h
theorem Row.lt {w : World} {g : Nat} {zs : List Int} (h : Row w g zs) : g < w.heap.size := lt_of_block h
theorem Row.set {w : World} {g : Nat} {zs : List Int} (h : Row w g zs) (j : Nat) (v : Int) : Row (w.setCell ⟨g, j, none⟩ (.int .u8 v)) g (zs.set j v) := by
  unfold Row at *
  rw [heap_setCell_same w g j _ 5 _ h]
  simp [List.map_set]
theorem Row.keep {w w' : World} {g : Nat} {zs : List Int} (h : Row w g zs) (e : w'.heap[g]? = w.heap[g]?) : Row w' g zs := by
  unfold Row at *; rw [e]; exact h
theorem Row.alloc {w : World} {g : Nat} {zs : List Int} (h : Row w g zs) (o : Obj) : Row (w.alloc o) g zs := h.keep (Below.heap_alloc w o g h.lt)
theorem Row.drew {w : World} {g : Nat} {zs : List Int} (h : Row w g zs) : Row w.drew g zs := h
theorem Row.drewN {w : World} {g : Nat} {zs : List Int} (h : Row w g zs) (n : Nat) : Row (w.drewN n) g zs := h
theorem Row.other {w : World} {g : Nat} {zs : List Int} (h : Row w g zs) {a : Addr} (ha : g ≠ a.block) (v : Value) : Row (w.setCell a v) g zs := h.keep (heap_setCell_other w a g v ha)
theorem Row.grown {w w' : World} {g : Nat} {zs : List Int} {row : Option Nat} (h : Row w g zs) (hg : w.grownBy w' row) (hne : some g ≠ row) : Row w' g zs := h.keep (hg.block g h.lt hne)

theorem gb_refl (w : World) (row : Option Nat) : w.grownBy w row := ⟨rfl, rfl, rfl, Nat.le_refl _, fun _ _ _ => rfl⟩
theorem gb_trans {a b c : World} {row : Option Nat} (h : a.grownBy b row) (k : b.grownBy c row) : a.grownBy c row :=
  ⟨k.os.trans h.os, k.tape.trans h.tape, k.output.trans h.output, Nat.le_trans h.size k.size, fun i hi hne => (k.block i (Nat.lt_of_lt_of_le hi h.size) hne).trans (h.block i hi hne)⟩
theorem gb_alloc {a w : World} {row : Option Nat} (h : a.grownBy w row) (o : Obj) : a.grownBy (w.alloc o) row :=
  gb_trans h ⟨rfl, rfl, rfl, by simp, fun k hk _ => Below.heap_alloc w o k hk⟩
theorem gb_drew {a w : World} {row : Option Nat} (h : a.grownBy w row) : a.grownBy w.drew row := ⟨h.os, h.tape, h.output, h.size, h.block⟩
theorem gb_drewN {a w : World} {row : Option Nat} (h : a.grownBy w row) (n : Nat) : a.grownBy (w.drewN n) row := ⟨h.os, h.tape, h.output, h.size, h.block⟩
theorem gb_set {a w : World} {g : Nat} (h : a.grownBy w (some g)) (j : Nat) (v : Value) : a.grownBy (w.setCell ⟨g, j, none⟩ v) (some g) :=
  gb_trans h ⟨rfl, rfl, rfl, by simp [World.setCell], fun k _ hne => heap_setCell_other w _ k v (fun e => hne (by rw [e]))⟩

/-- The two bytes of v, the greater first, laid over zs from o on. -/
def put2 (zs : List Int) (o : Nat) (v : Int) : List Int := (zs.set o (v / 256)).set (o + 1) (v % 256)
theorem put2_length (zs : List Int) (o : Nat) (v : Int) : (put2 zs o v).length = zs.length := by simp [put2]

end Go.Proofs.Ybulkdrig
