/-
  binary.BigEndian.PutUint16 and Uint16 (functions 14 and 15 of this dump) over a row of the call's own.
-/
import Derived.Test.YbulkdrigMem
import Derived.Lib.EndianBits
namespace Go.Proofs.Ybulkdrig
open Go.RowKit

set_option maxHeartbeats 400000 in
theorem put16 (g o n c : Nat) (v : Int) (zs : List Int) (w : World) (hr : Row w g zs) (hn : 2 ≤ n) (ho : o + 1 < zs.length) (h0 : 0 ≤ v) (h1 : v < 65536) :
    Calls Yba.prog 14 #[.agg #[], .slice (some ⟨g, o, none⟩) n c, .int .u16 v] w fun e w' => e = .returned (.tuple #[]) ∧ Row w' g (put2 zs o v) ∧ w.grownBy w' (some g) := by
  have c0 := fun O => (hr.alloc O).cell o (by omega)
  have c1 := fun O => (hr.alloc O).cell (o + 1) (by omega)
  have f0 := fun O => (hr.alloc O).free o
  have f1 := fun O x => ((hr.alloc O).set o x).free (o + 1)
  have d1 := fun O x => ((hr.alloc O).set o x).cell (o + 1) (by simp; omega)
  go_enter Yba.func14, Yba.ntmps14
  go_wp2
  go_end0
  exact ⟨rfl, ((hr.alloc _).set o _).set (o + 1) _, gb_set (gb_set (gb_alloc (gb_refl _ _) _) _ _) _ _⟩

theorem be2 (a b : Int) (ha : 0 ≤ a) (ha1 : a ≤ 255) (hb : 0 ≤ b) (hb1 : b ≤ 255) : bits BinOp.or IntKind.u16 (IntKind.u16.wrap b) (IntKind.u16.wrap (IntKind.u16.wrap a * 256)) = a * 256 + b := by
  rw [u16_wrap_id b hb (by omega), u16_wrap_id a ha (by omega), u16_wrap_id (a * 256) (by omega) (by omega), u16_or8 b (a * 256) hb (by omega) (by omega) (by omega) (by omega)]
  omega

theorem ret_int {k : IntKind} {a b : Int} (h : a = b) : Ending.returned (.int k a) = .returned (.int k b) := by rw [h]
theorem mem_getD (zs : List Int) (j : Nat) (hj : j < zs.length) : zs.getD j 0 ∈ zs := by
  rw [List.getD_eq_getElem?_getD, List.getElem?_eq_getElem hj]; exact List.getElem_mem hj

set_option maxHeartbeats 400000 in
theorem get16 (g o n c : Nat) (zs : List Int) (w : World) (hr : Row w g zs) (hn : 2 ≤ n) (ho : o + 1 < zs.length) (hb : ∀ z ∈ zs, 0 ≤ z ∧ z ≤ 255) :
    Calls Yba.prog 15 #[.agg #[], .slice (some ⟨g, o, none⟩) n c] w fun e w' => e = .returned (.int .u16 (zs.getD o 0 * 256 + zs.getD (o + 1) 0)) ∧ w.grownBy w' none := by
  have c0 := fun O => (hr.alloc O).cell o (by omega)
  have c1 := fun O => (hr.alloc O).cell (o + 1) (by omega)
  have b0 := hb _ (mem_getD zs o (by omega))
  have b1 := hb _ (mem_getD zs (o + 1) ho)
  have E : Hid (bits BinOp.or IntKind.u16 (IntKind.u16.wrap (zs.getD (o + 1) 0)) (IntKind.u16.wrap (IntKind.u16.wrap (zs.getD o 0) * 256)) = zs.getD o 0 * 256 + zs.getD (o + 1) 0) :=
    be2 _ _ b0.1 b0.2 b1.1 b1.2
  clear b0 b1 hb
  have n1 : (1 : Int) < (n : Int) := by omega
  have n0 : 0 < n := by omega
  go_enter Yba.func15, Yba.ntmps15
  go_wp2
  go_quiet (fail)
  go_wp2
  go_ret
  refine ⟨ret_int ?_, gb_drewN (gb_alloc (gb_refl _ _) _) _⟩
  rw [← E.out]
  simp [ho]
end Go.Proofs.Ybulkdrig
