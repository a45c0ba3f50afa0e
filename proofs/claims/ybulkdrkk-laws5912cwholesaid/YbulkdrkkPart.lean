/-
  The parser's readers (functions 10 to 13).
-/
import Derived.Test.YbulkdrkkRead
import Derived.Lib.EndianBits
namespace Go.Proofs.Ybulkdrkk
open Go.RowKit
set_option linter.unusedVariables false

theorem be16 (z y : Int) (h0 : 0 ≤ z) (h1 : z ≤ 255) (h2 : 0 ≤ y) (h3 : y ≤ 255) : bits BinOp.or IntKind.u16 (IntKind.u16.wrap (IntKind.u16.wrap z * 256)) (IntKind.u16.wrap y) = z * 256 + y := by
  rw [wraps_u16 z h0 (by omega), wraps_u16 y h2 (by omega), wraps_u16 _ (by omega) (by omega)]
  exact bits_join .u16 16 (by decide) wraps_u16 8 (z * 256) y (by omega) (by omega) (by omega) h2 (by omega) (by omega)

theorem rb_short (gP n cap k : Nat) (ad : Addr) (tg : Value) (w : World) (hP : Blk w gP [.slice (some ad) n cap] 45) (hk : n < k) :
    Calls Yba.prog 11 #[.pointer (some ⟨gP, 0, none⟩), .int .i64 k, tg] w fun e w' => e = .returned (.bool false) ∧ w' = w := by
  have c0 := hP.cell 0
  simp only [List.getElem?_cons_zero] at c0
  have hk' : (n : Int) < (k : Int) := by omega
  clear hP
  go_enter Yba.func11, Yba.ntmps11
  go_wp2
  go_ret
  exact ⟨rfl, rfl⟩

theorem rb_long (gP n cap k gT oT : Nat) (ad : Addr) (cs : List Value) (tT : TypeId) (w : World) (hP : Blk w gP [.slice (some ad) n cap] 45) (hT : Blk w gT cs tT) (ho : oT < cs.length) (hne : gT ≠ gP) (hk : k ≤ n) (hc : n ≤ cap) :
    Calls Yba.prog 11 #[.pointer (some ⟨gP, 0, none⟩), .int .i64 k, .pointer (some ⟨gT, oT, none⟩)] w fun e w' => e = .returned (.bool true) ∧ Blk w' gP [.slice (some (cutAd ad k cap)) (n - k) (cap - k)] 45 ∧ Blk w' gT (cs.set oT (.slice (some ad) k k)) tT ∧ Kp w w' [gP, gT] := by
  have c0 := hP.cell 0
  simp only [List.getElem?_cons_zero] at c0
  have hk' : ¬ (n : Int) < (k : Int) := by omega
  have f0 := hP.free 0
  have f1 := hT.free oT
  have c1 := hT.cell oT
  rw [List.getElem?_eq_getElem ho] at c1
  go_enter Yba.func11, Yba.ntmps11
  go_wp2
  all_goals
    go_ret
    refine ⟨rfl, ?_, (hT.set oT _).other (by exact hne) _, ((Kp.refl w _).set gT oT _ (by simp)).set gP 0 _ (by simp)⟩
    simpa [cutAd, *] using (hP.other (a := ⟨gT, oT, none⟩) (by exact hne.symm) _).set 0 _

set_option maxRecDepth 100000 in
theorem r8_short (gP cap : Nat) (ad : Addr) (tg : Value) (w : World) (hP : Blk w gP [.slice (some ad) 0 cap] 45) :
    Calls Yba.prog 13 #[.pointer (some ⟨gP, 0, none⟩), tg] w fun e w' => e = .returned (.bool false) ∧ w' = w := by
  have c0 := hP.cell 0
  simp only [List.getElem?_cons_zero] at c0
  clear hP
  go_enter Yba.func13, Yba.ntmps13
  go_wp2
  go_ret
  exact ⟨rfl, rfl⟩

theorem r8_long (gP n cap gT oT : Nat) (b o : Nat) (z : Int) (cs : List Value) (tT : TypeId) (w : World) (hP : Blk w gP [.slice (some ⟨b, o, none⟩) n cap] 45) (hT : Blk w gT cs tT) (ho : oT < cs.length) (hne : gT ≠ gP) (hk : 1 ≤ n) (hc : n ≤ cap)
    (hz : w.cell? ⟨b, o, none⟩ = some (.int .u8 z)) :
    Calls Yba.prog 13 #[.pointer (some ⟨gP, 0, none⟩), .pointer (some ⟨gT, oT, none⟩)] w fun e w' => e = .returned (.bool true) ∧ Blk w' gP [.slice (some (cutAd ⟨b, o, none⟩ 1 cap)) (n - 1) (cap - 1)] 45 ∧ Blk w' gT (cs.set oT (.int .u8 z)) tT ∧ Kp w w' [gP, gT] := by
  have c0 := hP.cell 0
  simp only [List.getElem?_cons_zero] at c0
  have hk' : ¬ (n : Int) < 1 := by omega
  have hk2 : (0 : Int) < (n : Int) := by omega
  have f0 := hP.free 0
  have f1 := hT.free oT
  have c1 := hT.cell oT
  rw [List.getElem?_eq_getElem ho] at c1
  go_enter Yba.func13, Yba.ntmps13
  go_wp2
  all_goals
    go_ret
    refine ⟨rfl, ?_, (hT.set oT _).other (by exact hne) _, ((Kp.refl w _).set gT oT _ (by simp)).set gP 0 _ (by simp)⟩
    simpa [cutAd, Addr.add, *] using (hP.other (a := ⟨gT, oT, none⟩) (by exact hne.symm) _).set 0 _

theorem r16_short (gP n cap : Nat) (ad : Addr) (tg : Value) (w : World) (hP : Blk w gP [.slice (some ad) n cap] 45) (hk : n < 2) :
    Calls Yba.prog 10 #[.pointer (some ⟨gP, 0, none⟩), tg] w fun e w' => e = .returned (.bool false) ∧ w' = w := by
  have c0 := hP.cell 0
  simp only [List.getElem?_cons_zero] at c0
  have hk' : (n : Int) < 2 := by omega
  clear hP
  go_enter Yba.func10, Yba.ntmps10
  go_wp2
  go_ret
  exact ⟨rfl, rfl⟩

theorem r16_long (gP n cap gT oT : Nat) (b o : Nat) (z y : Int) (cs : List Value) (tT : TypeId) (w : World) (hP : Blk w gP [.slice (some ⟨b, o, none⟩) n cap] 45) (hT : Blk w gT cs tT) (ho : oT < cs.length) (hne : gT ≠ gP) (hk : 2 ≤ n) (hc : n ≤ cap)
    (z0 : 0 ≤ z) (z1 : z ≤ 255) (y0 : 0 ≤ y) (y1 : y ≤ 255) (hz : w.cell? ⟨b, o, none⟩ = some (.int .u8 z)) (hy : w.cell? ⟨b, o + 1, none⟩ = some (.int .u8 y)) :
    Calls Yba.prog 10 #[.pointer (some ⟨gP, 0, none⟩), .pointer (some ⟨gT, oT, none⟩)] w fun e w' => e = .returned (.bool true) ∧ Blk w' gP [.slice (some (cutAd ⟨b, o, none⟩ 2 cap)) (n - 2) (cap - 2)] 45 ∧ Blk w' gT (cs.set oT (.int .u16 (z * 256 + y))) tT ∧ Kp w w' [gP, gT] := by
  have c0 := hP.cell 0
  simp only [List.getElem?_cons_zero] at c0
  have hk' : ¬ (n : Int) < 2 := by omega
  have hk2 : (0 : Int) < (n : Int) := by omega
  have hk3 : (1 : Int) < (n : Int) := by omega
  have f0 := hP.free 0
  have f1 := hT.free oT
  have c1 := hT.cell oT
  rw [List.getElem?_eq_getElem ho] at c1
  have E : Hid (bits BinOp.or IntKind.u16 (IntKind.u16.wrap (IntKind.u16.wrap z * 256)) (IntKind.u16.wrap y) = z * 256 + y) := be16 z y z0 z1 y0 y1
  clear z0 z1 y0 y1
  go_enter Yba.func10, Yba.ntmps10
  go_wp2_with fail
  go_region
  generalize bits BinOp.or IntKind.u16 (IntKind.u16.wrap (IntKind.u16.wrap z * 256)) (IntKind.u16.wrap y) = X at *
  go_wp2
  all_goals
    go_ret
    rw [E.out]
    refine ⟨rfl, ?_, Blk.drew ((hT.set oT _).other (by exact hne) _), (((Kp.refl w _).set gT oT _ (by simp)).set gP 0 _ (by simp)).drew⟩
    refine Blk.drew ?_
    simpa [cutAd, Addr.add, *] using (hP.other (a := ⟨gT, oT, none⟩) (by exact hne.symm) _).set 0 _
end Go.Proofs.Ybulkdrkk
