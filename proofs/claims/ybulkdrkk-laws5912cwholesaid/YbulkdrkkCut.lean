/-
  A part of a byte slice as a law for the walk; the model's answer: its block, its result.
-/
import Derived.Test.YbulkdrkkUm
namespace Go.Proofs.Ybulkdrkk
open Go.RowKit
set_option linter.unusedVariables false
theorem at_slice {P : Program} {ops : Array Oper} {Q : Exit → Act → World → Prop} {dst : Option Nat} {t : TypeId} {x : Operand} {lo hi : Operand} {ty : TypeId} {pos : String} {after : Array Edge} {g : Option (Nat × Bool)} {rest : List Oper} {a : Act} {w : World}
    (h : wpList P ops Q (⟨dst, .slice t x (some lo) (some hi) none, ty, pos, after, g⟩ :: rest) a w) :
    wpList P ops Q (⟨dst, .slice t x (some lo) (some hi) none, ty, pos, after, g⟩ :: rest) a w := h
theorem wpList_slice_part {w : World} {ops : Array Oper} {rest : List Oper} {o : Oper} {a : Act} {Q : Exit → Act → World → Prop} (hg : o.guard = none) (x lo hi : Operand) (hop : o.op = Op.slice 23 x (some lo) (some hi) none)
    (ad : Addr) (n cap l h : Nat) (L H : Int) (hx : a.eval x = .slice (some ad) n cap) (hl : a.eval lo = .int .i64 L) (hh : a.eval hi = .int .i64 H) (eL : L = (l : Int)) (eH : H = (h : Int)) (h1 : l ≤ h) (h2 : h ≤ cap)
    (hK : ∀ A, Hid (A = cutAd ad l cap) → wpList Yba.prog ops Q rest (a.put o.dst (.slice (some A) (h - l) (cap - l))) w) : wpList Yba.prog ops Q (o :: rest) a w := by
  refine wpList_plain hg fun K hK' => ?_
  subst eL
  subst eH
  have hrun := run_slice_lh (P := Yba.prog) w 23 (some ad) n cap (by kernel_rfl) .i64 .i64 l h (by omega) (by omega) (by omega)
  have he : Yba.prog.elem 23 = 5 := by kernel_rfl
  rw [he] at hrun
  have hs : (if cap = l then some ad else some (ad.add l)) = some (cutAd ad l cap) := cutAd_eq ad l cap
  have hrun2 : (Instr.sliceAt 23 (.slice (some ad) n cap) (some (.int .i64 l)) (some (.int .i64 h)) none).run Yba.prog w = .ok (.slice (some (cutAd ad l cap)) (h - l) (cap - l)) w := by
    rw [run_sliceAt_slice (P := Yba.prog) w 23 _ _ _ _ (by kernel_rfl), hrun, Yba.sizeOf5]
    simp [sliced, hs]
  unfold Oper.wp
  simp [execOp, hop, hx, hl, hh, hrun2, Result.andThen]
  exact hK' _ _ (hK _ rfl)

theorem Rd.part {w : World} {ad : Addr} {xs : List Int} {bad : Nat → Prop} (h : At w ad xs bad) (l k cap : Nat) (hc : xs.length ≤ cap) (hl : l + k ≤ xs.length) : Rd w (.slice (some (cutAd ad l cap)) k (cap - l)) (some ((xs.drop l).take k)) bad := by
  have e : ((xs.drop l).take k).length = k := by simp; omega
  exact ⟨_, _, by rw [e], by rw [e]; omega, h.part l k cap (by omega) hl⟩
/-- What the model's answer reads as. -/
def WIs (w : World) (v : Value) (o : Out) (bad : Nat → Prop) : Prop := ∃ r s x, v = .agg #[.bool o.ok, .int .u16 o.v, r, s, .int .u16 o.c, .int .u8 o.cm, x] ∧ Rd w r o.r bad ∧ Rd w s o.s bad ∧ XRd w x o.x bad

theorem set7 {B gR : Nat} {w wk : World} {z0 z1 z2 z3 z4 z5 z6 : Value} (hR : Blk wk gR [z0, z1, z2, z3, z4, z5, z6] 38) (hB : Below B w wk) (hg : B ≤ gR) (a0 a1 a2 a3 a4 a5 a6 : Value) :
    Blk (((((((wk.setCell ⟨gR, 0, none⟩ a0).setCell ⟨gR, 1, none⟩ a1).setCell ⟨gR, 2, none⟩ a2).setCell ⟨gR, 3, none⟩ a3).setCell ⟨gR, 4, none⟩ a4).setCell ⟨gR, 5, none⟩ a5).setCell ⟨gR, 6, none⟩ a6) gR [a0, a1, a2, a3, a4, a5, a6] 38 ∧
    Below B w (((((((wk.setCell ⟨gR, 0, none⟩ a0).setCell ⟨gR, 1, none⟩ a1).setCell ⟨gR, 2, none⟩ a2).setCell ⟨gR, 3, none⟩ a3).setCell ⟨gR, 4, none⟩ a4).setCell ⟨gR, 5, none⟩ a5).setCell ⟨gR, 6, none⟩ a6) :=
  ⟨((((((hR.set 0 a0).set 1 a1).set 2 a2).set 3 a3).set 4 a4).set 5 a5).set 6 a6, ((((((hB.setCell (p := ⟨gR, 0, none⟩) hg a0).setCell (p := ⟨gR, 1, none⟩) hg a1).setCell (p := ⟨gR, 2, none⟩) hg a2).setCell (p := ⟨gR, 3, none⟩) hg a3).setCell (p := ⟨gR, 4, none⟩) hg a4).setCell (p := ⟨gR, 5, none⟩) hg a5).setCell (p := ⟨gR, 6, none⟩) hg a6⟩
theorem res7 {gR : Nat} {w : World} {a0 a1 a2 a3 a4 a5 a6 : Value} (h : Blk w gR [a0, a1, a2, a3, a4, a5, a6] 38) (ts : Array Value) (ht : ts[4]?.getD undef = .pointer (some ⟨gR, 0, none⟩)) :
    (results Yba.f5 ts).run Yba.prog w = .ok (.agg #[a0, a1, a2, a3, a4, a5, a6]) w := by
  have q0 := h.cell 0; have q1 := h.cell 1; have q2 := h.cell 2; have q3 := h.cell 3; have q4 := h.cell 4; have q5 := h.cell 5; have q6 := h.cell 6
  simp only [List.getElem?_cons_succ, List.getElem?_cons_zero] at q0 q1 q2 q3 q4 q5 q6
  simp [results, Yba.results5, go_sem, ht, q0, q1, q2, q3, q4, q5, q6]

end Go.Proofs.Ybulkdrkk
