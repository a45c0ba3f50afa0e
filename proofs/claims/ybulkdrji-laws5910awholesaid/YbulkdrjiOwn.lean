/-
  A byte slice that the call builds by append: make, append and the conversion to a string, as laws for the walk.
-/
import Derived.Test.YbulkdrjiExcerpt
namespace Go.Proofs.Ybulkdrji
open Go.RowKit
set_option linter.unusedVariables false

/-- The slice value v, of the call's own from block base on, holds the bytes ys. -/
def Own (w : World) (base : Nat) (v : Value) (ys : List Int) : Prop := w.ownsRow base 5 1 v ys.length (ys.map (Value.int .u8))

theorem Own.nil (w : World) (base : Nat) : Own w base (.slice none 0 0) [] := World.ownsRow_nil w base 5 1
theorem Own.alloc {w : World} {base : Nat} {v : Value} {ys : List Int} (h : Own w base v ys) (o : Obj) : Own (w.alloc o) base v ys := World.ownsRow.alloc h o
theorem Own.below {w w' : World} {base : Nat} {v : Value} {ys : List Int} (h : Own w base v ys) (hg : w.grownBy w' v.ownBlock) (hb : base ≤ w.heap.size) : Below base w w' :=
  (Below.refl _ _).grown hg hb (fun k hk => (World.ownsRow.lt h k hk).1)
theorem Own.shape {w : World} {base : Nat} {v : Value} {ys : List Int} (h : Own w base v ys) : (v = .slice none 0 0 ∧ ys = []) ∨ ∃ g cap, v = .slice (some ⟨g, 0, none⟩) ys.length cap ∧ base ≤ g ∧ g < w.heap.size ∧ ys.length ≤ cap ∧ ∀ j, j < ys.length → w.cell? ⟨g, j, none⟩ = some (.int .u8 (ys.getD j 0)) := by
  obtain ⟨_, ⟨h1, h2⟩ | ⟨g, cap, cur, rfl, hb, hh, hle, _, hcs, hct⟩⟩ := h
  · exact .inl ⟨h1, List.eq_nil_of_length_eq_zero h2⟩
  · refine .inr ⟨g, cap, rfl, hb, lt_of_block hh, hle, fun j hj => ?_⟩
    rw [cell_of_row w g j cur 5 (0, 0) hh, ← Array.getElem?_toList]
    rw [Nat.mul_one] at hct
    have := congrArg (fun l => l[j]?) hct
    rw [List.getElem?_take_of_lt hj] at this
    rw [this]
    simp [hj]
theorem Own.bytesAt {w : World} {base : Nat} {v : Value} {ys : List Int} (h : Own w base v ys) : ∃ a c, v = .slice a ys.length c ∧ BytesAt w a ys ∧ (a = none → ys = []) := by
  rcases h.shape with ⟨rfl, rfl⟩ | ⟨g, cap, rfl, _, hlt, _, hc⟩
  · exact ⟨none, 0, rfl, fun h => by simp at h, fun _ => rfl⟩
  · refine ⟨_, cap, rfl, fun _ => ⟨_, rfl, hlt, fun j hj => ?_⟩, fun h => by simp at h⟩
    have hadd : (⟨g, 0, none⟩ : Addr).add j = ⟨g, j, none⟩ := by unfold Addr.add; split <;> simp_all
    rw [hadd]; exact hc j hj
theorem Own.conv {w : World} {base : Nat} {v : Value} {ys : List Int} (h : Own w base v ys) : (convert 22 9 v).run Yba.prog w = .ok (.string (strOfNums ys)) w := by
  obtain ⟨a, c, rfl, h1, h2⟩ := h.bytesAt
  exact conv_any 22 Yba.underlying22 h1 _ c rfl h2

theorem wpList_make_want {w : World} {ops : Array Oper} {rest : List Oper} {o : Oper} {a : Act} {Q : Exit → Act → World → Prop}
    (hg : o.guard = none) (l c : Operand) (hop : o.op = Op.makeSlice 22 l c) (C : Int) (n : Nat) (hl : a.eval l = .int .i64 0) (hc : a.eval c = .int .i64 C) (hC : C = (n : Int)) (hn : n ≤ 140737488351232)
    (hK : ∀ w', Own w' w.heap.size (.slice (some ⟨w.heap.size, 0, none⟩) 0 n) [] → w.grownBy w' none → wpList Yba.prog ops Q rest (a.put o.dst (.slice (some ⟨w.heap.size, 0, none⟩) 0 n)) w') :
    wpList Yba.prog ops Q (o :: rest) a w := by
  obtain ⟨i, hi, h0, h1, h2⟩ := info_parts Yba.info5
  exact wpList_make_own w hg l c 22 hop w.heap.size 5 i (.int .u8 0) 1 Yba.underlying22 hi h0 h1 .i64 .i64 C n hl hc hC (by rw [h2]; omega) (by unfold maxLen; omega) (Nat.le_refl _) hK

theorem wpList_append_bytes {w : World} {ops : Array Oper} {rest : List Oper} {o : Oper} {a : Act} {Q : Exit → Act → World → Prop} (hgd : o.guard = none) (s x : Operand)
    (ho : o.op = .call { callee := .builtin .append, args := #[s, x], argTypes := #[22, 22] }) (base : Nat) (v : Value) (ys : List Int) (hs : a.eval s = v) (hown : Own w base v ys)
    (g m c : Nat) (news : List Int) (hx : a.eval x = .slice (some ⟨g, 0, none⟩) m c) (hl : news.length = m) (hnews : ∀ j, j < news.length → w.cell? ⟨g, j, none⟩ = some (.int .u8 (news.getD j 0)))
    (hlim : ys.length + m ≤ 140737488355328) (hbase : base ≤ w.heap.size)
    (h : ∀ v' w', Own w' base v' (ys ++ news) → Below base w w' → w.heap.size ≤ w'.heap.size → wpList Yba.prog ops Q rest (a.put o.dst v') w') : wpList Yba.prog ops Q (o :: rest) a w := by
  obtain ⟨i, hi, h0, h1, h2⟩ := info_parts Yba.info5
  refine wpList_append_own w hgd s x 22 ho base 5 i (.int .u8 0) 1 1 Yba.underlying22 hi h0 h1 h2 rfl (by decide) v ys.length _ hs hown ⟨g, 0, none⟩ m c (news.map (Value.int .u8)) hx (by simp; exact hl) ?_ (by simp [Value.oneCell']) (by unfold maxLen; omega) (by omega) hbase ?_
  · intro j u hj
    simp only [List.getElem?_map, Option.map_eq_some_iff] at hj
    obtain ⟨z, hz, rfl⟩ := hj
    obtain ⟨hj', hz'⟩ := List.getElem?_eq_some_iff.1 hz
    have hadd : (⟨g, 0, none⟩ : Addr).add j = ⟨g, j, none⟩ := by unfold Addr.add; split <;> simp_all
    rw [hadd, hnews j hj', List.getD_eq_getElem?_getD, hz]; rfl
  · intro v' w' hown' hgr _
    refine h v' w' ?_ (hown.below hgr hbase) hgr.size
    unfold Own
    simpa [List.map_append, hl] using hown'

theorem one_new (w : World) (z : Int) : ∀ j, j < [z].length → (w.alloc (.cells #[.int .u8 z] 5)).cell? ⟨w.heap.size, j, none⟩ = some (.int .u8 ([z].getD j 0)) := by
  intro j hj
  obtain rfl : j = 0 := by simp at hj; exact hj
  rw [cell_of_row _ _ 0 #[.int .u8 z] 5 (0, 0) (heap_alloc_new w _)]; rfl
theorem three_new (w : World) (x y z : Int) : ∀ j, j < [x, y, z].length → (w.alloc (.cells #[.int .u8 x, .int .u8 y, .int .u8 z] 5)).cell? ⟨w.heap.size, j, none⟩ = some (.int .u8 ([x, y, z].getD j 0)) := by
  intro j hj
  rw [cell_of_row _ _ j #[.int .u8 x, .int .u8 y, .int .u8 z] 5 (0, 0) (heap_alloc_new w _)]
  match j, hj with
  | 0, _ => rfl
  | 1, _ => rfl
  | 2, _ => rfl
end Go.Proofs.Ybulkdrji
