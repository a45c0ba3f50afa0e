/-
  A map[string]*dialogue of the call's own (type 52 of this dump), its entries told as a list: what a look-up, a store of a new key, a delete and len do.
-/
import Derived.Test.YbulkdrigMem
import Derived.MapKept
namespace Go.Proofs.Ybulkdrig
open Go.RowKit
set_option linter.unusedVariables false

/-- The first entry at s, with its place (counted from i). -/
def fnd (s : ByteArray) : List (ByteArray × Value) → Nat → Option (Nat × Value)
  | [], _ => none
  | p :: r, i => if s == p.1 then some (i, p.2) else fnd s r (i + 1)

/-- Block g is a map whose entries, in their order, are l. -/
def MapIs (w : World) (g : Nat) (l : List (ByteArray × Value)) : Prop :=
  ∃ es clock, w.heap[g]? = some (.map es clock) ∧ es.toList.map (fun e => (e.key, e.val)) = l.map (fun p => (Value.string p.1, p.2))

theorem MapIs.lt {w : World} {g : Nat} {l : List (ByteArray × Value)} (h : MapIs w g l) : g < w.heap.size := by
  obtain ⟨es, c, hb, _⟩ := h; exact lt_of_block hb
theorem MapIs.keep {w w' : World} {g : Nat} {l : List (ByteArray × Value)} (h : MapIs w g l) (e : w'.heap[g]? = w.heap[g]?) : MapIs w' g l := by
  obtain ⟨es, c, hb, hl⟩ := h; exact ⟨es, c, e.trans hb, hl⟩
theorem MapIs.grown {w w' : World} {g : Nat} {l : List (ByteArray × Value)} {row : Option Nat} (h : MapIs w g l) (hg : w.grownBy w' row) (hne : some g ≠ row) : MapIs w' g l := h.keep (hg.block g h.lt hne)
theorem MapIs.alloc {w : World} {g : Nat} {l : List (ByteArray × Value)} (h : MapIs w g l) (o : Obj) : MapIs (w.alloc o) g l := h.keep (Below.heap_alloc w o g h.lt)
theorem MapIs.drew {w : World} {g : Nat} {l : List (ByteArray × Value)} (h : MapIs w g l) : MapIs w.drew g l := h
theorem MapIs.drewN {w : World} {g : Nat} {l : List (ByteArray × Value)} (h : MapIs w g l) (n : Nat) : MapIs (w.drewN n) g l := h
theorem MapIs.other {w : World} {g : Nat} {l : List (ByteArray × Value)} (h : MapIs w g l) {a : Addr} (ha : g ≠ a.block) (v : Value) : MapIs (w.setCell a v) g l := h.keep (heap_setCell_other w a g v ha)
theorem MapIs.made (w : World) : MapIs (w.alloc (.map #[] 0)) w.heap.size [] := ⟨#[], 0, heap_alloc_new w _, rfl⟩

theorem findNow_is (s : ByteArray) : ∀ (es : List MapEntry) (l : List (ByteArray × Value)) (i : Nat), es.map (fun e => (e.key, e.val)) = l.map (fun p => (Value.string p.1, p.2)) →
    Instr.findNow .string (.string s) es i = some (fnd s l i)
  | [], [], i, _ => rfl
  | [], p :: l, i, h => by simp at h
  | e :: es, [], i, h => by simp at h
  | e :: es, p :: l, i, h => by
    simp only [List.map_cons, List.cons.injEq, Prod.mk.injEq] at h
    obtain ⟨⟨h1, h2⟩, h3⟩ := h
    have ih := findNow_is s es l (i + 1) h3
    unfold Instr.findNow fnd
    rw [h1, h2]
    simp only [Instr.sameNow]
    cases hb : s == p.1
    · simpa using ih
    · simp

theorem fnd_some {s : ByteArray} : ∀ {l : List (ByteArray × Value)} {i j : Nat} {v : Value}, fnd s l i = some (j, v) → i ≤ j ∧ j - i < l.length
  | p :: l, i, j, v, h => by
    unfold fnd at h
    split at h
    · simp only [Option.some.injEq, Prod.mk.injEq] at h
      obtain ⟨rfl, _⟩ := h
      simp
    · have := fnd_some h
      simp; omega

theorem isKey (s : ByteArray) : MapKept.IsKey .string (.string s) := by simp [MapKept.IsKey]

/-- What 'v, ok := m[s]' gives. -/
def lookV (l : List (ByteArray × Value)) (s : ByteArray) : Value := match fnd s l 0 with | some (_, v) => v | none => .pointer none
def lookB (l : List (ByteArray × Value)) (s : ByteArray) : Bool := (fnd s l 0).isSome

theorem zero86 (w : World) : (zeroValue 86).run Yba.prog w = .ok (.pointer none) w := by kernel_rfl

theorem MapIs.look {w : World} {g : Nat} {l : List (ByteArray × Value)} (h : MapIs w g l) (s : ByteArray) :
    (Instr.lookup 52 (.map (some g)) (.string s) true).run Yba.prog w = .ok (.tuple #[lookV l s, .bool (lookB l s)]) w := by
  obtain ⟨es, c, hb, hl⟩ := h
  have hf := findNow_is s es.toList l 0 hl
  have hck : ∀ e, (Instr.checkKey e 10000 9 (.string s)).run Yba.prog w = .ok () w := fun e => MapKept.run_checkKey (d := .string) Yba.underlying9 (isKey s) e 9999
  have hfk := MapKept.run_findKey (P := Yba.prog) (w := w) (kt := 9) Yba.underlying9 hf
  unfold Instr.lookup
  simp only [Sem.run_bind, run_underlying Yba.underlying52, MapKept.run_getObj_map hb, Result.andThen, hck, Sem.run_pure, hfk]
  unfold lookV lookB
  cases fnd s l 0 with
  | none => simp [Result.andThen]
  | some q => simp

theorem setIf_grown {w : World} {g : Nat} {o : Obj} (o' : Obj) (hb : w.heap[g]? = some o) : w.grownBy { w with heap := w.heap.setIfInBounds g o' } (some g) :=
  ⟨rfl, rfl, rfl, by simp, fun k _ hne => (MapKept.heap_set (o' := o') hb).2 k (fun e => hne (by rw [e]))⟩

/-- 'm[s] = v', s not yet there. -/
theorem MapIs.put {w : World} {g : Nat} {l : List (ByteArray × Value)} (h : MapIs w g l) (s : ByteArray) (v : Value) (hn : lookB l s = false) :
    ∃ w', (Instr.mapUpdate 52 (.map (some g)) (.string s) v).run Yba.prog w = .ok () w' ∧ MapIs w' g (l ++ [(s, v)]) ∧ w.grownBy w' (some g) := by
  obtain ⟨es, c, hb, hl⟩ := h
  have hf := findNow_is s es.toList l 0 hl
  have hno : fnd s l 0 = none := by unfold lookB at hn; simpa using hn
  rw [hno] at hf
  have hck : (Instr.checkKey false 10000 9 (.string s)).run Yba.prog w = .ok () w := MapKept.run_checkKey (d := .string) Yba.underlying9 (isKey s) false 9999
  have hfk := MapKept.run_findKey (P := Yba.prog) (w := w) (kt := 9) Yba.underlying9 hf
  refine ⟨_, ?_, ?_, setIf_grown (.map (es.push { key := .string s, val := v, born := c }) (c + 1)) hb⟩
  · unfold Instr.mapUpdate
    simp only [Sem.run_bind, run_underlying Yba.underlying52, MapKept.run_getObj_map hb, Result.andThen, hck, hfk]
    exact MapKept.run_setObj_map _ hb
  · exact ⟨_, _, (MapKept.heap_set hb).1, by simp [hl]⟩

/-- 'delete(m, s)'. -/
def struck (l : List (ByteArray × Value)) (s : ByteArray) : List (ByteArray × Value) := match fnd s l 0 with | some (i, _) => l.eraseIdx i | none => l

theorem map_eraseIdx' {α β : Type} (f : α → β) (l : List α) (i : Nat) : (l.eraseIdx i).map f = (l.map f).eraseIdx i := by
  induction l generalizing i with
  | nil => simp
  | cons a r ih => cases i with
    | zero => simp
    | succ i => simp [ih]

theorem MapIs.drop {w : World} {g : Nat} {l : List (ByteArray × Value)} (h : MapIs w g l) (s : ByteArray) (ty : TypeId) :
    ∃ w', (Builtin.delete_ #[52, 9] ty #[.map (some g), .string s]).run Yba.prog w = .ok (.tuple #[]) w' ∧ MapIs w' g (struck l s) ∧ w.grownBy w' (some g) := by
  obtain ⟨es, c, hb, hl⟩ := h
  have hf := findNow_is s es.toList l 0 hl
  have hck : ∀ e, (Instr.checkKey e 10000 9 (.string s)).run Yba.prog w = .ok () w := fun e => MapKept.run_checkKey (d := .string) Yba.underlying9 (isKey s) e 9999
  have hfk := MapKept.run_findKey (P := Yba.prog) (w := w) (kt := 9) Yba.underlying9 hf
  unfold struck
  cases hq : fnd s l 0 with
  | none =>
    rw [hq] at hfk
    refine ⟨_, ?_, ?_, setIf_grown (.map es c) hb⟩
    · unfold Builtin.delete_
      simp [run_underlying Yba.underlying52, MapKept.run_getObj_map hb, Result.andThen, hck, hfk, MapKept.run_setObj_map _ hb]
    · exact ⟨es, c, (MapKept.heap_set hb).1, hl⟩
  | some q =>
    obtain ⟨i, v⟩ := q
    rw [hq] at hfk
    have hi := fnd_some hq
    have hlen : l.length = es.size := by have := congrArg List.length hl; simpa using this.symm
    refine ⟨_, ?_, ?_, setIf_grown (.map (es.eraseIdxIfInBounds i) c) hb⟩
    · unfold Builtin.delete_
      simp [run_underlying Yba.underlying52, MapKept.run_getObj_map hb, Result.andThen, hck, hfk, MapKept.run_setObj_map _ hb]
    · refine ⟨_, _, (MapKept.heap_set hb).1, ?_⟩
      have hlt : i < es.size := by omega
      simp only [Array.eraseIdxIfInBounds, hlt, dif_pos, Array.toList_eraseIdx]
      rw [map_eraseIdx', hl, map_eraseIdx']

theorem MapIs.len {w : World} {g : Nat} {l : List (ByteArray × Value)} (h : MapIs w g l) (ty : TypeId) :
    (Builtin.len_ #[52] ty #[.map (some g)]).run Yba.prog w = .ok (.int .i64 l.length) w := by
  obtain ⟨es, c, hb, hl⟩ := h
  have hlen : l.length = es.size := by have := congrArg List.length hl; simpa using this.symm
  simp [Builtin.len_, run_underlying Yba.underlying52, MapKept.run_getObj_map hb, Result.andThen, goInt, hlen]

end Go.Proofs.Ybulkdrig
