/-
  Rows of bytes that the call itself made: small laws on worlds, for the walks of this seat; make and copy as laws for the walk; what a conversion to a string gives.
-/
import Derived.Test.YbulkdrkkRows
import Derived.WalkKit
import Derived.Laws.CopyOwn
import Derived.Deep.QuietTactic
import Derived.BigQuiet
import Derived.Laws.BytesArg
import Derived.WalkSpells
import Derived.Deep.DeepCutAuto
import Derived.Deep.RegionWith
namespace Go.Proofs.Ybulkdrkk
open Go.RowKit
set_option linter.unusedVariables false

/-- Block g holds the bytes zs, and no cell of it is frozen. -/
def Row (w : World) (g : Nat) (zs : List Int) : Prop := w.heap[g]? = some (.cells (zs.map (Value.int .u8)).toArray 5 (0, 0))

theorem Row.cell {w : World} {g : Nat} {zs : List Int} (h : Row w g zs) (j : Nat) (hj : j < zs.length) : w.cell? ⟨g, j, none⟩ = some (.int .u8 (zs.getD j 0)) := by
  rw [cell_of_row w g j _ 5 (0, 0) h]
  simp [hj]
theorem Row.free {w : World} {g : Nat} {zs : List Int} (h : Row w g zs) (j : Nat) : w.frozen? ⟨g, j, none⟩ = false := frozen_of_row w g j _ 5 h
theorem Row.lt {w : World} {g : Nat} {zs : List Int} (h : Row w g zs) : g < w.heap.size := lt_of_block h
theorem Row.set {w : World} {g : Nat} {zs : List Int} (h : Row w g zs) (j : Nat) (v : Int) : Row (w.setCell ⟨g, j, none⟩ (.int .u8 v)) g (zs.set j v) := by
  unfold Row at *
  rw [heap_setCell_same w g j _ 5 _ h]
  simp [List.map_set]
theorem Row.keep {w w' : World} {g : Nat} {zs : List Int} (h : Row w g zs) (e : w'.heap[g]? = w.heap[g]?) : Row w' g zs := by
  unfold Row at *; rw [e]; exact h
theorem Row.alloc {w : World} {g : Nat} {zs : List Int} (h : Row w g zs) (o : Obj) : Row (w.alloc o) g zs := h.keep (Below.heap_alloc w o g h.lt)
theorem Row.drew {w : World} {g : Nat} {zs : List Int} (h : Row w g zs) : Row w.drew g zs := h
theorem Row.drewN {w : World} {g : Nat} {zs : List Int} (h : Row w g zs) (n : Nat) : Row (w.drewN n) g zs := h
theorem Row.other {w : World} {g : Nat} {zs : List Int} (h : Row w g zs) {a : Addr} (ha : g ≠ a.block) (v : Value) : Row (w.setCell a v) g zs := h.keep (heap_setCell_other w a g v ha)
theorem Row.grown {w w' : World} {g : Nat} {zs : List Int} {row : Option Nat} (h : Row w g zs) (hg : w.grownBy w' row) (hne : some g ≠ row) : Row w' g zs := h.keep (hg.block g h.lt hne)

theorem gb_refl (w : World) (row : Option Nat) : w.grownBy w row := ⟨rfl, rfl, rfl, Nat.le_refl _, fun _ _ _ => rfl⟩
theorem gb_trans {a b c : World} {row : Option Nat} (h : a.grownBy b row) (k : b.grownBy c row) : a.grownBy c row :=
  ⟨k.os.trans h.os, k.tape.trans h.tape, k.output.trans h.output, Nat.le_trans h.size k.size, fun i hi hne => (k.block i (Nat.lt_of_lt_of_le hi h.size) hne).trans (h.block i hi hne)⟩
theorem gb_alloc {a w : World} {row : Option Nat} (h : a.grownBy w row) (o : Obj) : a.grownBy (w.alloc o) row :=
  gb_trans h ⟨rfl, rfl, rfl, by simp, fun k hk _ => Below.heap_alloc w o k hk⟩
theorem gb_drew {a w : World} {row : Option Nat} (h : a.grownBy w row) : a.grownBy w.drew row := ⟨h.os, h.tape, h.output, h.size, h.block⟩
theorem gb_drewN {a w : World} {row : Option Nat} (h : a.grownBy w row) (n : Nat) : a.grownBy (w.drewN n) row := ⟨h.os, h.tape, h.output, h.size, h.block⟩
theorem gb_set {a w : World} {g : Nat} (h : a.grownBy w (some g)) (j : Nat) (v : Value) : a.grownBy (w.setCell ⟨g, j, none⟩ v) (some g) :=
  gb_trans h ⟨rfl, rfl, rfl, by simp [World.setCell], fun k _ hne => heap_setCell_other w _ k v (fun e => hne (by rw [e]))⟩


def Bytes (zs : List Int) : Prop := ∀ z ∈ zs, 0 ≤ z ∧ z ≤ 255
theorem Bytes.at {zs : List Int} (h : Bytes zs) (j : Nat) : 0 ≤ zs.getD j 0 ∧ zs.getD j 0 ≤ 255 := by
  by_cases hj : j < zs.length
  · have : zs.getD j 0 ∈ zs := by rw [List.getD_eq_getElem?_getD, List.getElem?_eq_getElem hj]; exact List.getElem_mem hj
    exact h _ this
  · rw [List.getD_eq_getElem?_getD, List.getElem?_eq_none (by omega)]; simp

theorem Yba.info5 : (Yba.prog.info? 5).map (fun i => (i.zero, i.size, i.bytes)) = some (some (.int .u8 0), 1, 1) := by kernel_rfl
theorem Yba.size5 : (Yba.prog.info? 5).map (·.size) = some 1 := by kernel_rfl

theorem wpList_make_row {w : World} {ops : Array Oper} {rest : List Oper} {o : Oper} {a : Act} {Q : Exit → Act → World → Prop}
    (hg : o.guard = none) (l c : Operand) (hop : o.op = Op.makeSlice 23 l c) (L C : Int) (n : Nat) (hl : a.eval l = .int .i64 L) (hc : a.eval c = .int .i64 C) (hL : L = (n : Int)) (hC : C = (n : Int)) (hn : n ≤ 140737488351232)
    (hK : ∀ w' ys, Hid (ys = List.replicate n 0) → Row w' w.heap.size ys → w.grownBy w' none → wpList Yba.prog ops Q rest (a.put o.dst (.slice (some ⟨w.heap.size, 0, none⟩) n n)) w') :
    wpList Yba.prog ops Q (o :: rest) a w := by
  obtain ⟨i, hi, h0, h1, h2⟩ := info_parts Yba.info5
  refine wpList_make_full w hg l c 23 hop 0 5 i (.int .u8 0) 1 Yba.underlying23 hi h0 h1 .i64 .i64 L C n hl hc hL hC (by rw [h2]; omega) (by unfold maxLen; omega) (Nat.zero_le _) ?_
  intro w' hown hgr
  refine hK w' _ rfl ?_ hgr
  obtain ⟨_, h | ⟨g, cap, cur, hv, _, hh, _, _, hcs, hct⟩⟩ := hown
  · exact absurd h.1 (by simp)
  · simp only [Value.slice.injEq, Option.some.injEq, Addr.mk.injEq] at hv
    obtain ⟨⟨rfl, _⟩, _, rfl⟩ := hv
    unfold Row
    rw [hh]
    have e : cur.toList = List.replicate n (Value.int .u8 0) := by
      have := toList_madeCells_one (Value.int .u8 0) n
      rw [Nat.mul_one] at hct hcs
      rw [show (Value.int IntKind.u8 0).cells = #[Value.int .u8 0] from rfl, this] at hct
      rw [← hct, List.take_of_length_le (by simp; omega)]
    have e2 : cur = (List.replicate n (Value.int .u8 0)).toArray := by rw [← e]
    rw [e2]
    simp

theorem gb_setRow {w : World} (g : Nat) (cs : Array Value) : w.grownBy (w.setRow g cs) (some g) :=
  ⟨rfl, rfl, rfl, by simp [World.setRow], fun k _ hne => setRow_other w g k cs (fun e => hne (by rw [e]))⟩

theorem wpList_copy_row {w : World} {ops : Array Oper} {rest : List Oper} {o : Oper} {a : Act} {Q : Exit → Act → World → Prop} (hgd : o.guard = none) (d s : Operand)
    (ho : o.op = .call { callee := .builtin .copy, args := #[d, s], argTypes := #[23, 23] }) (g dLen dCap : Nat) (sp : Option Addr) (sLen sCap : Nat)
    (hd : a.eval d = .slice (some ⟨g, 0, none⟩) dLen dCap) (hs : a.eval s = .slice sp sLen sCap) (zs cs : List Int) (hr : Row w g zs) (hz : dLen ≤ zs.length) (hn : cs.length = Nat.min sLen dLen)
    (hsrc : 0 < cs.length → ∃ ad, sp = some ad ∧ ∀ j, j < cs.length → w.cell? (ad.add j) = some (.int .u8 (cs.getD j 0)))
    (h : ∀ w' ys, Hid (ys = cs ++ zs.drop cs.length) → Row w' g ys → w.grownBy w' (some g) → wpList Yba.prog ops Q rest (a.put o.dst (goInt cs.length)) w') : wpList Yba.prog ops Q (o :: rest) a w := by
  by_cases h0 : cs.length = 0
  · obtain rfl : cs = [] := List.eq_nil_of_length_eq_zero h0
    exact wpList_copy_nothing hgd d s 23 23 ho 5 Yba.underlying23 Yba.size5 _ sp dLen dCap sLen sCap hd hs (by simpa using hn.symm) (h w zs (by show _ = _; simp) hr (gb_refl _ _))
  · obtain ⟨ad, rfl, hc⟩ := hsrc (by omega)
    have hle : cs.length ≤ zs.length := by have : Nat.min sLen dLen ≤ dLen := Nat.min_le_right sLen dLen; omega
    refine wpList_copy_own hgd d s 23 23 ho 5 Yba.underlying23 Yba.size5 g 0 dLen dCap ad sLen sCap hd hs _ 5 hr (cs.map (Value.int .u8)) (by simpa using hn) ?_ (by simp; omega) (by simp [Value.oneCell']) ?_
    · intro j v hj
      simp only [List.getElem?_map, Option.map_eq_some_iff] at hj
      obtain ⟨x, hx, rfl⟩ := hj
      obtain ⟨hj', hx'⟩ := List.getElem?_eq_some_iff.1 hx
      rw [hc j hj', List.getD_eq_getElem?_getD, hx]; rfl
    · simp only [List.length_map]
      refine h _ _ rfl ?_ (gb_setRow g _)
      unfold Row
      rw [setRow_heap w g _ _ 5 _ hr]
      simp

/-- A guard: the next operation is a copy. -/
theorem at_copy {P : Program} {ops : Array Oper} {Q : Exit → Act → World → Prop} {dst : Option Nat} {args : Array Operand} {ats : Array TypeId} {ty : TypeId} {pos : String} {after : Array Edge} {g : Option (Nat × Bool)} {rest : List Oper} {a : Act} {w : World}
    (h : wpList P ops Q (⟨dst, .call { callee := .builtin .copy, args := args, argTypes := ats }, ty, pos, after, g⟩ :: rest) a w) :
    wpList P ops Q (⟨dst, .call { callee := .builtin .copy, args := args, argTypes := ats }, ty, pos, after, g⟩ :: rest) a w := h



theorem below_of_gb {w w' : World} {row : Option Nat} (h : w.grownBy w' row) (hr : ∀ k, row = some k → w.heap.size ≤ k) : Below w.heap.size w w' :=
  (Below.refl _ _).grown h (Nat.le_refl _) hr
theorem below_gb {B : Nat} {a w w' : World} {row : Option Nat} (hb : Below B a w) (h : w.grownBy w' row) (hB : B ≤ w.heap.size) (hr : ∀ k, row = some k → B ≤ k) : Below B a w' := hb.grown h hB hr

/-- The len bytes xs lie at ao (nothing is asked where there is none). -/
def BytesAt (w : World) (ao : Option Addr) (xs : List Int) : Prop := 0 < xs.length → ∃ ad, ao = some ad ∧ ad.block < w.heap.size ∧ ∀ j, j < xs.length → w.cell? (ad.add j) = some (.int .u8 (xs.getD j 0))

theorem BytesAt.grown {w w' : World} {ao : Option Addr} {xs : List Int} (h : BytesAt w ao xs) (hb : Below w.heap.size w w') : BytesAt w' ao xs := by
  intro h0
  obtain ⟨ad, rfl, hlt, hc⟩ := h h0
  refine ⟨ad, rfl, Nat.lt_of_lt_of_le hlt hb.size, fun j hj => (hb.cell ?_).trans (hc j hj)⟩
  have : (ad.add j).block = ad.block := by unfold Addr.add; split <;> rfl
  rw [this]; exact hlt
theorem BytesAt.plain {w : World} {ao : Option Addr} {xs : List Int} (h : BytesAt w ao xs) : 0 < xs.length → ∃ ad, ao = some ad ∧ ∀ j, j < xs.length → w.cell? (ad.add j) = some (.int .u8 (xs.getD j 0)) := by
  intro h0; obtain ⟨ad, e, _, hc⟩ := h h0; exact ⟨ad, e, hc⟩
theorem Row.bytesAt {w : World} {g : Nat} {zs : List Int} (h : Row w g zs) : BytesAt w (some ⟨g, 0, none⟩) zs := by
  intro _
  refine ⟨_, rfl, h.lt, fun j hj => ?_⟩
  have e : (⟨g, 0, none⟩ : Addr).add j = ⟨g, j, none⟩ := by unfold Addr.add; split <;> simp_all
  rw [e]
  exact h.cell j hj

theorem conv_bytes {w : World} {ao : Option Addr} {xs : List Int} (h : BytesAt w ao xs) (cap : Nat) (hnil : ao = none → xs = []) :
    (convert 23 9 (.slice ao xs.length cap)).run Yba.prog w = .ok (.string (strOfNums xs)) w := by
  cases ao with
  | none =>
    obtain rfl := hnil rfl
    rw [run_convert_bytes_nil w 23 5 Yba.underlying23 Yba.underlying5 _ cap 9 Yba.underlying9]
    rfl
  | some ad =>
    have hl : (loadCells ad xs.length).run Yba.prog w = .ok (xs.map (Value.int .u8)).toArray w := by
      have := run_loadCells_list (P := Yba.prog) w ad (xs.map (Value.int .u8)) (fun j v hj => by
        have hjl : j < xs.length := by
          rcases Nat.lt_or_ge j xs.length with h | h
          · exact h
          · simp [List.getElem?_eq_none (show (xs.map (Value.int .u8)).length ≤ j by simpa using h)] at hj
        obtain ⟨ad', e, _, hc⟩ := h (by omega)
        simp only [Option.some.injEq] at e
        subst e
        rw [hc j hjl]
        simp [List.getElem?_eq_getElem hjl] at hj
        subst hj
        simp [List.getD, List.getElem?_eq_getElem hjl])
      simpa using this
    rw [run_convert_bytes_string w 23 9 5 _ _ cap Yba.underlying23 Yba.underlying5 Yba.underlying9, run_bytesToString w _ _ cap xs hl, foldl_push_bytes]
    simp [strOfNums, ByteArray.empty, ByteArray.emptyWithCapacity]
    rfl


theorem Row.cell_ex {w : World} {g : Nat} {zs : List Int} (h : Row w g zs) (j : Nat) (hj : j < zs.length) : ∃ z, w.cell? ⟨g, j, none⟩ = some (.int .u8 z) ∧ z = zs.getD j 0 := ⟨_, h.cell j hj, rfl⟩
theorem below_drewN' {B : Nat} {a w : World} (h : Below B a w) (n : Nat) : Below B a (w.drewN n) := ⟨h.os, h.tape, h.output, h.size, h.block⟩
theorem gb_undrew {a w : World} {row : Option Nat} (h : a.drew.grownBy w row) : a.grownBy w row := ⟨h.os, h.tape, h.output, h.size, h.block⟩
/-- The bytes xs at a plain address. -/
theorem BytesAt.spot {w : World} {ao : Option Addr} {xs : List Int} (h : BytesAt w ao xs) (h0 : 0 < xs.length) : ∃ b o, ao = some ⟨b, o, none⟩ ∧ b < w.heap.size ∧ ∀ j, j < xs.length → w.cell? ⟨b, o + j, none⟩ = some (.int .u8 (xs.getD j 0)) := by
  obtain ⟨x, rfl, hlt, hc⟩ := h h0
  have hsp : x.spot = none := by
    have h1 := World.cell?_spot (hc 0 h0)
    unfold Addr.add at h1
    split at h1 <;> simp_all
  obtain ⟨b, off, spot⟩ := x
  simp only at hsp
  subst hsp
  have hadd : ∀ i, (⟨b, off, none⟩ : Addr).add i = ⟨b, off + i, none⟩ := fun i => by unfold Addr.add; split <;> simp_all
  exact ⟨b, off, rfl, hlt, fun j hj => by rw [← hadd]; exact hc j hj⟩

end Go.Proofs.Ybulkdrkk
