/-
  Bytes and strings: what a conversion and a copy from a string do; the clone of the law (function 9), bytes.Equal (function 11).
-/
import Derived.Test.YbulkdrigBlocks
import Derived.Lib.BufferWrite
import Derived.Laws.BytesArg
namespace Go.Proofs.Ybulkdrig
open Go.RowKit
set_option linter.unusedVariables false

/-- The len bytes xs lie at ao (nothing is asked where there is none). -/
def BytesAt (w : World) (ao : Option Addr) (xs : List Int) : Prop := 0 < xs.length → ∃ ad, ao = some ad ∧ ad.block < w.heap.size ∧ ∀ j, j < xs.length → w.cell? (ad.add j) = some (.int .u8 (xs.getD j 0))

theorem BytesAt.grown {w w' : World} {ao : Option Addr} {xs : List Int} (h : BytesAt w ao xs) (hb : Below w.heap.size w w') : BytesAt w' ao xs := by
  intro h0
  obtain ⟨ad, rfl, hlt, hc⟩ := h h0
  refine ⟨ad, rfl, Nat.lt_of_lt_of_le hlt hb.size, fun j hj => (hb.cell ?_).trans (hc j hj)⟩
  have : (ad.add j).block = ad.block := by unfold Addr.add; split <;> rfl
  rw [this]; exact hlt
theorem BytesAt.plain {w : World} {ao : Option Addr} {xs : List Int} (h : BytesAt w ao xs) : 0 < xs.length → ∃ ad, ao = some ad ∧ ∀ j, j < xs.length → w.cell? (ad.add j) = some (.int .u8 (xs.getD j 0)) := by
  intro h0; obtain ⟨ad, e, _, hc⟩ := h h0; exact ⟨ad, e, hc⟩
theorem Row.bytesAt {w : World} {g : Nat} {zs : List Int} (h : Row w g zs) : BytesAt w (some ⟨g, 0, none⟩) zs := by
  intro _
  refine ⟨_, rfl, h.lt, fun j hj => ?_⟩
  have e : (⟨g, 0, none⟩ : Addr).add j = ⟨g, j, none⟩ := by unfold Addr.add; split <;> simp_all
  rw [e]
  exact h.cell j hj

theorem conv_bytes {w : World} {ao : Option Addr} {xs : List Int} (h : BytesAt w ao xs) (cap : Nat) (hnil : ao = none → xs = []) :
    (convert 22 9 (.slice ao xs.length cap)).run Yba.prog w = .ok (.string (strOfNums xs)) w := by
  cases ao with
  | none =>
    obtain rfl := hnil rfl
    rw [run_convert_bytes_nil w 22 5 Yba.underlying22 Yba.underlying5 _ cap 9 Yba.underlying9]
    rfl
  | some ad =>
    have hl : (loadCells ad xs.length).run Yba.prog w = .ok (xs.map (Value.int .u8)).toArray w := by
      have := run_loadCells_list (P := Yba.prog) w ad (xs.map (Value.int .u8)) (fun j v hj => by
        have hjl : j < xs.length := by
          rcases Nat.lt_or_ge j xs.length with h | h
          · exact h
          · simp [List.getElem?_eq_none (show (xs.map (Value.int .u8)).length ≤ j by simpa using h)] at hj
        obtain ⟨ad', e, _, hc⟩ := h (by omega)
        simp only [Option.some.injEq] at e
        subst e
        rw [hc j hjl]
        simp [List.getElem?_eq_getElem hjl] at hj
        subst hj
        simp [List.getD, List.getElem?_eq_getElem hjl])
      simpa using this
    rw [run_convert_bytes_string w 22 9 5 _ _ cap Yba.underlying22 Yba.underlying5 Yba.underlying9, run_bytesToString w _ _ cap xs hl, foldl_push_bytes]
    simp [strOfNums, ByteArray.empty, ByteArray.emptyWithCapacity]
    rfl

/-- The numbers of a string's bytes. -/
def numsOf (s : ByteArray) : List Int := s.data.toList.map fun b => (b.toNat : Int)
theorem numsOf_len (s : ByteArray) : (numsOf s).length = s.size := by unfold numsOf; rw [List.length_map, Array.length_toList]; rfl
theorem strOf_numsOf (s : ByteArray) : strOfNums (numsOf s) = s := by
  obtain ⟨⟨l⟩⟩ := s
  simp only [strOfNums, numsOf, List.map_map]
  congr 2
  have : ∀ b ∈ l, ((fun n : Int => UInt8.ofNat n.toNat) ∘ fun b : UInt8 => (b.toNat : Int)) b = id b := by
    intro b _
    simp
  rw [List.map_congr_left this, List.map_id]
theorem numsOf_bytes (s : ByteArray) : Bytes (numsOf s) := by
  intro z hz
  simp only [numsOf, List.mem_map] at hz
  obtain ⟨b, _, rfl⟩ := hz
  have := b.toNat_lt
  omega

theorem wpList_copy_str {w : World} {ops : Array Oper} {rest : List Oper} {o : Oper} {a : Act} {Q : Exit → Act → World → Prop} (hgd : o.guard = none) (d s : Operand)
    (ho : o.op = .call { callee := .builtin .copy, args := #[d, s], argTypes := #[22, 9] }) (g dLen dCap : Nat) (st : ByteArray)
    (hd : a.eval d = .slice (some ⟨g, 0, none⟩) dLen dCap) (hs : a.eval s = .string st) (zs : List Int) (hr : Row w g zs) (hz : zs.length = st.size) (hn : st.size = dLen)
    (h : ∀ w', Row w' g (numsOf st) → w.grownBy w' (some g) → wpList Yba.prog ops Q rest (a.put o.dst (goInt st.size)) w') : wpList Yba.prog ops Q (o :: rest) a w := by
  refine wpList_plain hgd fun K hK => ?_
  have hrun := Lib.run_copy_row_string (P := Yba.prog) w 22 9 o.type 5 g 0 dLen dCap st _ 5 Yba.underlying22 Yba.size5 hr (by omega) (by simp; omega)
  have e : (List.take 0 (zs.map (Value.int .u8)).toArray.toList ++ Lib.byteCells st.data.toList ++ List.drop (0 + st.size) (zs.map (Value.int .u8)).toArray.toList) = (numsOf st).map (Value.int .u8) := by
    rw [List.drop_eq_nil_of_le (by simp; omega)]
    simp [Lib.byteCells, numsOf, Function.comp]
  rw [e] at hrun
  have hrow : Row (w.setRow g ((numsOf st).map (Value.int .u8)).toArray) g (numsOf st) := by
    unfold Row
    rw [setRow_heap w g _ _ 5 _ hr]
  have hk := h _ hrow (gb_setRow g _)
  unfold Oper.wp
  simp [execOp, ho, resolve, invoke, builtin, hd, hs, hrun, Result.andThen]
  exact hK _ _ hk

set_option maxRecDepth 100000 in
set_option maxHeartbeats 800000 in
theorem clone_nil (w : World) : Calls Yba.prog 9 #[.slice none 0 0] w fun e w' => e = .returned (.slice none 0 0) ∧ w' = w := by
  have e1 := fun w => Lib.run_eql_slice_nil (P := Yba.prog) w 22 5 none 0 0 0 0 Yba.underlying22
  go_enter Yba.func9, Yba.ntmps9
  go_wp2
  go_ret
  exact ⟨rfl, rfl⟩
set_option maxRecDepth 100000 in
set_option maxHeartbeats 800000 in
theorem clone_some (ad : Addr) (n cap : Nat) (xs : List Int) (w : World) (hn : n = xs.length) (h : BytesAt w (some ad) xs) (hr : n ≤ 140737488351232) :
    Calls Yba.prog 9 #[.slice (some ad) n cap] w fun e w' => ∃ g, e = .returned (.slice (some ⟨g, 0, none⟩) n n) ∧ w.heap.size ≤ g ∧ Row w' g xs ∧ Below w.heap.size w w' := by
  have e1 := fun w c => Lib.run_eql_slice_nil (P := Yba.prog) w 22 5 (some ad) n c 0 0 Yba.underlying22
  have hmin : xs.length = Nat.min n n := by rw [← hn]; exact (Nat.min_self n).symm
  have HX : Hid (n = xs.length) := hn
  clear hn
  go_enter Yba.func9, Yba.ntmps9
  go_wp2_with (first | (at_make; refine wpList_make_row rfl (.tmp 7) (.tmp 7) rfl _ _ n rfl rfl rfl rfl hr ?_; intro w1 y1 hy1 hr1 hg1) | ((with_reducible refine at_copy ?_); refine wpList_copy_row rfl (.tmp 9) (.tmp 10) rfl w.heap.size n n (some ad) n cap rfl rfl y1 xs hr1 (by rw [hy1.out]; simp) hmin (h.grown (below_of_gb hg1 (by simp))).plain ?_; intro w2 y2 hy2 hr2 hg2))
  go_ret
  refine ⟨_, rfl, Nat.le_refl _, ?_, below_gb (below_of_gb hg1 (by simp)) hg2 hg1.size (by simp)⟩
  have : y2 = xs := by rw [hy2.out, List.drop_eq_nil_of_le (by rw [hy1.out, ← HX.out]; simp), List.append_nil]
  rw [← this]; exact hr2

set_option maxRecDepth 100000 in
set_option maxHeartbeats 800000 in
theorem equal_same (ao bo : Option Addr) (ca cb : Nat) (xs : List Int) (w : World) (ha : BytesAt w ao xs) (hb : BytesAt w bo xs) (hna : ao = none → xs = []) (hnb : bo = none → xs = []) :
    Calls Yba.prog 11 #[.slice ao xs.length ca, .slice bo xs.length cb] w fun e w' => e = .returned (.bool true) ∧ w' = w := by
  have c1 := conv_bytes ha ca hna
  have c2 := conv_bytes hb cb hnb
  go_enter Yba.func11, Yba.ntmps11
  go_wp2
  go_ret
  exact ⟨by simp, rfl⟩
end Go.Proofs.Ybulkdrig
