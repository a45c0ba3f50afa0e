/-
  A byte slice that the call builds by append (its content does not matter here: only that it holds bytes, and how many); literals; make of a row of extensions.
-/
import Derived.Test.YbulkdrkkEq
import Derived.Laws.AppendOwnNone
import Derived.Deep.RegionLaw
namespace Go.Proofs.Ybulkdrkk
open Go.RowKit
set_option linter.unusedVariables false

/-- The bytes of T are bytes. -/
def BytesT (T : Option (List Int)) : Prop := ∀ xs, T = some xs → Bytes xs
def toL : Option (List Int) → List Int
  | none => []
  | some xs => xs
theorem toL_length (T : Option (List Int)) : (toL T).length = olen T := by cases T <;> rfl
theorem BytesT.toL {T : Option (List Int)} (h : BytesT T) : Bytes (toL T) := by
  cases T with
  | none => intro z hz; simp [Ybulkdrkk.toL] at hz
  | some xs => exact h xs rfl

/-- The slice value v, of the call's own from block base on, holds n bytes. -/
def Buf (w : World) (base : Nat) (v : Value) (n : Nat) : Prop := ∃ ys : List Int, w.ownsRow base 5 1 v ys.length (ys.map (Value.int .u8)) ∧ Bytes ys ∧ ys.length = n
theorem Buf.nil (w : World) (base : Nat) : Buf w base (.slice none 0 0) 0 := ⟨[], World.ownsRow_nil w base 5 1, fun z hz => by simp at hz, rfl⟩
theorem Buf.grown {w w' : World} {base : Nat} {v : Value} {n : Nat} (h : Buf w base v n) (hb : Below w.heap.size w w') : Buf w' base v n := by
  obtain ⟨ys, ⟨h1, h5 | ⟨g, cap, cur, rfl, h6, h7, h8⟩⟩, h2, h3⟩ := h
  · exact ⟨ys, ⟨h1, .inl h5⟩, h2, h3⟩
  · refine ⟨ys, ⟨h1, .inr ⟨g, cap, cur, rfl, h6, ?_, h8⟩⟩, h2, h3⟩
    rw [hb.block g (lt_of_block h7)]; exact h7
theorem Buf.alloc {w : World} {base : Nat} {v : Value} {n : Nat} (h : Buf w base v n) (o : Obj) : Buf (w.alloc o) base v n := h.grown ((Below.refl _ _).alloc (Nat.le_refl _) o)
theorem Buf.drew {w : World} {base : Nat} {v : Value} {n : Nat} (h : Buf w base v n) : Buf w.drew base v n := h.grown (Below.refl _ _).drew
theorem Buf.read {w : World} {base : Nat} {v : Value} {n : Nat} (h : Buf w base v n) : ∃ T, Rd w v T (fun k => k < base) ∧ BytesT T ∧ olen T = n ∧ (0 < n → T ≠ none) := by
  obtain ⟨ys, ⟨h1, ⟨rfl, h5⟩ | ⟨g, cap, cur, rfl, hb, hh, hle, _, hcs, hct⟩⟩, h2, h3⟩ := h
  · refine ⟨none, rfl, fun xs e => by simp at e, ?_, ?_⟩
    · have := congrArg List.length (List.eq_nil_of_length_eq_zero h5); simp at this; simp [olen]; omega
    · intro h; omega
  · refine ⟨some ys, ⟨_, cap, rfl, hle, fun h0 => ⟨lt_of_block hh, by simp; exact hb, fun j hj => ?_⟩⟩, fun xs e => by cases e; exact h2, h3, fun _ e => by simp at e⟩
    have hadd : (⟨g, 0, none⟩ : Addr).add j = ⟨g, j, none⟩ := by unfold Addr.add; split <;> simp_all
    rw [hadd, cell_of_row w g j cur 5 (0, 0) hh, ← Array.getElem?_toList]
    rw [Nat.mul_one] at hct
    have := congrArg (fun l => l[j]?) hct
    rw [List.getElem?_take_of_lt hj] at this
    rw [this]
    simp [hj]
theorem Buf.rd {w : World} {base : Nat} {v : Value} {n : Nat} (h : Buf w base v n) (h0 : 0 < n) : ∃ ys, Rd w v (some ys) (fun k => k < base) ∧ Bytes ys ∧ ys.length = n := by
  obtain ⟨T, h1, h2, h3, h4⟩ := h.read
  cases T with
  | none => exact absurd rfl (h4 h0)
  | some ys => exact ⟨ys, h1, h2 ys rfl, h3⟩
theorem Buf.shape {w : World} {base : Nat} {v : Value} {n : Nat} (h : Buf w base v n) : ∃ ao c, v = .slice ao n c ∧ n ≤ c := by
  obtain ⟨T, h1, h2, h3, h4⟩ := h.read
  cases T with
  | none => obtain rfl : v = .slice none 0 0 := h1; cases h3; exact ⟨none, 0, rfl, Nat.le_refl _⟩
  | some ys => obtain ⟨ad, c, rfl, hc, _⟩ := h1; cases h3; exact ⟨_, c, rfl, hc⟩
/-- The same over a block at its head. -/
theorem Buf.head {w : World} {base : Nat} {v : Value} {n : Nat} (h : Buf w base v n) (h0 : 0 < n) : ∃ g c, v = .slice (some ⟨g, 0, none⟩) n c ∧ n ≤ c := by
  obtain ⟨ys, ⟨h1, ⟨rfl, h5⟩ | ⟨g, cap, cur, rfl, hb, hh, hle, _, hcs, hct⟩⟩, h2, h3⟩ := h
  · have := congrArg List.length (List.eq_nil_of_length_eq_zero h5); simp at this; omega
  · exact ⟨g, cap, by rw [h3], by omega⟩
theorem Bytes.append {xs ys : List Int} (h : Bytes xs) (k : Bytes ys) : Bytes (xs ++ ys) := fun z hz => by
  rcases List.mem_append.1 hz with h' | h'
  · exact h z h'
  · exact k z h'

theorem run_append_buf {w : World} (ty : TypeId) (base : Nat) (v : Value) (n : Nat) (hown : Buf w base v n) (x : Value) (T : Option (List Int)) (bad : Nat → Prop) (hx : Rd w x T bad) (hT : BytesT T) (hlim : n + olen T ≤ 140737488355328) (hbase : base ≤ w.heap.size) :
    ∃ v' w', (Builtin.append_ #[23, 23] ty #[v, x]).run Yba.prog w = .ok v' w' ∧ Buf w' base v' (n + olen T) ∧ Below base w w' := by
  obtain ⟨i, hi, h0, h1, h2⟩ := info_parts Yba.info5
  obtain ⟨ys, ho, hb, hn⟩ := hown
  cases T with
  | none =>
    obtain rfl : x = .slice none 0 0 := hx
    exact ⟨v, w, run_append_owned_none (P := Yba.prog) (w := w) base 23 ty 5 i 1 Yba.underlying23 hi v _ _ ho, ⟨ys, ho, hb, hn⟩, Below.refl _ _⟩
  | some zs =>
    obtain ⟨ad, c, rfl, hc, ha⟩ := hx
    have hnews : ∀ j u, (zs.map (Value.int .u8))[j]? = some u → w.cell? (ad.add j) = some u := by
      intro j u hj
      simp only [List.getElem?_map, Option.map_eq_some_iff] at hj
      obtain ⟨z, hz, rfl⟩ := hj
      obtain ⟨hj', hz'⟩ := List.getElem?_eq_some_iff.1 hz
      rw [(ha (by omega)).2.2 j hj', List.getD_eq_getElem?_getD, hz]; rfl
    simp only [olen] at hlim ⊢
    obtain ⟨v', w', hr, r1, r2, _⟩ := run_append_own (P := Yba.prog) w base 23 ty 5 i (.int .u8 0) 1 1 Yba.underlying23 hi h0 h1 h2 rfl (by decide) v ys.length _ ho ad zs.length c (zs.map (Value.int .u8)) (by simp) hnews (by simp [Value.oneCell']) (by unfold maxLen; omega) (by omega) hbase
    refine ⟨v', w', hr, ⟨ys ++ zs, by simpa [List.map_append] using r1, hb.append (hT zs rfl), by simp; omega⟩, (Below.refl _ _).grown r2 hbase (fun k hk => (World.ownsRow.lt ho k hk).1)⟩

theorem wpList_append_buf {w : World} {ops : Array Oper} {rest : List Oper} {o : Oper} {a : Act} {Q : Exit → Act → World → Prop} (hgd : o.guard = none) (s x : Operand)
    (ho : o.op = .call { callee := .builtin .append, args := #[s, x], argTypes := #[23, 23] }) (base : Nat) (v : Value) (n : Nat) (hs : a.eval s = v) (hown : Buf w base v n)
    (u : Value) (T : Option (List Int)) (bad : Nat → Prop) (hu : a.eval x = u) (hx : Rd w u T bad) (hT : BytesT T) (hlim : n + olen T ≤ 140737488355328) (hbase : base ≤ w.heap.size)
    (h : ∀ v' w', Buf w' base v' (n + olen T) → Below base w w' → wpList Yba.prog ops Q rest (a.put o.dst v') w') : wpList Yba.prog ops Q (o :: rest) a w := by
  obtain ⟨v', w', hr, h1, h2⟩ := run_append_buf o.type base v n hown u T bad hx hT hlim hbase
  refine wpList_plain hgd fun K hK => ?_
  unfold Oper.wp
  simp [execOp, ho, resolve, invoke, builtin, hs, hu, hr, Result.andThen]
  exact hK _ _ (h v' w' h1 h2)
theorem step_append_buf {w : World} {ops : Array Oper} {o : Oper} {a : Act} {K : Act → World → Prop} {Q : Exit → Act → World → Prop} {E : Prop} (hgd : o.guard = none) (s x : Operand)
    (ho : o.op = .call { callee := .builtin .append, args := #[s, x], argTypes := #[23, 23] }) (base : Nat) (v : Value) (n : Nat) (hs : a.eval s = v) (hown : Buf w base v n)
    (u : Value) (T : Option (List Int)) (bad : Nat → Prop) (hu : a.eval x = u) (hx : Rd w u T bad) (hT : BytesT T) (hlim : n + olen T ≤ 140737488355328) (hbase : base ≤ w.heap.size)
    (h : ∀ v' w', Buf w' base v' (n + olen T) → Below base w w' → K (a.put o.dst v') w') : if Region.wanted o (yielded ops a.tmps) = true then Oper.wp Yba.prog o a w K Q else E := by
  have hw : Region.wanted o (yielded ops a.tmps) = true := by simp [Region.wanted, hgd]
  rw [if_pos hw]
  obtain ⟨v', w', hr, h1, h2⟩ := run_append_buf o.type base v n hown u T bad hx hT hlim hbase
  unfold Oper.wp
  simp [execOp, ho, resolve, invoke, builtin, hs, hu, hr, Result.andThen]
  exact h v' w' h1 h2

/-- A literal's block. -/
theorem lit_rd (w : World) (zs : List Int) (bad : Nat → Prop) (hbad : ∀ k, w.heap.size ≤ k → ¬ bad k) (cs : Array Value) (hc : cs = (zs.map (Value.int .u8)).toArray) : Rd (w.alloc (.cells cs 5)) (.slice (some ⟨w.heap.size, 0, none⟩) zs.length zs.length) (some zs) bad := by
  subst hc
  refine ⟨_, _, rfl, Nat.le_refl _, fun h0 => ⟨by simp, hbad _ (Nat.le_refl _), fun j hj => ?_⟩⟩
  have hadd : (⟨w.heap.size, 0, none⟩ : Addr).add j = ⟨w.heap.size, j, none⟩ := by unfold Addr.add; split <;> simp_all
  rw [hadd, cell_of_row _ _ j _ 5 (0, 0) (heap_alloc_new w _)]
  simp [hj]
theorem lit_buf (w : World) (base : Nat) (zs : List Int) (hb : Bytes zs) (hbase : base ≤ w.heap.size) (hl : zs.length ≤ 1000) (cs : Array Value) (hc : cs = (zs.map (Value.int .u8)).toArray) : Buf (w.alloc (.cells cs 5)) base (.slice (some ⟨w.heap.size, 0, none⟩) zs.length zs.length) zs.length := by
  subst hc
  refine ⟨zs, ⟨by simp, .inr ⟨w.heap.size, zs.length, _, rfl, hbase, heap_alloc_new w _, Nat.le_refl _, by unfold maxLen; omega, by simp, ?_⟩⟩, hb, rfl⟩
  simp [List.take_of_length_le]
theorem wrap8 (z : Int) : 0 ≤ IntKind.u8.wrap z ∧ IntKind.u8.wrap z ≤ 255 := by
  have : IntKind.u8.wrap z = z % 256 := by simp [IntKind.wrap, IntKind.signed, IntKind.bits]
  omega
theorem byte_cons {z : Int} {zs : List Int} (h : 0 ≤ z ∧ z ≤ 255) (hs : Bytes zs) : Bytes (z :: zs) := fun y hy => by
  rcases List.mem_cons.1 hy with rfl | hy
  · exact h
  · exact hs y hy
theorem byte_nil : Bytes [] := fun y hy => by simp at hy
theorem BytesT.mk {xs : List Int} (h : Bytes xs) : BytesT (some xs) := fun ys e => by cases e; exact h

theorem made_pairs (n : Nat) : (madeCells #[Value.int .u16 0, .slice none 0 0] (n * 2)).toList = flat (List.replicate n ((0 : Int), Value.slice none 0 0)) := by
  apply List.ext_getElem?
  intro j
  by_cases hj : j < n * 2
  · have hk : (List.replicate n ((0 : Int), Value.slice none 0 0))[j / 2]? = some (0, .slice none 0 0) := by rw [List.getElem?_replicate, if_pos (by omega)]
    obtain ⟨f0, f1⟩ := flat_get _ _ _ hk
    have e1 : (madeCells #[Value.int .u16 0, .slice none 0 0] (n * 2)).toList[j]? = some (#[Value.int .u16 0, .slice none 0 0][j % 2]!) := by simp [madeCells, hj]
    rw [e1]
    rcases Nat.mod_two_eq_zero_or_one j with h | h
    · rw [show 2 * (j / 2) = j by omega] at f0; rw [f0, h]; rfl
    · rw [show 2 * (j / 2) + 1 = j by omega] at f1; rw [f1, h]; rfl
  · rw [List.getElem?_eq_none (by simp [size_madeCells]; omega), List.getElem?_eq_none (by rw [flat_length]; simp; omega)]
theorem wpList_make_pairs {w : World} {ops : Array Oper} {rest : List Oper} {o : Oper} {a : Act} {Q : Exit → Act → World → Prop}
    (hg : o.guard = none) (l c : Operand) (hop : o.op = Op.makeSlice 31 l c) (L C : Int) (n : Nat) (hl : a.eval l = .int .i64 L) (hc : a.eval c = .int .i64 C) (hL : L = (n : Int)) (hC : C = (n : Int)) (hn : n ≤ 1048576)
    (hK : ∀ w', Blk w' w.heap.size (flat (List.replicate n ((0 : Int), Value.slice none 0 0))) 33 → Below w.heap.size w w' → wpList Yba.prog ops Q rest (a.put o.dst (.slice (some ⟨w.heap.size, 0, none⟩) n n)) w') :
    wpList Yba.prog ops Q (o :: rest) a w := by
  obtain ⟨i, hi, h0, h1, h2⟩ := info_parts Yba.info33
  refine wpList_make_full w hg l c 31 hop 0 33 i _ 2 Yba.underlying31 hi h0 h1 .i64 .i64 L C n hl hc hL hC (by rw [h2]; omega) (by unfold maxLen; omega) (Nat.zero_le _) ?_
  intro w' hown hgr
  refine hK w' ?_ ((Below.refl _ _).grown hgr (Nat.le_refl _) (by simp))
  obtain ⟨_, h | ⟨g, cap, cur, hv, _, hh, _, _, hcs, hct⟩⟩ := hown
  · exact absurd h.1 (by simp)
  · simp only [Value.slice.injEq, Option.some.injEq, Addr.mk.injEq] at hv
    obtain ⟨⟨rfl, _⟩, _, rfl⟩ := hv
    unfold Blk
    rw [hh]
    have e : cur.toList = flat (List.replicate n ((0 : Int), Value.slice none 0 0)) := by
      rw [← made_pairs, ← show (Value.agg #[Value.int .u16 0, .slice none 0 0]).cells = #[Value.int .u16 0, .slice none 0 0] from rfl, ← hct, List.take_of_length_le (by simp; omega)]
    rw [← e]
end Go.Proofs.Ybulkdrkk
