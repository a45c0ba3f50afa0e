/-
  Slices of extensions; the two sets of types seen (flags, words of bits); the great zero values; append of one extension.
-/
import Derived.Test.YbulkdrkkVec
namespace Go.Proofs.Ybulkdrkk
open Go.RowKit
set_option linter.unusedVariables false

def isZ : Value → Bool
  | .int .u64 0 => true
  | _ => false
def isF : Value → Bool
  | .bool false => true
  | _ => false
noncomputable def chk (p : Value → Bool) (N : Nat) (l : List Value) : Nat → Bool :=
  List.rec (motive := fun _ => Nat → Bool) (fun n => Nat.beq n N) (fun v _ ih n => cond (p v) (cond (Nat.ble n N) (ih (n + 1)) false) false) l
noncomputable def chkT (p : Value → Bool) (N : Nat) (t : TypeInfo) : Bool :=
  match t.zero with
  | some (.agg cs) => chk p N cs.toList 0
  | _ => false
theorem z56 : chkT isZ 1024 Yba.t56 = true := by kernel_rfl
theorem z44 : chkT isF 65536 Yba.t44 = true := by kernel_rfl
theorem chk_all (p : Value → Bool) (N : Nat) : ∀ (l : List Value) (n : Nat), chk p N l n = true → l.length + n = N ∧ ∀ v ∈ l, p v = true
  | [], n, h => by
    have : n = N := Nat.eq_of_beq_eq_true h
    simp [this]
  | v :: l, n, h => by
    have h' : cond (p v) (cond (Nat.ble n N) (chk p N l (n + 1)) false) false = true := h
    cases hp : p v with
    | false => rw [hp] at h'; cases h'
    | true =>
      cases hn : Nat.ble n N with
      | false => rw [hp, hn] at h'; cases h'
      | true =>
        rw [hp, hn] at h'
        obtain ⟨h1, h2⟩ := chk_all p N l (n + 1) h'
        refine ⟨by simp; omega, fun u hu => ?_⟩
        rcases List.mem_cons.1 hu with rfl | hu
        · exact hp
        · exact h2 u hu
theorem isZ_eq (v : Value) (h : isZ v = true) : v = .int .u64 0 := by
  unfold isZ at h; split at h <;> simp_all
theorem isF_eq (v : Value) (h : isF v = true) : v = .bool false := by
  unfold isF at h; split at h <;> simp_all
theorem zero_of (p : Value → Bool) (N : Nat) (t : TypeId) (ti : TypeInfo) (ht : ∀ w, (typeInfo t).run Yba.prog w = .ok ti w) (hc : chkT p N ti = true) :
    ∃ cs : List Value, cs.length = N ∧ (∀ v ∈ cs, p v = true) ∧ ∀ w, (zeroValue t).run Yba.prog w = .ok (.agg cs.toArray) w := by
  unfold chkT at hc
  split at hc
  · rename_i cs hz
    obtain ⟨h1, h2⟩ := chk_all p N cs.toList 0 hc
    refine ⟨cs.toList, by simpa using h1, h2, fun w => ?_⟩
    simp [zeroValue, ht, hz, Result.andThen]
  · cases hc
theorem zero56 : ∃ cs : List Value, cs.length = 1024 ∧ (∀ v ∈ cs, v = .int .u64 0) ∧ ∀ w, (zeroValue 56).run Yba.prog w = .ok (.agg cs.toArray) w := by
  obtain ⟨cs, h1, h2, h3⟩ := zero_of isZ 1024 56 Yba.t56 Yba.typeInfo56 z56
  exact ⟨cs, h1, fun v hv => isZ_eq v (h2 v hv), h3⟩
theorem zero44 : ∃ cs : List Value, cs.length = 65536 ∧ (∀ v ∈ cs, v = .bool false) ∧ ∀ w, (zeroValue 44).run Yba.prog w = .ok (.agg cs.toArray) w := by
  obtain ⟨cs, h1, h2, h3⟩ := zero_of isF 65536 44 Yba.t44 Yba.typeInfo44 z44
  exact ⟨cs, h1, fun v hv => isF_eq v (h2 v hv), h3⟩

/-- Is an extension of type t among them? -/
def has (acc : List Ext) (t : Int) : Bool := acc.any (fun p => p.1 == t)
theorem has_add (acc : List Ext) (t u : Int) (d : Option (List Int)) : has (acc ++ [(t, d)]) u = (has acc u || (t == u)) := by simp [has]
/-- The flags of the types seen. -/
def FlagsIs (cs : List Value) (acc : List Ext) : Prop := cs.length = 65536 ∧ ∀ j, j < 65536 → cs[j]? = some (.bool (has acc (j : Nat)))
theorem FlagsIs.start {cs : List Value} (h1 : cs.length = 65536) (h2 : ∀ v ∈ cs, v = .bool false) : FlagsIs cs [] := by
  refine ⟨h1, fun j hj => ?_⟩
  rw [List.getElem?_eq_getElem (by omega), h2 _ (List.getElem_mem _)]
  rfl
theorem FlagsIs.add {cs : List Value} {acc : List Ext} (h : FlagsIs cs acc) (t : Nat) (ht : t < 65536) (d : Option (List Int)) : FlagsIs (cs.set t (.bool true)) (acc ++ [((t : Int), d)]) := by
  refine ⟨by simpa using h.1, fun j hj => ?_⟩
  rw [has_add, List.getElem?_set]
  by_cases e : t = j
  · subst e; simp [h.1, ht]
  · rw [if_neg e, h.2 j hj]
    have : ((t : Int) == (j : Int)) = false := by simp; omega
    rw [this, Bool.or_false]
/-- The bits of the types seen. -/
def BitsIs (cs : List Value) (acc : List Ext) : Prop := cs.length = 1024 ∧ ∀ j, j < 1024 → ∃ x : Nat, cs[j]? = some (.int .u64 x) ∧ x < 2 ^ 64 ∧ ∀ b, b < 64 → x.testBit b = has acc ((64 * j + b : Nat) : Int)
theorem BitsIs.start {cs : List Value} (h1 : cs.length = 1024) (h2 : ∀ v ∈ cs, v = .int .u64 0) : BitsIs cs [] := by
  refine ⟨h1, fun j hj => ⟨0, ?_, by decide, fun b _ => by simp [has]⟩⟩
  rw [List.getElem?_eq_getElem (by omega), h2 _ (List.getElem_mem _)]
  rfl
theorem BitsIs.add {cs : List Value} {acc : List Ext} (h : BitsIs cs acc) (t x : Nat) (ht : t < 65536) (hx : cs[t / 64]? = some (.int .u64 x)) (d : Option (List Int)) : BitsIs (cs.set (t / 64) (.int .u64 ((x ||| 2 ^ (t % 64) : Nat) : Int))) (acc ++ [((t : Int), d)]) := by
  refine ⟨by simpa using h.1, fun j hj => ?_⟩
  obtain ⟨y, hy, hy1, hy2⟩ := h.2 j hj
  rw [List.getElem?_set]
  by_cases e : t / 64 = j
  · rw [e] at hx
    rw [hx] at hy
    simp only [Option.some.injEq, Value.int.injEq, true_and, Int.ofNat_inj] at hy
    subst hy
    rw [if_pos e, if_pos (by rw [h.1]; omega)]
    refine ⟨_, rfl, Nat.or_lt_two_pow hy1 (Nat.pow_lt_pow_right (by decide) (Nat.mod_lt _ (by decide))), fun b hb => ?_⟩
    rw [Nat.testBit_or, hy2 b hb, has_add, Nat.testBit_two_pow]
    congr 1
    by_cases e2 : t % 64 = b
    · have : t = 64 * j + b := by omega
      simp [this]; omega
    · have : ¬ ((t : Int) = ((64 * j + b : Nat) : Int)) := by omega
      simp only [e2, decide_false]
      symm
      simpa using this
  · rw [if_neg e]
    refine ⟨y, hy, hy1, fun b hb => ?_⟩
    rw [hy2 b hb, has_add]
    have : ((t : Int) == ((64 * j + b : Nat) : Int)) = false := by simp; omega
    rw [this, Bool.or_false]

/-- The cells of pairs. -/
def flat : List (Int × Value) → List Value
  | [] => []
  | p :: ps => .int .u16 p.1 :: p.2 :: flat ps
theorem flat_length : ∀ ds : List (Int × Value), (flat ds).length = ds.length * 2
  | [] => rfl
  | p :: ps => by simp [flat, flat_length ps]; omega
theorem flat_append : ∀ (ds es : List (Int × Value)), flat (ds ++ es) = flat ds ++ flat es
  | [], es => rfl
  | p :: ps, es => by simp [flat, flat_append ps es]
theorem flat_get : ∀ (ds : List (Int × Value)) (j : Nat) (p : Int × Value), ds[j]? = some p → (flat ds)[2 * j]? = some (.int .u16 p.1) ∧ (flat ds)[2 * j + 1]? = some p.2
  | [], j, p, h => by simp at h
  | q :: qs, 0, p, h => by simp at h; subst h; exact ⟨rfl, rfl⟩
  | q :: qs, j + 1, p, h => by
    have := flat_get qs j p (by simpa using h)
    simpa [flat, Nat.mul_add] using this
/-- The pairs ds read as es. -/
def EsIs (w : World) (ds : List (Int × Value)) (es : List Ext) (bad : Nat → Prop) : Prop := ds.length = es.length ∧ ∀ (j : Nat) (d : Int × Value) (e : Ext), ds[j]? = some d → es[j]? = some e → d.1 = e.1 ∧ Rd w d.2 e.2 bad
theorem EsIs.kept {w w' : World} {ds : List (Int × Value)} {es : List Ext} {bad : Nat → Prop} {S : List Nat} (h : EsIs w ds es bad) (hk : Kp w w' S) (hs : ∀ k ∈ S, k < w.heap.size → bad k) : EsIs w' ds es bad :=
  ⟨h.1, fun j d e hd he => ⟨(h.2 j d e hd he).1, (h.2 j d e hd he).2.kept hk hs⟩⟩
theorem EsIs.add {w : World} {ds : List (Int × Value)} {es : List Ext} {bad : Nat → Prop} (h : EsIs w ds es bad) (t : Int) (v : Value) (T : Option (List Int)) (hr : Rd w v T bad) : EsIs w (ds ++ [(t, v)]) (es ++ [(t, T)]) bad := by
  refine ⟨by simp [h.1], fun j d e hd he => ?_⟩
  rw [List.getElem?_append] at hd he
  by_cases hj : j < ds.length
  · rw [if_pos hj] at hd
    rw [if_pos (by rw [← h.1]; exact hj)] at he
    exact h.2 j d e hd he
  · rw [if_neg hj] at hd
    rw [if_neg (by rw [← h.1]; exact hj)] at he
    rw [← h.1] at he
    cases hk : j - ds.length with
    | zero =>
      rw [hk] at hd he
      simp at hd he
      subst hd; subst he
      exact ⟨rfl, hr⟩
    | succ k => rw [hk] at hd; simp at hd
/-- What a slice of extensions reads as. -/
def XRd (w : World) (v : Value) (X : Option (List Ext)) (bad : Nat → Prop) : Prop :=
  match X with
  | none => v = .slice none 0 0
  | some es => ∃ ad cap, v = .slice (some ad) es.length cap ∧ es.length ≤ cap ∧ (0 < es.length → ∃ b o, ad = ⟨b, o, none⟩ ∧ b < w.heap.size ∧ ¬ bad b ∧
      ∀ (j : Nat) (e : Ext), es[j]? = some e → w.cell? ⟨b, o + 2 * j, none⟩ = some (.int .u16 e.1) ∧ ∃ d, w.cell? ⟨b, o + 2 * j + 1, none⟩ = some d ∧ Rd w d e.2 bad)
theorem XRd.kept {w w' : World} {v : Value} {X : Option (List Ext)} {bad : Nat → Prop} {S : List Nat} (h : XRd w v X bad) (hk : Kp w w' S) (hs : ∀ k ∈ S, k < w.heap.size → bad k) : XRd w' v X bad := by
  cases X with
  | none => exact h
  | some es =>
    obtain ⟨ad, cap, e, hc, h⟩ := h
    refine ⟨ad, cap, e, hc, fun h0 => ?_⟩
    obtain ⟨b, o, rfl, h1, h2, h3⟩ := h h0
    have hbl : w'.heap[b]? = w.heap[b]? := hk.block b h1 (fun e => h2 (hs b e h1))
    refine ⟨b, o, rfl, Nat.lt_of_lt_of_le h1 hk.size, h2, fun j e he => ?_⟩
    obtain ⟨h4, d, h5, h6⟩ := h3 j e he
    exact ⟨(World.cell?_of_block (by exact hbl)).trans h4, d, (World.cell?_of_block (by exact hbl)).trans h5, h6.kept hk hs⟩
theorem XRd.grown {w w' : World} {v : Value} {X : Option (List Ext)} {bad : Nat → Prop} (h : XRd w v X bad) (hb : Below w.heap.size w w') : XRd w' v X bad := h.kept (Kp.ofBelow hb []) (by simp)
theorem XRd.rebad {w : World} {v : Value} {X : Option (List Ext)} {bad bad' : Nat → Prop} (h : XRd w v X bad) (hg : ∀ k, k < w.heap.size → bad' k → bad k) : XRd w v X bad' := by
  cases X with
  | none => exact h
  | some es =>
    obtain ⟨ad, cap, e, hc, h⟩ := h
    refine ⟨ad, cap, e, hc, fun h0 => ?_⟩
    obtain ⟨b, o, rfl, h1, h2, h3⟩ := h h0
    refine ⟨b, o, rfl, h1, fun e => h2 (hg b h1 e), fun j e he => ?_⟩
    obtain ⟨h4, d, h5, h6⟩ := h3 j e he
    exact ⟨h4, d, h5, h6.rebad hg⟩
/-- A slice of extensions that the call builds, of its own from block base on. -/
def XOwn (w : World) (base : Nat) (te : TypeId) (v : Value) (es : List Ext) (bad : Nat → Prop) : Prop := ∃ ds, w.ownsRow base te 2 v es.length (flat ds) ∧ EsIs w ds es bad ∧ (es = [] → v = .slice none 0 0)
theorem XOwn.nil (w : World) (base : Nat) (te : TypeId) (bad : Nat → Prop) : XOwn w base te (.slice none 0 0) [] bad :=
  ⟨[], World.ownsRow_nil w base te 2, ⟨rfl, fun j d e h => by simp at h⟩, fun _ => rfl⟩
theorem XOwn.kept {w w' : World} {base : Nat} {te : TypeId} {v : Value} {es : List Ext} {bad : Nat → Prop} {S : List Nat} (h : XOwn w base te v es bad) (hk : Kp w w' S) (hs : ∀ k ∈ S, k < w.heap.size → bad k ∧ ¬ v.ownBlock = some k) : XOwn w' base te v es bad := by
  obtain ⟨ds, h1, h2, h3⟩ := h
  refine ⟨ds, ?_, h2.kept hk (fun k hk' hl => (hs k hk' hl).1), h3⟩
  have h1' := h1
  obtain ⟨h4, h5 | ⟨g, cap, cur, rfl, h6, h7, h8⟩⟩ := h1
  · exact ⟨h4, .inl h5⟩
  · refine ⟨h4, .inr ⟨g, cap, cur, rfl, h6, ?_, h8⟩⟩
    rw [hk.block g (lt_of_block h7) (fun e => (hs g e (lt_of_block h7)).2 rfl)]
    exact h7
theorem XOwn.read {w : World} {base : Nat} {te : TypeId} {v : Value} {es : List Ext} {bad bad' : Nat → Prop} (h : XOwn w base te v es bad) (h1 : ∀ k, k < w.heap.size → bad' k → bad k) (h2 : ∀ k, base ≤ k → ¬ bad' k) : XRd w v (if es = [] then none else some es) bad' := by
  obtain ⟨ds, ⟨h4, h5 | ⟨g, cap, cur, rfl, h6, h7, h8, h9, h10, h11⟩⟩, he, hn⟩ := h
  · rw [if_pos (List.eq_nil_of_length_eq_zero h5.2)]
    exact h5.1
  · by_cases h0 : es = []
    · rw [if_pos h0]; exact hn h0
    · rw [if_neg h0]
      refine ⟨_, cap, rfl, h8, fun _ => ⟨g, 0, rfl, lt_of_block h7, h2 g h6, fun j e hj => ?_⟩⟩
      have hjl : j < es.length := by
        rcases Nat.lt_or_ge j es.length with h | h
        · exact h
        · rw [List.getElem?_eq_none h] at hj; cases hj
      have hjd : j < ds.length := by rw [he.1]; exact hjl
      obtain ⟨f0, f1⟩ := flat_get ds j ds[j] (List.getElem?_eq_getElem hjd)
      obtain ⟨e1, e2⟩ := he.2 j ds[j] e (List.getElem?_eq_getElem hjd) hj
      have cell : ∀ i u, i < es.length * 2 → (flat ds)[i]? = some u → w.cell? ⟨g, i, none⟩ = some u := by
        intro i u hi hu
        rw [cell_of_row w g i cur te (0, 0) h7, ← Array.getElem?_toList, ← hu, ← h11, List.getElem?_take_of_lt hi]
      refine ⟨?_, ds[j].2, ?_, e2.rebad h1⟩
      · rw [Nat.zero_add, ← e1]; exact cell (2 * j) _ (by omega) f0
      · rw [Nat.zero_add]; exact cell (2 * j + 1) _ (by omega) f1

theorem Yba.info33 : (Yba.prog.info? 33).map (fun i => (i.zero, i.size, i.bytes)) = some (some (.agg #[.int .u16 0, .slice none 0 0]), 2, 32) := by kernel_rfl
theorem Yba.info28 : (Yba.prog.info? 28).map (fun i => (i.zero, i.size, i.bytes)) = some (some (.agg #[.int .u16 0, .slice none 0 0]), 2, 32) := by kernel_rfl

theorem wpList_append_pair {w : World} {ops : Array Oper} {rest : List Oper} {o : Oper} {a : Act} {Q : Exit → Act → World → Prop} (hgd : o.guard = none) (s x : Operand) (t te : TypeId) (hu : Yba.prog.underlying t = some (.slice te)) (hinfo : (Yba.prog.info? te).map (fun i => (i.zero, i.size, i.bytes)) = some (some (.agg #[.int .u16 0, .slice none 0 0]), 2, 32))
    (ho : o.op = .call { callee := .builtin .append, args := #[s, x], argTypes := #[t, t] }) (base : Nat) (v : Value) (es : List Ext) (bad : Nat → Prop) (hs : a.eval s = v) (hown : XOwn w base te v es bad)
    (g c : Nat) (ty : Int) (d : Value) (T : Option (List Int)) (hx : a.eval x = .slice (some ⟨g, 0, none⟩) 1 c) (hc0 : w.cell? ⟨g, 0, none⟩ = some (.int .u16 ty)) (hc1 : w.cell? ⟨g, 1, none⟩ = some d) (hd : Rd w d T bad)
    (hlim : es.length < 1099511627776) (hbase : base ≤ w.heap.size) (hbad : ∀ k, base ≤ k → bad k)
    (h : ∀ v' w', XOwn w' base te v' (es ++ [(ty, T)]) bad → Kp w w' (v.ownBlock.toList) → (∀ k ∈ v.ownBlock.toList, base ≤ k) → wpList Yba.prog ops Q rest (a.put o.dst v') w') : wpList Yba.prog ops Q (o :: rest) a w := by
  obtain ⟨i, hi, h0, h1, h2⟩ := info_parts hinfo
  obtain ⟨ds, ho1, ho2, ho3⟩ := hown
  have h1c : d.oneCell' = true := by obtain ⟨_, _, _, rfl, _⟩ := hd.shape; rfl
  have h1s : ∀ u ∈ [Value.int .u16 ty, d], u.oneCell' = true := by
    intro u hu
    rcases List.mem_cons.1 hu with rfl | hu
    · rfl
    · obtain rfl := List.mem_singleton.1 hu; exact h1c
  refine wpList_append_own w hgd s x t ho base te i _ 2 32 hu hi h0 h1 h2 rfl (by decide) v es.length (flat ds) hs ho1 ⟨g, 0, none⟩ 1 c [.int .u16 ty, d] hx rfl ?_ h1s (by unfold maxLen; omega) (by omega) hbase ?_
  · intro j u hj
    have hadd : (⟨g, 0, none⟩ : Addr).add j = ⟨g, j, none⟩ := by unfold Addr.add; split <;> simp_all
    rw [hadd]
    match j, hj with
    | 0, hj => simp at hj; subst hj; exact hc0
    | 1, hj => simp at hj; subst hj; exact hc1
  · intro v' w' hown' hgr hnil
    have hS : ∀ k ∈ v.ownBlock.toList, base ≤ k := fun k hk => (World.ownsRow.lt ho1 k (by simpa using hk)).1
    have hk : Kp w w' v.ownBlock.toList := Kp.ofGb hgr _ (fun k hk _ => by simp [hk])
    refine h v' w' ⟨ds ++ [(ty, d)], ?_, ?_, fun e => by simp at e⟩ hk hS
    · rw [flat_append]; simpa [flat] using hown'
    · have := (ho2.add ty d T hd).kept hk (fun k hk' _ => hbad k (hS k hk'))
      exact this
end Go.Proofs.Ybulkdrkk
