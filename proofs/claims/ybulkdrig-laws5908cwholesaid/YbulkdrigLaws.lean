/-
  make and copy over rows of bytes of the call's own, as laws for the walk; what the header must read in the end.
-/
import Derived.Test.YbulkdrigFinish
namespace Go.Proofs.Ybulkdrig
open Go.RowKit
set_option linter.unusedVariables false

theorem Yba.info5 : (Yba.prog.info? 5).map (fun i => (i.zero, i.size, i.bytes)) = some (some (.int .u8 0), 1, 1) := by kernel_rfl
theorem Yba.size5 : (Yba.prog.info? 5).map (·.size) = some 1 := by kernel_rfl

theorem wpList_make_row {w : World} {ops : Array Oper} {rest : List Oper} {o : Oper} {a : Act} {Q : Exit → Act → World → Prop}
    (hg : o.guard = none) (l c : Operand) (hop : o.op = Op.makeSlice 22 l c) (L C : Int) (n : Nat) (hl : a.eval l = .int .i64 L) (hc : a.eval c = .int .i64 C) (hL : L = (n : Int)) (hC : C = (n : Int)) (hn : n ≤ 140737488351232)
    (hK : ∀ w' ys, Hid (ys = List.replicate n 0) → Row w' w.heap.size ys → w.grownBy w' none → wpList Yba.prog ops Q rest (a.put o.dst (.slice (some ⟨w.heap.size, 0, none⟩) n n)) w') :
    wpList Yba.prog ops Q (o :: rest) a w := by
  obtain ⟨i, hi, h0, h1, h2⟩ := info_parts Yba.info5
  refine wpList_make_full w hg l c 22 hop 0 5 i (.int .u8 0) 1 Yba.underlying22 hi h0 h1 .i64 .i64 L C n hl hc hL hC (by rw [h2]; omega) (by unfold maxLen; omega) (Nat.zero_le _) ?_
  intro w' hown hgr
  refine hK w' _ rfl ?_ hgr
  obtain ⟨_, h | ⟨g, cap, cur, hv, _, hh, _, _, hcs, hct⟩⟩ := hown
  · exact absurd h.1 (by simp)
  · simp only [Value.slice.injEq, Option.some.injEq, Addr.mk.injEq] at hv
    obtain ⟨⟨rfl, _⟩, _, rfl⟩ := hv
    unfold Row
    rw [hh]
    have e : cur.toList = List.replicate n (Value.int .u8 0) := by
      have := toList_madeCells_one (Value.int .u8 0) n
      rw [Nat.mul_one] at hct hcs
      rw [show (Value.int IntKind.u8 0).cells = #[Value.int .u8 0] from rfl, this] at hct
      rw [← hct, List.take_of_length_le (by simp; omega)]
    have e2 : cur = (List.replicate n (Value.int .u8 0)).toArray := by rw [← e]
    rw [e2]
    simp

theorem gb_setRow {w : World} (g : Nat) (cs : Array Value) : w.grownBy (w.setRow g cs) (some g) :=
  ⟨rfl, rfl, rfl, by simp [World.setRow], fun k _ hne => setRow_other w g k cs (fun e => hne (by rw [e]))⟩

theorem wpList_copy_row {w : World} {ops : Array Oper} {rest : List Oper} {o : Oper} {a : Act} {Q : Exit → Act → World → Prop} (hgd : o.guard = none) (d s : Operand)
    (ho : o.op = .call { callee := .builtin .copy, args := #[d, s], argTypes := #[22, 22] }) (g dLen dCap : Nat) (sp : Option Addr) (sLen sCap : Nat)
    (hd : a.eval d = .slice (some ⟨g, 0, none⟩) dLen dCap) (hs : a.eval s = .slice sp sLen sCap) (zs cs : List Int) (hr : Row w g zs) (hz : dLen ≤ zs.length) (hn : cs.length = Nat.min sLen dLen)
    (hsrc : 0 < cs.length → ∃ ad, sp = some ad ∧ ∀ j, j < cs.length → w.cell? (ad.add j) = some (.int .u8 (cs.getD j 0)))
    (h : ∀ w' ys, Hid (ys = cs ++ zs.drop cs.length) → Row w' g ys → w.grownBy w' (some g) → wpList Yba.prog ops Q rest (a.put o.dst (goInt cs.length)) w') : wpList Yba.prog ops Q (o :: rest) a w := by
  by_cases h0 : cs.length = 0
  · obtain rfl : cs = [] := List.eq_nil_of_length_eq_zero h0
    exact wpList_copy_nothing hgd d s 22 22 ho 5 Yba.underlying22 Yba.size5 _ sp dLen dCap sLen sCap hd hs (by simpa using hn.symm) (h w zs (by show _ = _; simp) hr (gb_refl _ _))
  · obtain ⟨ad, rfl, hc⟩ := hsrc (by omega)
    have hle : cs.length ≤ zs.length := by have : Nat.min sLen dLen ≤ dLen := Nat.min_le_right sLen dLen; omega
    refine wpList_copy_own hgd d s 22 22 ho 5 Yba.underlying22 Yba.size5 g 0 dLen dCap ad sLen sCap hd hs _ 5 hr (cs.map (Value.int .u8)) (by simpa using hn) ?_ (by simp; omega) (by simp [Value.oneCell']) ?_
    · intro j v hj
      simp only [List.getElem?_map, Option.map_eq_some_iff] at hj
      obtain ⟨x, hx, rfl⟩ := hj
      obtain ⟨hj', hx'⟩ := List.getElem?_eq_some_iff.1 hx
      rw [hc j hj', List.getD_eq_getElem?_getD, hx]; rfl
    · simp only [List.length_map]
      refine h _ _ rfl ?_ (gb_setRow g _)
      unfold Row
      rw [setRow_heap w g _ _ 5 _ hr]
      simp

/-- A guard: the next operation is a copy. -/
theorem at_copy {P : Program} {ops : Array Oper} {Q : Exit → Act → World → Prop} {dst : Option Nat} {args : Array Operand} {ats : Array TypeId} {ty : TypeId} {pos : String} {after : Array Edge} {g : Option (Nat × Bool)} {rest : List Oper} {a : Act} {w : World}
    (h : wpList P ops Q (⟨dst, .call { callee := .builtin .copy, args := args, argTypes := ats }, ty, pos, after, g⟩ :: rest) a w) :
    wpList P ops Q (⟨dst, .call { callee := .builtin .copy, args := args, argTypes := ats }, ty, pos, after, g⟩ :: rest) a w := h


theorem after_copy {N : Nat} {xs y1 y2 : List Int} (hy1 : Hid (y1 = List.replicate N 0)) (hx : xs.length ≤ N) (hy2 : Hid (y2 = xs ++ y1.drop xs.length)) (hby : Bytes xs) : y2.length = N ∧ Bytes y2 := by
  have e1 := hy1.out
  have e2 := hy2.out
  subst e1; subst e2
  refine ⟨by simp; omega, ?_⟩
  intro z hz
  rcases List.mem_append.1 hz with h | h
  · exact hby z h
  · have := List.mem_of_mem_drop h
    rw [List.mem_replicate] at this
    omega

/-- The header as the law's model has it. -/
def model (v6 : Bool) (zs : List Int) (n : Int) (N M : Nat) : List Int :=
  if v6 = true then put2 zs 4 ((n - N) % 65536) else put2 (put2 zs 2 (n % 65536)) 10 (65535 - canon (wsum (put2 zs 2 (n % 65536)) M))

theorem finish (v6 : Bool) (tp : Value) (g N M : Nat) (n : Int) (zs : List Int) (w : World) (hr : Row w g zs) (hN : zs.length = N) (hNM : N = 2 * M) (h12 : 12 ≤ N) (hM : N ≤ 65536) (hby : Bytes zs) (h6 : v6 = true ↔ zs.getD 0 0 / 16 = 6) :
    Calls Yba.prog 6 #[tp, .slice (some ⟨g, 0, none⟩) N N, .int .i64 n] w fun e w' => e = .returned (.tuple #[]) ∧ Row w' g (model v6 zs n N M) ∧ w.grownBy w' (some g) := by
  cases v6 with
  | true => exact finish6 tp g N n zs w hr hN h12 hM (h6.1 rfl)
  | false => exact finish4 tp g N M n zs w hr hN hNM h12 hM hby (fun h => by have := h6.2 h; simp at this)

theorem below_of_gb {w w' : World} {row : Option Nat} (h : w.grownBy w' row) (hr : ∀ k, row = some k → w.heap.size ≤ k) : Below w.heap.size w w' :=
  (Below.refl _ _).grown h (Nat.le_refl _) hr
theorem below_gb {B : Nat} {a w w' : World} {row : Option Nat} (hb : Below B a w) (h : w.grownBy w' row) (hB : B ≤ w.heap.size) (hr : ∀ k, row = some k → B ≤ k) : Below B a w' := hb.grown h hB hr
end Go.Proofs.Ybulkdrig
