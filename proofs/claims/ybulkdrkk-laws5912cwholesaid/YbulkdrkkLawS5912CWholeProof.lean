/-
  'Rows.LawS5912CWholeSaid' ('example.com/sealwire/sealwire.LawS5912CWhole'): the row's step, after the guide's own shell for a law over slices, with the form's reach ('returnsInHanded_of_change_sized').
-/
import Derived.Test.YbulkdrkkOpen
namespace Go.Proofs.Ybulkdrkk.lawS5912CWhole
open Go.ChangeShapes Go.WideShapes Go.ChangeAt Go.RowKit
set_option linter.unusedVariables false

theorem own : ownKnob Yba.prog.godebug = none := by kernel_rfl
theorem laidOut : laidOutB Yba.prog = true := by kernel_rfl

set_option maxRecDepth 100000 in
theorem lifted (os : Os) (started : os.Started) (H : Type) (enc : TypeId × Value → H) :
    ReturnsInHanded {} Yba.checked os 3 .any (Rows.lawS5912CWholeSpec.pre6 enc Yba.prog Yba.f3 Rows.lawS5912CWholeRow.domain false) (Rows.lawS5912CWholeSpec.post enc Yba.prog Yba.f3 false true false false) := by
  refine returnsInHanded_of_change_sized (C := Yba.checked) own started (by kernel_rfl) Yba.func3
    (ChangeSpec.witness6 (enc := enc) (C := Yba.checked) false ⟨#[], #[.int .u16 0, .slice none 0 0, .slice none 0 0, .int .u16 0, .int .u8 0, .slice none 0 0, .int .u8 0, .int .u16 0, .int .u8 0, .agg #[.int .u16 0, .slice none 0 0, .slice none 0 0, .int .u16 0, .int .u8 0, .slice none 0 0]], []⟩ 8 (by kernel_rfl) (by kernel_rfl) (by kernel_rfl) (by kernel_rfl)) ?_
  intro W base args ds gs before hval0 hW hcnd hsz0 _
  have hval : ∀ (j : Nat) t v, Yba.f3.params[j]? = some t → args[j]? = some v → Value.okWide Yba.prog W .any base t v := hval0
  have hsz : (DataW.weightsEach Yba.prog (Yba.f3.params.toList ++ Rows.lawS5912CWholeSpec.plain.varTypes Yba.prog) (ds ++ gs)).all (· ≤ reachBytes) = true := hsz0
  have hW' := hW
  obtain ⟨p, q, hA0, hV, rfl, hfz, hnd⟩ := hW
  have hA : DataW.TrodAll enc Yba.prog W 0 (fun _ => true) true Yba.f3.params.toList args.toList ds p := hA0
  rw [Yba.params3] at hA hval hsz
  obtain ⟨v0, vs0, d0, ds0, p0, q0, hargs, rfl, rfl, h0, r0⟩ := trodAll_cons hA
  obtain ⟨v1, vs1, d1, ds1, p1, q1, rfl, rfl, rfl, h1, r1⟩ := trodAll_cons r0
  obtain ⟨v2, vs2, d2, ds2, p2, q2, rfl, rfl, rfl, h2, r2⟩ := trodAll_cons r1
  obtain ⟨v3, vs3, d3, ds3, p3, q3, rfl, rfl, rfl, h3, r3⟩ := trodAll_cons r2
  obtain ⟨v4, vs4, d4, ds4, p4, q4, rfl, rfl, rfl, h4, r4⟩ := trodAll_cons r3
  obtain ⟨v5, vs5, d5, ds5, p5, q5, rfl, rfl, rfl, h5, r5⟩ := trodAll_cons r4
  obtain ⟨v6, vs6, d6, ds6, p6, q6, rfl, rfl, rfl, h6, r6⟩ := trodAll_cons r5
  obtain ⟨v7, vs7, d7, ds7, p7, q7, rfl, rfl, rfl, h7, r7⟩ := trodAll_cons r6
  obtain ⟨v8, vs8, d8, ds8, p8, q8, rfl, rfl, rfl, h8, r8⟩ := trodAll_cons r7
  obtain ⟨v9, vs9, d9, ds9, p9, q9, rfl, rfl, rfl, h9, r9⟩ := trodAll_cons r8
  obtain ⟨rfl, rfl, rfl⟩ := trodAll_nil r9
  obtain rfl : args = #[v0, v1, v2, v3, v4, v5, v6, v7, v8, v9] := by cases args; simp_all
  obtain ⟨rfl, rfl⟩ := trodVars_none hV
  have hw1 : ∀ m ∈ d1.weights Yba.prog 23, m ≤ reachBytes := fun m hm => by simpa using List.all_eq_true.1 hsz m (DataW.weights_mem_each (j := 1) rfl rfl m hm)
  have hw2 : ∀ m ∈ d2.weights Yba.prog 23, m ≤ reachBytes := fun m hm => by simpa using List.all_eq_true.1 hsz m (DataW.weights_mem_each (j := 2) rfl rfl m hm)
  have hw5 : ∀ m ∈ d5.weights Yba.prog 24, m ≤ reachBytes := fun m hm => by simpa using List.all_eq_true.1 hsz m (DataW.weights_mem_each (j := 5) rfl rfl m hm)
  have hw9 : ∀ m ∈ d9.weights Yba.prog 26, m ≤ reachBytes := fun m hm => by simpa using List.all_eq_true.1 hsz m (DataW.weights_mem_each (j := 9) rfl rfl m hm)
  have k1 := h1
  have k2 := h2
  have k5 := h5
  have k9 := h9
  have lt1 : ∀ x ∈ p1, x.block < W.heap.size := by obtain ⟨m, hm⟩ := k1; exact DataW.trod_lt m _ _ _ hm
  have lt2 : ∀ x ∈ p2, x.block < W.heap.size := by obtain ⟨m, hm⟩ := k2; exact DataW.trod_lt m _ _ _ hm
  have lt5 : ∀ x ∈ p5, x.block < W.heap.size := by obtain ⟨m, hm⟩ := k5; exact DataW.trod_lt m _ _ _ hm
  have lt9 : ∀ x ∈ p9, x.block < W.heap.size := by obtain ⟨m, hm⟩ := k9; exact DataW.trod_lt m _ _ _ hm
  obtain ⟨a1, n1, c1, rfl⟩ := okWide_slice Yba.underlying23 (hval 1 23 v1 rfl rfl)
  obtain ⟨a2, n2, c2, rfl⟩ := okWide_slice Yba.underlying23 (hval 2 23 v2 rfl rfl)
  obtain ⟨a5, n5, c5, rfl⟩ := okWide_slice Yba.underlying24 (hval 5 24 v5 rfl rfl)
  have s9 := okWide_struct Yba.underlying26 (hval 9 26 v9 rfl rfl)
  obtain ⟨z0, rfl, rfl, rfl, w0⟩ := open_int Yba.underlying22 (hval 0 22 v0 rfl rfl) h0
  obtain ⟨z3, rfl, rfl, rfl, w3⟩ := open_int Yba.underlying22 (hval 3 22 v3 rfl rfl) h3
  obtain ⟨z4, rfl, rfl, rfl, w4⟩ := open_int Yba.underlying5 (hval 4 5 v4 rfl rfl) h4
  obtain ⟨z6, rfl, rfl, rfl, w6⟩ := open_int Yba.underlying5 (hval 6 5 v6 rfl rfl) h6
  obtain ⟨z7, rfl, rfl, rfl, w7⟩ := open_int Yba.underlying22 (hval 7 22 v7 rfl rfl) h7
  obtain ⟨z8, rfl, rfl, rfl, w8⟩ := open_int Yba.underlying5 (hval 8 5 v8 rfl rfl) h8
  clear hA0 hval0
  obtain ⟨f1, g1⟩ := h1
  obtain ⟨f2, g2⟩ := h2
  obtain ⟨f5, g5⟩ := h5
  obtain ⟨f9, g9⟩ := h9
  obtain ⟨T1, o1, b1, e1, m1, j1⟩ := rd_cells g1 hw1
  obtain ⟨T2, o2, b2, e2, m2, j2⟩ := rd_cells g2 hw2
  obtain ⟨X5, o5, b5, e5, m5, j5⟩ := x_cells g5 hw5
  obtain ⟨i0, R, oR, cR, S, oS, cS, i3, i4, X, oX, cX, rfl, mR, jR, mS, jS, mX, jX⟩ := str_cells s9 g9 hw9
  cases e1
  cases e2
  cases e5
  have W1 := law_any z0 z3 z4 z6 z7 z8 i0 i3 i4 a1 a2 a5 oR oS oX (olen T1) (olen T2) (xlen X5) (olen R) (olen S) (xlen X) c1 c2 c5 cR cS cX T1 T2 R S X5 X W
    (bounds_u16 w3) (bounds_u16 w0) (bounds_u8 w4) (bounds_u8 w6) (bounds_u16 w7) (bounds_u8 w8) m1 m2 m5 mR mS mX j1 j2 j5 jR jS jX rfl rfl rfl rfl rfl rfl
  refine W1.mono fun e W' ⟨he, bel⟩ => ?_
  subst he
  exact ⟨_, rfl, _, _, _, [], _, [], hW', trodAll_mk1 (shut_bool Yba.underlying4 _), (trodAll_cons_mk (shut_int Yba.underlying22 w0) (trodAll_cons_mk (Below.trod laidOut (by kernel_rfl) (of_decide_eq_true (by kernel_rfl)) k1 bel lt1) (trodAll_cons_mk (Below.trod laidOut (by kernel_rfl) (of_decide_eq_true (by kernel_rfl)) k2 bel lt2) (trodAll_cons_mk (shut_int Yba.underlying22 w3) (trodAll_cons_mk (shut_int Yba.underlying5 w4) (trodAll_cons_mk (Below.trod laidOut (by kernel_rfl) (of_decide_eq_true (by kernel_rfl)) k5 bel lt5) (trodAll_cons_mk (shut_int Yba.underlying5 w6) (trodAll_cons_mk (shut_int Yba.underlying22 w7) (trodAll_cons_mk (shut_int Yba.underlying5 w8) (trodAll_cons_mk (Below.trod laidOut (by kernel_rfl) (of_decide_eq_true (by kernel_rfl)) k9 bel lt9) trodAll_mk0)))))))))), rfl, bel.frame _, fun h => by cases h⟩

theorem over : Rows.lawS5912CWholeRow.holds Yba.pinned (OpenSpec.ofChange Rows.lawS5912CWholeSpec) :=
  OpenClaim.holds_of_wide 3 Yba.f3 rfl rfl rfl rfl rfl rfl rfl ⟨rfl, rfl, rfl, rfl, rfl⟩ rfl rfl rfl rfl rfl (by kernel_rfl) Yba.func3 (by kernel_rfl)
    (of_decide_eq_true (by kernel_rfl)) (by unfold Func.isWrapper; first | (rw [if_pos (by decide +kernel)]; kernel_rfl) | (rw [if_neg (by decide +kernel)]; exact ⟨rfl, rfl⟩))
    (fun os started H enc _ => lifted os started H enc)

/-- THE STATEMENT -/
theorem proved : Rows.LawS5912CWholeSaid := over
#print axioms proved
end Go.Proofs.Ybulkdrkk.lawS5912CWhole
