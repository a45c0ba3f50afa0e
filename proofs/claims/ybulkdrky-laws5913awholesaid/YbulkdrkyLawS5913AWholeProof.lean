/-
  THE SHELL OF A PROOF OF 'Rows.LawS5913AWholeSaid' ('example.com/handsum/handsum/internal/chopsticks.LawS5913AWhole'), WRITTEN BY PROGRAM (proof-skeleton.mjs) off the guide's own print for that function. Not trusted: Lean checks it.
  The walk and its lemmas are typed by the prover; all else is the guide's template at this function's number and types.
-/
import Derived.Test.YbulkdrkyRows
import Derived.WalkKit
import Derived.ProofKit
import Derived.OpenShut
import Derived.ShutString
namespace Go.Proofs.Ybulkdrky.lawS5913AWhole
open Go.ChangeShapes Go.WideShapes Go.ChangeAt Go.RowKit
open Go.ChangeMaps (open_string shut_string)
set_option linter.unusedVariables false      -- a walk need not use every 'w<i>' (that an integer argument fits its kind)

theorem own : ownKnob Yba.prog.godebug = none := by kernel_rfl

/-! ### STEP 1: THE WALK -/
theorem cells3 : Yba.prog.cellsOf 3 = 1 := by kernel_rfl
theorem info3 : (Yba.prog.info? 3).isSome = true := by kernel_rfl
theorem eql23 (a b : Int) (w : World) : (Op.equalIn 10000 23 (.agg #[.int .i64 a, .int .i64 b]) (.agg #[.int .i64 0, .int .i64 1])).run Yba.prog w = .ok (a == 0 && b == 1) w := by
  obtain ⟨i, hi⟩ := Option.isSome_iff_exists.1 info3
  rw [show (10000 : Nat) = 9999 + 1 from rfl, run_equalIn_array w 9999 _ _ Yba.underlying23 hi, cells3]
  have e : List.range 2 = [0, 1] := by decide
  rw [e]
  simp only [Op.eqItems]
  have p0 : ∀ (x y : Int) w, (part 3 #[Value.int .i64 x, .int .i64 y] 0).run Yba.prog w = .ok (.int .i64 x) w := by
    intro x y w; kernel_rfl
  have p1 : ∀ (x y : Int) w, (part 3 #[Value.int .i64 x, .int .i64 y] 1).run Yba.prog w = .ok (.int .i64 y) w := by
    intro x y w; kernel_rfl
  have q : ∀ (x y : Int) w, (Op.equalIn 9999 3 (Value.int .i64 x) (.int .i64 y)).run Yba.prog w = .ok (x == y) w := by
    intro x y w; exact run_equalIn_int w 9998 3 .i64 .i64 x y Yba.underlying3
  simp only [Sem.run_bind, Nat.zero_mul, Nat.one_mul, p0, q, Result.andThen_ok]
  by_cases ha : a = 0
  · subst ha
    by_cases hb : b = 1
    · subst hb; simp [p1, q]
    · simp [p1, q, hb]
  · simp [ha]


set_option maxHeartbeats 400000 in
theorem lose_yes (l : Int) (h : 1 < l) (wl : l ≤ 9223372036854775807) (w : World) :
    Calls Yba.prog 4 #[.agg #[.int .i64 0, .int .i64 1], .int .i64 l] w fun e w' => e = .returned (.tuple #[.agg #[.int .i64 1, .int .i64 1], .int .i64 (l - 1)]) ∧ w' = ((w.alloc (.cells #[.int .i64 0, .int .i64 1] 23)).alloc (.cells #[.int .i64 1, .int .i64 1] 23)) := by
  have e := eql23
  go_enter Yba.func4, Yba.ntmps4
  go_wp2
  exact bodyPost_ret (v := .tuple #[.agg #[.int .i64 1, .int .i64 1], .int .i64 (l - 1)]) (by simp [results, Yba.results4, go_sem]) rfl ⟨rfl, rfl⟩
set_option maxHeartbeats 400000 in
theorem lose_few (l : Int) (hl : l ≤ 1) (w : World) :
    Calls Yba.prog 4 #[.agg #[.int .i64 0, .int .i64 1], .int .i64 l] w fun e w' => e = .returned (.tuple #[.agg #[.int .i64 0, .int .i64 1], .int .i64 l]) ∧ w' = ((w.alloc (.cells #[.int .i64 0, .int .i64 1] 23)).alloc (.cells #[.int .i64 0, .int .i64 1] 23)) := by
  have e := eql23
  go_enter Yba.func4, Yba.ntmps4
  go_wp2
  exact bodyPost_ret (v := .tuple #[.agg #[.int .i64 0, .int .i64 1], .int .i64 l]) (by simp [results, Yba.results4, go_sem]) rfl ⟨rfl, rfl⟩
set_option maxHeartbeats 400000 in
theorem lose_no (a b l : Int) (hb : (a == 0 && b == 1) = false) (w : World) :
    Calls Yba.prog 4 #[.agg #[.int .i64 a, .int .i64 b], .int .i64 l] w fun e w' => e = .returned (.tuple #[.agg #[.int .i64 a, .int .i64 b], .int .i64 l]) ∧ w' = ((w.alloc (.cells #[.int .i64 a, .int .i64 b] 23)).alloc (.cells #[.int .i64 a, .int .i64 b] 23)) := by
  have e2 : ∀ w, (Op.equalIn 10000 23 (.agg #[.int .i64 a, .int .i64 b]) (.agg #[.int .i64 0, .int .i64 1])).run Yba.prog w = .ok false w := fun w => by rw [eql23, hb]
  clear hb
  go_enter Yba.func4, Yba.ntmps4
  go_wp2
  exact bodyPost_ret (v := .tuple #[.agg #[.int .i64 a, .int .i64 b], .int .i64 l]) (by simp [results, Yba.results4, go_sem]) rfl ⟨rfl, rfl⟩

set_option maxHeartbeats 800000 in
theorem walk (a0 : Int) (a1 : Int) (a2 : Int) (w0 : (Lit.int .i64 a0).wf = true) (w1 : (Lit.int .i64 a1).wf = true) (w2 : (Lit.int .i64 a2).wf = true) (w : World) :
    Calls Yba.prog 3 #[.int .i64 a0, .int .i64 a1, .int .i64 a2] w fun e w' => e = .returned (.bool true) ∧ Grown w w' := by
  have hm : a2 ≤ 9223372036854775807 := by
    have := bounds_i64 w2; omega
  clear w0 w1 w2
  by_cases hab : a0 = 0 ∧ a1 = 1
  · obtain ⟨rfl, rfl⟩ := hab
    by_cases hl : 1 < a2
    · go_enter Yba.func3, Yba.ntmps3
      go_wp2_with (go_at_call 4; refine (lose_yes _ hl hm _).mono ?_; rintro e w' ⟨rfl, rfl⟩)
      go_ret
      exact ⟨rfl, by repeat (first | exact Grown.refl _ | apply Grown.drew | apply Grown.alloc)⟩
    · go_enter Yba.func3, Yba.ntmps3
      go_wp2_with (go_at_call 4; refine (lose_few _ (by omega) _).mono ?_; rintro e w' ⟨rfl, rfl⟩)
      go_ret
      exact ⟨rfl, by repeat (first | exact Grown.refl _ | apply Grown.drew | apply Grown.alloc)⟩
  · have hb : (a0 == 0 && a1 == 1) = false := by
      rw [Bool.eq_false_iff]; intro hh; simp at hh; exact hab hh
    have H := lose_no a0 a1 a2 hb
    by_cases h0 : a0 = 0
    · have h1 : a1 ≠ 1 := fun h => hab ⟨h0, h⟩
      clear hb hab
      subst h0
      go_enter Yba.func3, Yba.ntmps3
      go_wp2_with (go_at_call 4; refine (H _).mono ?_; rintro e w' ⟨rfl, rfl⟩)
      go_ret
      exact ⟨rfl, by repeat (first | exact Grown.refl _ | apply Grown.drew | apply Grown.alloc)⟩
    · clear hb hab
      go_enter Yba.func3, Yba.ntmps3
      go_wp2_with (go_at_call 4; refine (H _).mono ?_; rintro e w' ⟨rfl, rfl⟩)
      go_ret
      exact ⟨rfl, by repeat (first | exact Grown.refl _ | apply Grown.drew | apply Grown.alloc)⟩

/-! ### THE ROW's STEP: WRITTEN OUT: LEAVE IT -/
set_option maxRecDepth 100000 in
theorem lifted (os : Os) (started : os.Started) (H : Type) (enc : TypeId × Value → H) :
    ReturnsInHanded {} Yba.checked os 3 .any (Rows.lawS5913AWholeSpec.pre6 enc Yba.prog Yba.f3 Rows.lawS5913AWholeRow.domain false) (Rows.lawS5913AWholeSpec.post enc Yba.prog Yba.f3 false true false false) := by
  refine returnsInHanded_of_change (C := Yba.checked) own started (by kernel_rfl) Yba.func3
    (ChangeSpec.witness6 (enc := enc) (C := Yba.checked) false ⟨#[], #[.int .i64 0, .int .i64 0, .int .i64 0], []⟩ 8 (by kernel_rfl) (by kernel_rfl) (by kernel_rfl) (by kernel_rfl)) ?_
  intro W base args ds gs before hval0 hW hcnd _
  have hval : ∀ (j : Nat) t v, Yba.f3.params[j]? = some t → args[j]? = some v → Value.okWide Yba.prog W .any base t v := hval0
  have hW' := hW
  obtain ⟨p, q, hA0, hV, rfl, hfz, hnd⟩ := hW
  have hA : DataW.TrodAll enc Yba.prog W 0 (fun _ => true) true Yba.f3.params.toList args.toList ds p := hA0
  rw [Yba.params3] at hA hval
  obtain ⟨v0, vs0, d0, ds0, p0, q0, hargs, rfl, rfl, h0, r0⟩ := trodAll_cons hA
  obtain ⟨v1, vs1, d1, ds1, p1, q1, rfl, rfl, rfl, h1, r1⟩ := trodAll_cons r0
  obtain ⟨v2, vs2, d2, ds2, p2, q2, rfl, rfl, rfl, h2, r2⟩ := trodAll_cons r1
  obtain ⟨rfl, rfl, rfl⟩ := trodAll_nil r2
  obtain rfl : args = #[v0, v1, v2] := by cases args; simp_all
  obtain ⟨rfl, rfl⟩ := trodVars_none hV
  obtain ⟨a0, rfl, rfl, rfl, w0⟩ := open_int Yba.underlying3 (hval 0 3 v0 rfl rfl) h0
  obtain ⟨a1, rfl, rfl, rfl, w1⟩ := open_int Yba.underlying3 (hval 1 3 v1 rfl rfl) h1
  obtain ⟨a2, rfl, rfl, rfl, w2⟩ := open_int Yba.underlying3 (hval 2 3 v2 rfl rfl) h2
  clear hA0 hval0
  simp only [List.append_nil] at hW'
  refine (walk a0 a1 a2 w0 w1 w2 W).mono fun e W' ⟨he, hg⟩ => ?_
  subst he
  exact ⟨_, rfl, post_of_same (pa := []) (pv := []) hW' (fun _ _ _ => (trodAll_cons_mk (shut_bool Yba.underlying4 _) trodAll_mk0)) (fun sp _ => (trodAll_cons_mk (shut_int Yba.underlying3 w0) (trodAll_cons_mk (shut_int Yba.underlying3 w1) (trodAll_cons_mk (shut_int Yba.underlying3 w2) trodAll_mk0)))) (fun _ _ => rfl) rfl
    (hg.frame _) hg.2.1 (ok_one (by kernel_rfl) rfl (okWide_bool_mk Yba.underlying4 _))⟩

theorem over : Rows.lawS5913AWholeRow.holds Yba.pinned (OpenSpec.ofChange Rows.lawS5913AWholeSpec) :=
  OpenClaim.holds_of_wide 3 Yba.f3 rfl rfl rfl rfl rfl rfl rfl ⟨rfl, rfl, rfl, rfl, rfl⟩ rfl rfl rfl rfl rfl (by kernel_rfl) Yba.func3 (by kernel_rfl)
    (of_decide_eq_true (by kernel_rfl)) (by unfold Func.isWrapper; first | (rw [if_pos (by decide +kernel)]; kernel_rfl) | (rw [if_neg (by decide +kernel)]; exact ⟨rfl, rfl⟩))
    (fun os started H enc _ => lifted os started H enc)

/-- ████ THE STATEMENT ████ -/
theorem proved : Rows.LawS5913AWholeSaid :=
  over
#print axioms proved
end Go.Proofs.Ybulkdrky.lawS5913AWhole
