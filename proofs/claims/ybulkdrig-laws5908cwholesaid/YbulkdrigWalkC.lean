/-
  LawS5908CWhole (function 5): the walk, for at most 2048 keys.
-/
import Derived.Test.YbulkdrigCount
import Derived.Deep.CutBlock
import Derived.Outline
import Derived.LaidEql
namespace Go.Proofs.Ybulkdrig
open Go.RowKit
set_option linter.unusedVariables false
theorem eqIn_ptr (d : Nat) (t e : TypeId) (hu : Yba.prog.underlying t = some (.pointer e)) (hi : ((Yba.prog.info? e).map (·.size)).isSome = true) (p : Option Addr) (w : World) : (Op.equalIn (d + 1) t (.pointer p) (.pointer p)).run Yba.prog w = .ok true w := by
  cases p with
  | none => simp [Op.equalIn, run_underlying hu]
  | some a =>
    cases hq : Yba.prog.info? e with
    | none => simp [hq] at hi
    | some i => simp [Op.equalIn, run_underlying hu, sizeOf, typeInfo, hq, run_sameAddr_same]
theorem neq_ptr (t e : TypeId) (hu : Yba.prog.underlying t = some (.pointer e)) (hi : ((Yba.prog.info? e).map (·.size)).isSome = true) (p : Option Addr) (w : World) : (binOp .neq t (.pointer p) (.pointer p)).run Yba.prog w = .ok (.bool false) w := by
  simp only [binOp]
  simp [Op.equal, Op.maxDepth, eqIn_ptr 9999 t e hu hi p w]

set_option maxRecDepth 100000 in
set_option maxHeartbeats 2000000 in
theorem walkC (aK : Option Addr) (nK cK : Nat) (mode : Int) (aR : Option Addr) (nR cR : Nat) (pick : Int) (aV : Option Addr) (nV cV : Nat) (inv : Int) (ended : Bool) (w : World) (hsm : nK ≤ 2048)
    (ks : List ByteArray) (hks : ks.length = nK) (hK : KeysAt w aK ks) (hkz : ∀ s ∈ ks, s.size ≤ 140737488351232) (m0 : 0 ≤ mode) (m1 : mode ≤ 255) (p0 : 0 ≤ pick) (TR TV : Option (List Int)) (hR : CameIs w aR nR cR TR) (hV : CameIs w aV nV cV TV)
    (hnR : nR ≤ 140737488351232) (hnV : nV ≤ 140737488351232) :
    Calls Yba.prog 5 #[.slice aK nK cK, .int .u8 mode, .slice aR nR cR, .int .u64 pick, .slice aV nV cV, .int .i64 inv, .bool ended] w fun e w' => e = .returned (.bool true) ∧ Below w.heap.size w w' := by
  have hmm := @run_makeMap Yba.prog
  have HKL : Hid (ks.length = nK) := hks
  clear hks
  go_enter Yba.func5, Yba.ntmps5
  go_wp2_with (at_make; refine wpList_make_ptrs rfl (.tmp 40) (.tmp 40) rfl _ _ nK rfl rfl rfl rfl (by omega) ?_; intro w1 q1 hq1 hr1 hg1)
  have hr1 : PRow w1 (w.heap.size + 1 + 1) q1 := by simpa using hr1
  have hF1 : FBlk w1 (w.heap.size + 1) 0 w.heap.size := (show FBlk ((w.alloc (.map #[] 0)).alloc (.cells (fcells 0 w.heap.size) 84)) (w.heap.size + 1) 0 w.heap.size from heap_alloc2_new w _ _).grown hg1 (by simp)
  have hM1 : MapIs w1 w.heap.size [] := ((MapIs.made w).alloc _).grown hg1 (by simp)
  have B1 : Below w.heap.size w w1 := below_gb (((Below.refl _ _).alloc (Nat.le_refl _) _).alloc (by simp) _) hg1 (by simp; omega) (by simp)
  have HQ1 : Hid (q1.length = nK) := by show _ = _; rw [hq1.out]; simp
  clear hg1 hq1 hmm
  go_loopw [17] (fun i wr => ∃ (k : Nat) (qs : List (Option Addr)), k ≤ nK ∧ i = .int .i64 k ∧ Hid (qs.length = nK) ∧ PRow wr (w.heap.size + 1 + 1) qs ∧ FBlk wr (w.heap.size + 1) 0 w.heap.size ∧ MapIs wr w.heap.size (ents ks (fun j => .pointer (qs.getD j none)) k) ∧ Below w.heap.size w wr)
    (fun i _ => nK - (intOf i).toNat)
  case atStart => exact ⟨0, q1, Nat.zero_le _, rfl, HQ1, hr1, hF1, hM1, B1⟩
  case round =>
    clear hr1 hF1 hM1 B1 HQ1
    obtain ⟨k, qs, hk, rfl, HQ, hr, hF, hM, BB⟩ := hrel
    by_cases hlt : k < nK
    · obtain ⟨bK, oK, rfl, hbK, hcK⟩ := hK k (by rw [HKL.out]; exact hlt)
      have i0 : (k : Int) < (nK : Int) := by omega
      have ck := fun O => (hr.alloc O).cell k (by rw [HQ.out]; exact hlt)
      have fk := fun O => (hr.alloc O).free k
      go_upto_region 9 with fail
      have hr2 := (hr.alloc (.cells #[Value.pointer none, Value.pointer none, Value.nilFunc, Value.slice none 0 0, Value.pointer none, Value.pointer none, Value.slice none 0 0, Value.chan none, Value.int IntKind.i64 ↑k, Value.bool false] 94)).set k (some ⟨wr.heap.size, 0, none⟩)
      have hF2 := (hF.alloc (.cells #[Value.pointer none, Value.pointer none, Value.nilFunc, Value.slice none 0 0, Value.pointer none, Value.pointer none, Value.slice none 0 0, Value.chan none, Value.int IntKind.i64 ↑k, Value.bool false] 94)).other (a := ⟨w.heap.size + 1 + 1, k, none⟩) (by simp) (.pointer (some ⟨wr.heap.size, 0, none⟩))
      have hM2 := (hM.alloc (.cells #[Value.pointer none, Value.pointer none, Value.nilFunc, Value.slice none 0 0, Value.pointer none, Value.pointer none, Value.slice none 0 0, Value.chan none, Value.int IntKind.i64 ↑k, Value.bool false] 94)).other (a := ⟨w.heap.size + 1 + 1, k, none⟩) (by simp; omega) (.pointer (some ⟨wr.heap.size, 0, none⟩))
      have B2 := (BB.alloc BB.size (.cells #[Value.pointer none, Value.pointer none, Value.nilFunc, Value.slice none 0 0, Value.pointer none, Value.pointer none, Value.slice none 0 0, Value.chan none, Value.int IntKind.i64 ↑k, Value.bool false] 94)).setCell (p := ⟨w.heap.size + 1 + 1, k, none⟩) (by simp; omega) (.pointer (some ⟨wr.heap.size, 0, none⟩))
      rw [ents_congr ks _ (fun j => .pointer ((qs.set k (some ⟨wr.heap.size, 0, none⟩)).getD j none)) k (fun j hj => by simp only [List.getD_eq_getElem?_getD]; rw [List.getElem?_set_ne (by omega)])] at hM2
      have HQ2 : Hid ((qs.set k (some ⟨wr.heap.size, 0, none⟩)).length = nK) := by show _ = _; rw [List.length_set]; exact HQ.out
      generalize qs.set k (some ⟨wr.heap.size, 0, none⟩) = qs2 at *
      clear hr hF hM BB ck fk HQ
      generalize (World.setCell _ _ _) = w2 at *
      obtain ⟨s, hs⟩ : ∃ s, s = ks.getD k ByteArray.empty := ⟨_, rfl⟩
      have cs : w2.cell? ⟨bK, oK + k, none⟩ = some (.string s) := by rw [hs]; exact (B2.cell (by exact hbK)).trans (hcK k (by rw [HKL.out]; exact hlt))
      have cm := hF2.map
      have HSk : Hid (s = ks.getD k ByteArray.empty) := hs
      clear hs hcK
      obtain ⟨l, hl⟩ : ∃ l, l = ents ks (fun j => Value.pointer (qs2.getD j none)) k := ⟨_, rfl⟩
      rw [← hl] at hM2
      have HL : Hid (l = ents ks (fun j => Value.pointer (qs2.getD j none)) k) := hl
      clear hl
      have hlk := fun n => (hM2.drewN n).look s
      have hlk0 := hM2.look s
      generalize lookV l s = X at *
      by_cases hB : lookB l s = true
      · rw [hB] at hlk hlk0
        go_quiet (fail)
        go_wp2
        go_roundw
        case rel => exact ⟨k + 1, qs2, by omega, by go_num, HQ2, hr2.drewN _, hF2.drewN _, by rw [ents_skip ks _ k (by rw [← HL.out, ← HSk.out]; exact hB), ← HL.out]; exact hM2.drewN _, below_drewN' B2 _⟩
        case measure => simp [intOf]; omega
      · have hB' : lookB l s = false := by simpa using hB
        rw [hB'] at hlk hlk0
        have HB : Hid (lookB l s = false) := hB'
        clear hB hB'
        go_quiet (fail)
        go_wp2
        have hr3 := hr2.drewN nq
        have hF3 := hF2.drewN nq
        have hM3 := hM2.drewN nq
        have B3 := below_drewN' B2 nq
        have cs3 : (w2.drewN nq).cell? ⟨bK, oK + k, none⟩ = some (.string s) := cs
        have cm3 := hF3.map
        clear hr2 hF2 hM2 B2 cs cm hlk hlk0
        generalize w2.drewN nq = w3 at *
        have cp := hr3.cell k (by rw [HQ2.out]; exact hlt)
        obtain ⟨q, hq⟩ : ∃ q, q = qs2.getD k none := ⟨_, rfl⟩
        rw [← hq] at cp
        have HP : Hid (q = qs2.getD k none) := hq
        clear hq
        obtain ⟨w4, hput, hM4, hg4⟩ := hM3.drew.put s (.pointer q) HB.out
        go_region
        have hr4 : PRow w4 (w.heap.size + 1 + 1) qs2 := PRow.grown (w := w3.drew) hr3 hg4 (by simp; omega)
        have hF4 : FBlk w4 (w.heap.size + 1) 0 w.heap.size := FBlk.grown (w := w3.drew) hF3 hg4 (by simp)
        have B4 : Below w.heap.size w w4 := below_gb B3.drew hg4 (by exact B3.size) (by simp)
        clear hr3 hF3 hM3 B3 cs3 cm3 cp hput hg4
        go_wp2
        go_roundw
        case rel => exact ⟨k + 1, qs2, by omega, by go_num, HQ2, hr4, hF4, by rw [ents_add ks _ k (by rw [← HL.out, ← HSk.out]; exact HB.out), ← HL.out, ← HSk.out, ← HP.out]; exact hM4, B4⟩
        case measure => simp [intOf]; omega
    · obtain rfl : k = nK := by omega
      obtain ⟨l, hl⟩ : ∃ l, l = ents ks (fun j => Value.pointer (qs.getD j none)) k := ⟨_, rfl⟩
      rw [← hl] at hM
      have HL : Hid (l = ents ks (fun j => Value.pointer (qs.getD j none)) k) := hl
      clear hl
      go_upto_block 2 with fail
      go_cut [20] (fun t w' => ∃ T, TidIs w' (w.heap.size + 1 + 1 + 1) t T ∧ PRow w' (w.heap.size + 1 + 1) qs ∧ FBlk w' (w.heap.size + 1) 0 w.heap.size ∧ MapIs w' w.heap.size l ∧ Below w.heap.size w w')
      case first =>
        clear hr1 hV hnV hk hlt
        rcases (show mode % 3 = 0 ∨ mode % 3 = 1 ∨ mode % 3 = 2 by omega) with hm | hm | hm
        · have h1 : (mode % 3 == 1) = false := by rw [hm]; rfl
          have h2 : (mode % 3 == 2) = false := by rw [hm]; rfl
          clear hm
          go_wp2
          go_meet
          case rel => exact ⟨none, rfl, hr, hF, hM, BB⟩
        · have h1 : (mode % 3 == 1) = true := by rw [hm]; rfl
          clear hm
          obtain ⟨xs, hxn, hxb⟩ : ∃ xs : List Int, xs.length = nR ∧ BytesAt w aR xs := by
            cases TR with
            | none => obtain ⟨rfl, rfl, rfl⟩ := hR; exact ⟨[], rfl, fun h => by simp at h⟩
            | some xs => obtain ⟨ad, rfl, rfl, h2⟩ := hR; exact ⟨xs, rfl, h2⟩
          have hmin : xs.length = Nat.min nR nR := by rw [hxn]; exact (Nat.min_self nR).symm
          have hxb2 := hxb.grown BB
          have HXN : Hid (xs.length = nR) := hxn
          clear hxn hxb hR
          go_wp2_with (first | (at_make; refine wpList_make_row rfl (.tmp 85) (.tmp 85) rfl _ _ nR rfl rfl rfl rfl hnR ?_; intro w3 y3 hy3 hr3 hg3) | ((with_reducible refine at_copy ?_); refine wpList_copy_row rfl (.tmp 87) (.tmp 88) rfl wr.heap.size nR nR aR nR cR rfl rfl y3 xs hr3 (by rw [hy3.out]; simp) hmin (hxb2.grown (below_of_gb hg3 (by simp))).plain ?_; intro w4 y4 hy4 hr4 hg4))
          go_meet
          case rel =>
            have e4 : y4 = xs := by rw [hy4.out, List.drop_eq_nil_of_le (by rw [hy3.out, HXN.out]; simp), List.append_nil]
            have nv : wr.heap.size ≠ w.heap.size + 1 + 1 := by have := hr.lt; omega
            have nf : wr.heap.size ≠ w.heap.size + 1 := by have := hr.lt; omega
            have nm : wr.heap.size ≠ w.heap.size := by have := hr.lt; omega
            refine ⟨some xs, ⟨wr.heap.size, nR, by rw [HXN.out], by have := hr.lt; omega, by rw [← e4]; exact hr4⟩, (hr.grown hg3 (by simp)).grown hg4 (by simp; omega), (hF.grown hg3 (by simp)).grown hg4 (by simp; omega), (hM.grown hg3 (by simp)).grown hg4 (by simp; omega), ?_⟩
            exact below_gb (below_gb BB hg3 BB.size (by simp)) hg4 (by have := BB.size; have := hg3.size; omega) (by have := BB.size; simp; omega)
        · have h1 : (mode % 3 == 1) = false := by rw [hm]; rfl
          have h2 : (mode % 3 == 2) = true := by rw [hm]; rfl
          clear hm hR
          by_cases hk0 : 0 < k
          · obtain ⟨bK, oK, rfl, hbK, hcK⟩ := hK 0 (by rw [HKL.out]; exact hk0)
            have hj0 := Int.emod_nonneg pick (show (k : Int) ≠ 0 by omega)
            have hj1 := Int.emod_lt_of_pos pick (show (0 : Int) < k by omega)
            obtain ⟨j, hj⟩ : ∃ j : Nat, pick % (k : Int) = j := ⟨(pick % k).toNat, by omega⟩
            rw [hj] at hj0 hj1
            have hjk : j < k := by omega
            obtain ⟨st, hst⟩ : ∃ s, s = ks.getD j ByteArray.empty := ⟨_, rfl⟩
            have cs : wr.cell? ⟨bK, oK + j, none⟩ = some (.string st) := by rw [hst]; exact (BB.cell (by exact hbK)).trans (hcK j (by rw [HKL.out]; exact hjk))
            have hsz : st.size ≤ 140737488351232 := hkz st (by rw [hst, List.getD_eq_getElem?_getD, List.getElem?_eq_getElem (by rw [HKL.out]; exact hjk)]; exact List.getElem_mem _)
            clear hst hcK hkz
            have kc : (0 : Int) < (k : Int) := by omega
            go_wp2_with (first | (at_make; refine wpList_make_row rfl (.tmp 104) (.tmp 104) rfl _ _ st.size rfl rfl rfl rfl hsz ?_; intro w3 y3 hy3 hr3 hg3) | ((with_reducible refine at_copy ?_); refine wpList_copy_str rfl (.tmp 106) (.tmp 107) rfl wr.heap.size st.size st.size st rfl rfl y3 hr3 (by rw [hy3.out]; simp) rfl ?_; intro w4 hr4 hg4))
            go_meet
            case rel =>
              refine ⟨some (numsOf st), ⟨wr.heap.size, st.size, by rw [numsOf_len], by have := hr.lt; omega, hr4⟩, (hr.grown hg3 (by simp)).grown hg4 (by have := hr.lt; simp; omega), (hF.grown hg3 (by simp)).grown hg4 (by have := hr.lt; simp; omega), (hM.grown hg3 (by simp)).grown hg4 (by have := hr.lt; simp; omega), ?_⟩
              exact below_gb (below_gb BB hg3 BB.size (by simp)) hg4 (by have := BB.size; have := hg3.size; omega) (by have := BB.size; simp; omega)
          · obtain rfl : k = 0 := by omega
            go_wp2
            go_meet
            case rel => exact ⟨some [], ⟨wr.heap.size, 0, rfl, by have := hr.lt; omega, heap_alloc_new wr _⟩, hr.alloc _, hF.alloc _, hM.alloc _, BB.alloc BB.size _⟩
      case rest =>
        clear hr1 hR hnR hk hlt hr hF hM BB hkz m0 m1 p0
        obtain ⟨T, hT, hr, hF, hM, BB⟩ := hcut
        obtain ⟨ta, tn, tc, htv⟩ := hT.shape
        subst htv
        obtain ⟨tb, htb⟩ : ∃ b, b = T.isSome := ⟨_, rfl⟩
        have e1 : ∀ w, (binOp .neq 22 (.slice ta tn tc) (.slice none 0 0)).run Yba.prog w = .ok (.bool tb) w := fun w => by rw [htb]; exact hT.neqNil w
        have HTB : Hid (tb = T.isSome) := htb
        clear htb
        have e2 := hT.conv
        go_wp2_with fail
        refine (clone_any aV nV cV TV wc (hV.grown BB) hnV).mono ?_
        rintro e w2 ⟨v, rfl, hv, hb2⟩
        obtain ⟨va, vn, vc, hvv⟩ := hv.shape
        subst hvv
        have hT2 := hT.keep (fun k hk _ => hb2.block k hk)
        have hr2 := hr.keep (hb2.block _ hr.lt)
        have hF2 := hF.keep (hb2.block _ hF.lt)
        have hM2 := hM.keep (hb2.block _ hM.lt)
        have B2 : Below w.heap.size w w2 := BB.trans (hb2.mono BB.size)
        have HZ : Hid (w.heap.size + 1 + 1 < wc.heap.size ∧ wc.heap.size ≤ w2.heap.size) := ⟨hr.lt, hb2.size⟩
        clear hT hr hF hM BB hb2 e2
        go_wp2_with fail
        have hD : DBlk (w2.alloc (.cells (dcells (w.heap.size + 1) (.slice va vn vc) (.slice ta tn tc) inv ended) 94)) w2.heap.size (w.heap.size + 1) (.slice va vn vc) (.slice ta tn tc) inv ended := heap_alloc_new w2 _
        have hz := HZ.out
        refine (release_any w2.heap.size (w.heap.size + 1) w.heap.size (.slice va vn vc) (.slice ta tn tc) T inv ended l (w2.alloc (.cells (dcells (w.heap.size + 1) (.slice va vn vc) (.slice ta tn tc) inv ended) 94)) (w.heap.size + 1 + 1 + 1) hD (hF2.alloc _) (hM2.alloc _) (hT2.keep (fun k hk _ => Below.heap_alloc w2 _ k hk)) (by omega) (by omega) (by omega) (by omega) (by omega)).mono ?_
        rintro e w3 ⟨rfl, hD3, hF3, hM3, hk3, hb3⟩
        have hk3' : ∀ k, k < w2.heap.size → k ≠ w.heap.size + 1 → k ≠ w.heap.size → w3.heap[k]? = w2.heap[k]? := fun k h1 h2 h3 => (hk3 k (by simp; omega) (by omega) h2 h3).trans (Below.heap_alloc w2 _ k h1)
        have hr3 := hr2.keep (hk3' _ hr2.lt (by omega) (by omega))
        have hv3 := hv.keep (fun k hk hl => hk3' k hk (by omega) (by omega))
        have B3 : Below w.heap.size w w3 := (B2.alloc B2.size _).trans (hb3 w.heap.size (by omega) (by omega) (by omega))
        have HZ3 : Hid (w.heap.size + 1 + 1 < w2.heap.size) := by show _ < _; omega
        clear hD hF2 hM2 hT2 hk3 hb3 hk3' hr2 hv B2 hz HZ
        have cf := hD3.cf
        have cv := hD3.cv
        have ct := hD3.ct
        have ci := hD3.ci
        have ce := hD3.ce
        have e4 := fun w => run_neq_slice_nil_any (P := Yba.prog) w 22 5 none 0 0 0 0 Yba.underlying22
        have e5 := fun p w => neq_ptr 51 84 Yba.underlying51 (by kernel_rfl) p w
        have e6 := fun w => hv3.eqlNil w
        have e7 := fun w => hV.eqlNil w
        have c1 := hv3.conv
        have c2 := (hV.grown B3).conv
        go_wp2_with (go_at_call 11; refine (equal_conv _ _ _ _ c1 c2).mono ?_; rintro e w4 ⟨rfl, rfl⟩)
        clear e1 e4 e5 e6 e7 c1 c2 cf cv ct ci ce hv3 hD3 hV
        refine (trylock_free (w.heap.size + 1) 13 w4 hF3.state (hF3.free 13)).mono ?_
        rintro e w5 ⟨rfl, hw5⟩
        have hF5 : FBlk w5 (w.heap.size + 1) 1 w.heap.size := by rw [hw5]; exact hF3.set 1
        have hM5 : MapIs w5 w.heap.size (left T l) := by rw [hw5]; exact hM3.other (by simp) _
        have hr5 : PRow w5 (w.heap.size + 1 + 1) qs := by rw [hw5]; exact hr3.other (by simp) _
        have B5 : Below w.heap.size w w5 := by rw [hw5]; exact B3.setCell (by simp) _
        clear hw5 hF3 hM3 hr3 B3
        go_wp2_with fail
        refine (unlock_held (w.heap.size + 1) 13 w5 hF5.state (hF5.free 13)).mono ?_
        rintro e w6 ⟨rfl, hw6⟩
        have hF6 : FBlk w6 (w.heap.size + 1) 0 w.heap.size := by rw [hw6]; exact hF5.set 0
        have hM6 : MapIs w6 w.heap.size (left T l) := by rw [hw6]; exact hM5.other (by simp) _
        have hr6 : PRow w6 (w.heap.size + 1 + 1) qs := by rw [hw6]; exact hr5.other (by simp) _
        have B6 : Below w.heap.size w w6 := by rw [hw6]; exact B5.setCell (by simp) _
        clear hw6 hF5 hM5 hr5 B5
        obtain ⟨L, hL⟩ : ∃ L, L = left T l := ⟨_, rfl⟩
        rw [← hL] at hM6
        have HLL : Hid (L = left T (ents ks (fun j => Value.pointer (qs.getD j none)) k)) := by show _ = _; rw [hL, ← HL.out]
        clear hL HL
        go_wp2
        go_loopg [26, 27, 28] k (fun gk d r i wr => ∃ n : Nat, n + gk = k ∧ i = .int .i64 n ∧ d = .int .i64 ((E ks n).length : Nat) ∧ r = .int .i64 (gone T ks n : Nat) ∧ PRow wr (w.heap.size + 1 + 1) qs ∧ FBlk wr (w.heap.size + 1) 0 w.heap.size ∧ MapIs wr w.heap.size L ∧ Below w.heap.size w wr)
        case atStart => exact ⟨0, by omega, rfl, rfl, by simp [gone, E], hr6, hF6, hM6, B6⟩
        case round =>
          clear hr6 hF6 hM6 B6
          obtain ⟨n, hn, rfl, rfl, rfl, hr, hF, hM, BB⟩ := hrel
          have d1 := E_len_le ks n
          have g1 := gone_le T ks n
          obtain ⟨gO, hgO⟩ : ∃ x, x = gk := ⟨_, rfl⟩
          subst hgO
          have HN : Hid (n + gO = k) := hn
          have hnk : n ≤ k := by omega
          clear hn
          generalize hD : (E ks n).length = D at *
          generalize hR : gone T ks n = R at *
          have HD : Hid ((E ks n).length = D) := hD
          have HR : Hid (gone T ks n = R) := hR
          clear hD hR
          by_cases hlt : n < k
          · obtain ⟨bK, oK, rfl, hbK, hcK⟩ := hK n (by rw [HKL.out]; exact hlt)
            have HCK : Hid (∀ i, i < ks.length → w.cell? ⟨bK, oK + i, none⟩ = some (.string (ks.getD i ByteArray.empty))) := hcK
            clear hcK
            obtain ⟨s, hs⟩ : ∃ s, s = ks.getD n ByteArray.empty := ⟨_, rfl⟩
            have HSn : Hid (s = ks.getD n ByteArray.empty) := hs
            have CN : Hid (∀ wx, Below w.heap.size w wx → wx.cell? ⟨bK, oK + n, none⟩ = some (.string s)) := by
              intro wx hb
              rw [hs]; exact (hb.cell (by exact hbK)).trans (HCK.out n (by rw [HKL.out]; exact hlt))
            clear hs
            have nk : (n : Int) < (k : Int) := by omega
            go_upto_block 5 with fail
            go_cut [29] (fun f w' => ∃ fi : Nat, f = .int .i64 fi ∧ Hid (First ks n fi) ∧ fi ≤ n ∧ PRow w' (w.heap.size + 1 + 1) qs ∧ FBlk w' (w.heap.size + 1) 0 w.heap.size ∧ MapIs w' w.heap.size L ∧ Below w.heap.size w w')
            case first =>
              go_wp2_with fail
              go_loopg [29, 30] n (fun gj f j w7 => ∃ m : Nat, m + gj = n ∧ j = .int .i64 m ∧ f = .int .i64 n ∧ Hid (∀ i, i < m → ks.getD i ByteArray.empty ≠ ks.getD n ByteArray.empty) ∧ PRow w7 (w.heap.size + 1 + 1) qs ∧ FBlk w7 (w.heap.size + 1) 0 w.heap.size ∧ MapIs w7 w.heap.size L ∧ Below w.heap.size w w7)
              case atStart => exact ⟨0, by omega, rfl, rfl, fun i hi => absurd hi (by omega), hr, hF, hM, BB⟩
              case round =>
                clear hr hF hM BB
                obtain ⟨m, hm, rfl, rfl, HNO, hr, hF, hM, BB⟩ := hrel
                have HM : Hid (m + gk = n) := hm
                have hmn : m ≤ n := by omega
                clear hm
                by_cases hml : m < n
                · obtain ⟨s2, hs2⟩ : ∃ s, s = ks.getD m ByteArray.empty := ⟨_, rfl⟩
                  have c1 := CN.out wr BB
                  have c2 : wr.cell? ⟨bK, oK + m, none⟩ = some (.string s2) := by rw [hs2]; exact (BB.cell (by exact hbK)).trans (HCK.out m (by rw [HKL.out]; omega))
                  have HS2 : Hid (s2 = ks.getD m ByteArray.empty) := hs2
                  clear hs2
                  have mk : (m : Int) < (k : Int) := by omega
                  by_cases hq : s2 = s
                  · have hb : (s2.toList == s.toList) = true := by rw [hq]; simp
                    have HF : Hid (First ks n m) := ⟨hmn, by rw [← HS2.out, ← HSn.out]; exact hq, HNO.out⟩
                    clear hq
                    go_wp2_with fail
                    go_quiet (fail)
                    go_wp2
                    go_meet
                    case rel => exact ⟨m, rfl, HF, hmn, hr.drewN _, hF.drewN _, hM.drewN _, below_drewN' BB _⟩
                  · have hb : (s2.toList == s.toList) = false := toList_ne hq
                    have HNO2 : Hid (∀ i, i < m + 1 → ks.getD i ByteArray.empty ≠ ks.getD n ByteArray.empty) := by
                      intro i hi
                      by_cases e : i = m
                      · rw [e, ← HS2.out, ← HSn.out]; exact hq
                      · exact HNO.out i (by omega)
                    clear hq
                    go_wp2_with fail
                    go_quiet (fail)
                    go_wp2
                    go_roundg (gk - 1)
                    case measure => have := HM.out; omega
                    case rel => exact ⟨m + 1, by have := HM.out; omega, by go_num, rfl, HNO2, hr.drewN _, hF.drewN _, hM.drewN _, below_drewN' BB _⟩
                · have hmeq : m = n := by omega
                  have HF : Hid (First ks n n) := ⟨Nat.le_refl _, rfl, by rw [← hmeq]; rw [hmeq]; have := HNO.out; rw [hmeq] at this; exact this⟩
                  go_wp2
                  go_meet
                  case rel => exact ⟨n, rfl, HF, Nat.le_refl _, hr, hF, hM, BB⟩
            case rest =>
              clear hr hF hM BB
              obtain ⟨fi, rfl, HF, hfn, hr, hF, hM, BB⟩ := hcut
              have c1 := CN.out wc BB
              have cm := hF.map
              obtain ⟨p, hp⟩ : ∃ p, p = qs.getD fi none := ⟨_, rfl⟩
              have cp : wc.cell? ⟨w.heap.size + 1 + 1, fi, none⟩ = some (.pointer p) := by rw [hp]; exact hr.cell fi (by rw [HQ.out]; omega)
              have fk : (fi : Int) < (k : Int) := by omega
              have e8 := fun w => neq_ptr 86 94 Yba.underlying86 (by kernel_rfl) p w
              have hmem := HF.out.mem hlt
              rw [← HSn.out] at hmem
              have hlk := fun n => (hM.drewN n).look s
              have hlk0 := hM.look s
              have HP : Hid (p = qs.getD fi none) := hp
              clear hp
              have hnohit : (T.isSome = true → s ≠ tidStr T) → lookB L s = true ∧ lookV L s = .pointer p := by
                intro h
                have := left_else ks (fun j => Value.pointer (qs.getD j none)) k hmem h
                rw [← HLL.out] at this
                rw [HP.out]; exact this
              have hhit : T.isSome = true → s = tidStr T → lookB L s = false := by
                intro h1 h2
                rw [HLL.out, h2]; exact left_hit h1 ks _ k
              clear hmem
              by_cases hit : T.isSome = true ∧ s = tidStr T
              · obtain ⟨hT, hst⟩ := hit
                rw [hhit hT hst] at hlk hlk0
                have htb := HTB.out
                rw [hT] at htb
                subst htb
                have HT : Hid (T.isSome = true) := hT
                clear hT
                generalize lookV L s = X at *
                have hb : (s.toList == (tidStr T).toList) = true := by rw [← hst]; simp
                have HST : Hid (s = tidStr T) := hst
                clear hhit hnohit hst
                by_cases hf : fi = n
                · have hb2 : ((fi : Int) == (n : Int)) = true := by rw [hf]; simp
                  obtain ⟨G0, G1⟩ := HF.out.gone_new HT.out (by rw [← HSn.out]; exact HST.out) hf
                  have GD := HF.out.len_new hf
                  have HG : Hid ((E ks (n + 1)).length = D + 1 ∧ gone T ks (n + 1) = R + 1) := ⟨by rw [GD, HD.out], by rw [← HR.out, G0, G1]⟩
                  clear hf G0 G1 GD
                  go_wp2_with fail
                  go_quiet (fail)
                  go_wp2
                  go_roundg (gO - 1)
                  case measure => have := HN.out; omega
                  case rel => exact ⟨n + 1, by have := HN.out; omega, by go_num, by rw [HG.out.1]; go_num, by rw [HG.out.2]; go_num, hr.drewN _, hF.drewN _, hM.drewN _, below_drewN' BB _⟩
                · have hb2 : ((fi : Int) == (n : Int)) = false := by rw [beq_eq_false_iff_ne]; omega
                  have GD := HF.out.len_old hf
                  have GG := HF.out.gone_old (T := T) hf
                  have HG : Hid ((E ks (n + 1)).length = D ∧ gone T ks (n + 1) = R) := ⟨by rw [GD, HD.out], by rw [← HR.out, GG]⟩
                  clear hf GG GD
                  go_wp2_with fail
                  go_quiet (fail)
                  go_wp2
                  go_roundg (gO - 1)
                  case measure => have := HN.out; omega
                  case rel => exact ⟨n + 1, by have := HN.out; omega, by go_num, by rw [HG.out.1], by rw [HG.out.2], hr.drewN _, hF.drewN _, hM.drewN _, below_drewN' BB _⟩
              · have hno : T.isSome = true → s ≠ tidStr T := fun h1 h2 => hit ⟨h1, h2⟩
                obtain ⟨q1, q2⟩ := hnohit hno
                rw [q1, q2] at hlk hlk0
                have GG := HF.out.gone_other (T := T) (by rw [← HSn.out]; exact hno)
                have hcase : tb = false ∨ (tb = true ∧ (s.toList == (tidStr T).toList) = false) := by
                  have htb := HTB.out
                  cases hTb : T.isSome with
                  | false => exact .inl (htb.trans hTb)
                  | true => exact .inr ⟨htb.trans hTb, toList_ne (hno hTb)⟩
                clear hhit hnohit hit hno q1 q2
                by_cases hf : fi = n
                · have hb2 : ((fi : Int) == (n : Int)) = true := by rw [hf]; simp
                  have GD := HF.out.len_new hf
                  have HG : Hid ((E ks (n + 1)).length = D + 1 ∧ gone T ks (n + 1) = R) := ⟨by rw [GD, HD.out], by rw [← HR.out, GG]⟩
                  clear hf GG GD
                  rcases hcase with rfl | ⟨rfl, hb⟩
                  all_goals
                    go_wp2_with fail
                    go_quiet (fail)
                    go_wp2
                    go_roundg (gO - 1)
                    case measure => have := HN.out; omega
                    case rel => exact ⟨n + 1, by have := HN.out; omega, by go_num, by rw [HG.out.1]; go_num, by rw [HG.out.2], hr.drewN _, hF.drewN _, hM.drewN _, below_drewN' BB _⟩
                · have hb2 : ((fi : Int) == (n : Int)) = false := by rw [beq_eq_false_iff_ne]; omega
                  have GD := HF.out.len_old hf
                  have HG : Hid ((E ks (n + 1)).length = D ∧ gone T ks (n + 1) = R) := ⟨by rw [GD, HD.out], by rw [← HR.out, GG]⟩
                  clear hf GG GD
                  rcases hcase with rfl | ⟨rfl, hb⟩
                  all_goals
                    go_wp2_with fail
                    go_quiet (fail)
                    go_wp2
                    go_roundg (gO - 1)
                    case measure => have := HN.out; omega
                    case rel => exact ⟨n + 1, by have := HN.out; omega, by go_num, by rw [HG.out.1], by rw [HG.out.2], hr.drewN _, hF.drewN _, hM.drewN _, below_drewN' BB _⟩
          · have hnk2 : n = k := by omega
            have cm := hF.map
            have hlen := fun ty => hM.len ty
            have HE : Hid ((L.length : Int) = (D : Int) - (R : Int)) := by
              show _ = _
              rw [HLL.out, left_len, ← hnk2, HD.out, HR.out]
            have hb : ((L.length : Int) == (D : Int) - (R : Int)) = true := by rw [beq_iff_eq]; exact HE.out
            clear hnk2
            go_wp2
            go_ret
            exact ⟨rfl, BB⟩
end Go.Proofs.Ybulkdrig
