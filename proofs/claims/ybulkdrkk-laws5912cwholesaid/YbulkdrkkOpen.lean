/-
  From the reading of the arguments to what the walk of LawS5912CWhole asks.
-/
import Derived.Test.YbulkdrkkLaw
import Derived.ProofKit
import Derived.OpenShut
import Derived.ShutString
import Derived.ChangeOld
import Derived.Below
import Derived.SizedLaws
import Derived.Deep.SlicePairs
namespace Go.Proofs.Ybulkdrkk
open Go.ChangeShapes Go.WideShapes Go.ChangeAt Go.RowKit
set_option linter.unusedVariables false

theorem bytes5 : Yba.prog.bytesOf 5 = 1 := by kernel_rfl
theorem bytes28 : Yba.prog.bytesOf 28 = 32 := by kernel_rfl
theorem cells5' : Yba.prog.cellsOf 5 = 1 := by kernel_rfl
theorem cells22' : Yba.prog.cellsOf 22 = 1 := by kernel_rfl
theorem cells23' : Yba.prog.cellsOf 23 = 1 := by kernel_rfl
theorem cells24' : Yba.prog.cellsOf 24 = 1 := by kernel_rfl
theorem cells28' : Yba.prog.cellsOf 28 = 2 := by kernel_rfl
theorem cells26' : Yba.prog.cellsOf 26 = 6 := by kernel_rfl

section
variable {H : Type} {enc : TypeId × Value → H} {W : World}

theorem weightsAll_mem {P : Program} {e : TypeId} {d : DataW H} {n : Nat} (hn : n ∈ d.weights P e) : ∀ l : List (DataW H), d ∈ l → n ∈ DataW.weightsAll P e l
  | [], h => by simp at h
  | x :: l, h => by
    simp only [DataW.weightsAll, List.mem_append]
    rcases List.mem_cons.1 h with rfl | h
    · exact .inl hn
    · exact .inr (weightsAll_mem hn l h)
theorem spot_none {a : Addr} {v : Value} (h : W.cell? (a.add 0) = some v) : ∃ b o, a = ⟨b, o, none⟩ := by
  have h1 := World.cell?_spot h
  obtain ⟨b, off, spot⟩ := a
  have : spot = none := by
    unfold Addr.add at h1
    split at h1 <;> simp_all
  subst this
  exact ⟨b, off, rfl⟩

theorem rd_cells {fuel : Nat} {v : Value} {x : DataW H × List MemPlace} (h : DataW.trod enc Yba.prog W 0 (fun _ => true) true fuel 23 [v] = some x) (hw : ∀ m ∈ x.1.weights Yba.prog 23, m ≤ reachBytes) :
    ∃ T ao c, v = .slice ao (olen T) c ∧ Rd W (.slice ao (olen T) c) T (fun _ => False) ∧ OkT T := by
  rcases open_ints Yba.underlying23 Yba.underlying5 cells5' h with ⟨hcs, _⟩ | ⟨a, l, cc, zs, hcs, _, hl, hm, hz, hx, hcell, hwz⟩
  · obtain rfl : v = .slice none 0 0 := by simpa using hcs
    exact ⟨none, none, 0, rfl, rfl, by show (0 : Nat) ≤ _; omega, fun xs e => by cases e⟩
  · obtain rfl : v = .slice (some a) l cc := by simpa using hcs
    subst hx
    have hzl : zs.length = cc := by simpa using hz
    have hlen := hw ((List.take l zs).length + (List.drop l zs).length) (by simp [DataW.weights, Yba.underlying23, bytes5, lits])
    have htl : (zs.take l).length = l := by simp; omega
    have hol : olen (some (zs.take l)) = l := htl
    refine ⟨some (zs.take l), some a, cc, by rw [hol], ?_, ?_, ?_⟩
    · refine ⟨a, cc, rfl, by rw [htl]; exact hl, fun h0 => ⟨?_, fun f => f, fun j hj => ?_⟩⟩
      · have := block_lt_of_cell (hcell 0 (by omega))
        rw [add_block] at this; exact this
      · have hj' : j < l := by omega
        rw [hcell j (by omega), List.getD_eq_getElem?_getD, List.getD_eq_getElem?_getD, List.getElem?_take_of_lt hj']
    · rw [hol]; simp [reachBytes] at hlen; omega
    · intro xs e z hz'
      cases e
      exact bounds_u8 (hwz z (List.mem_of_mem_take hz'))

theorem x_cells {fuel : Nat} {v : Value} {x : DataW H × List MemPlace} (h : DataW.trod enc Yba.prog W 0 (fun _ => true) true fuel 24 [v] = some x) (hw : ∀ m ∈ x.1.weights Yba.prog 24, m ≤ reachBytes) :
    ∃ X ao c, v = .slice ao (xlen X) c ∧ XRd W (.slice ao (xlen X) c) X (fun _ => False) ∧ OkX X := by
  rcases Deep.open_slice_pairs Yba.underlying24 Yba.underlying28 cells28' rfl rfl cells22' cells23' h with ⟨hcs, _⟩ | ⟨a, len, cap, m, n, V0, V1, D0, D1, P0, P1, hcs, _, hl, hm, hmm, hx, hall⟩
  · obtain rfl : v = .slice none 0 0 := by simpa using hcs
    exact ⟨none, none, 0, rfl, rfl, by show (0 : Nat) ≤ _; omega, fun e he => by simp [toX] at he⟩
  · obtain rfl : v = .slice (some a) len cap := by simpa using hcs
    subst hx
    have hmc : m = cap := by simpa using hmm
    have hlen := hw ((((List.range len).map fun i => DataW.agg [D0 i, D1 i]).length + ((List.range (m - len)).map fun j => DataW.agg [D0 (len + j), D1 (len + j)]).length) * 32) (by
      simp only [DataW.weights, Yba.underlying24, bytes28]; exact List.mem_cons_self)
    have each : ∀ i, i < len → ∃ e : Ext, W.cell? (a.add (i * 2)) = some (.int .u16 e.1) ∧ (∃ d, W.cell? (a.add (i * 2 + 1)) = some d ∧ Rd W d e.2 (fun _ => False)) ∧ OkT e.2 ∧ 0 ≤ e.1 ∧ e.1 ≤ 65535 := by
      intro i hi
      obtain ⟨g0, g1, g2, g3⟩ := hall i (by omega)
      obtain ⟨z, hz, _, hwf⟩ := DataW.trod_int Yba.underlying22 g2
      have hz' : V0 i = .int .u16 z := by simpa using hz
      obtain ⟨T, ao, c, hv, hr, hok⟩ := rd_cells g3 (fun m' hm' => hw m' (by
        simp only [DataW.weights, Yba.underlying24, List.mem_cons, List.mem_append]
        refine .inr (.inl (weightsAll_mem (d := .agg [D0 i, D1 i]) ?_ _ (List.mem_map.2 ⟨i, List.mem_range.2 hi, rfl⟩)))
        simp only [DataW.weights, Yba.underlying28]
        simp only [List.map_cons, List.map_nil, DataW.weightsEach, List.mem_append]
        exact .inr (.inl hm')))
      exact ⟨(z, T), by rw [g0, hz'], ⟨V1 i, g1, by rw [hv]; exact hr⟩, hok, bounds_u16 hwf⟩
    obtain ⟨q, hq⟩ := Deep.choose_lt each
    have hql : ((List.range len).map q).length = len := by simp
    refine ⟨some ((List.range len).map q), some a, cap, by show Value.slice _ _ _ = Value.slice _ ((List.range len).map q).length _; rw [hql], ?_, ?_, ?_⟩
    · refine ⟨a, cap, rfl, by rw [hql]; exact hl, fun h0 => ?_⟩
      obtain ⟨b, o, rfl⟩ := spot_none (hq 0 (by omega)).1
      have hadd : ∀ i, (⟨b, o, none⟩ : Addr).add i = ⟨b, o + i, none⟩ := fun i => by unfold Addr.add; split <;> simp_all
      refine ⟨b, o, rfl, ?_, fun f => f, fun j e he => ?_⟩
      · have := block_lt_of_cell (hq 0 (by omega)).1
        rw [add_block] at this; exact this
      · obtain ⟨hj, he'⟩ := List.getElem?_eq_some_iff.1 he
        have hj' : j < len := by omega
        have : e = q j := by rw [← he']; simp
        subst this
        obtain ⟨c0, ⟨d, c1, hd⟩, _⟩ := hq j hj'
        rw [hadd] at c0 c1
        rw [Nat.mul_comm j 2] at c0 c1
        exact ⟨c0, d, by rw [Nat.add_assoc]; exact c1, hd⟩
    · show ((List.range len).map q).length ≤ _
      rw [hql]
      simp [reachBytes] at hlen
      omega
    · intro e he
      obtain ⟨i, hi, rfl⟩ := List.mem_map.1 he
      exact (hq i (List.mem_range.1 hi)).2.2

theorem str_cells {fuel : Nat} {v : Value} {x : DataW H × List MemPlace} (hv : ∃ cs, v = .agg cs ∧ cs.size = Yba.prog.cellsOf 26) (h : DataW.trod enc Yba.prog W 0 (fun _ => true) true fuel 26 v.cells.toList = some x) (hw : ∀ m ∈ x.1.weights Yba.prog 26, m ≤ reachBytes) :
    ∃ i0 R oR cR S oS cS i3 i4 X oX cX, v = .agg #[.int .u16 i0, .slice oR (olen R) cR, .slice oS (olen S) cS, .int .u16 i3, .int .u8 i4, .slice oX (xlen X) cX] ∧
      Rd W (.slice oR (olen R) cR) R (fun _ => False) ∧ OkT R ∧ Rd W (.slice oS (olen S) cS) S (fun _ => False) ∧ OkT S ∧ XRd W (.slice oX (xlen X) cX) X (fun _ => False) ∧ OkX X := by
  obtain ⟨cs, rfl, hcs⟩ := hv
  rw [cells26'] at hcs
  obtain ⟨xs, n, _, rfl, hlen, hxl, hf⟩ := DataW.trod_struct Yba.underlying26 h
  have hl : cs.toList.length = 6 := by simpa using hcs
  have hce : (Value.agg cs).cells.toList = cs.toList := rfl
  rw [hce] at hf
  match hcl : cs.toList, hl with
  | [c0, c1, c2, c3, c4, c5], _ =>
    rw [hcl] at hf
    match xs, hxl with
    | [x0, x1, x2, x3, x4, x5], _ =>
      have g0 := hf 0 _ rfl
      have g1 := hf 1 _ rfl
      have g2 := hf 2 _ rfl
      have g3 := hf 3 _ rfl
      have g4 := hf 4 _ rfl
      have g5 := hf 5 _ rfl
      simp [cells22', cells23', cells24', cells5'] at g0 g1 g2 g3 g4 g5
      have hwe : ∀ m, m ∈ DataW.weightsEach Yba.prog [22, 23, 23, 22, 5, 24] [x0.1, x1.1, x2.1, x3.1, x4.1, x5.1] → m ≤ reachBytes := fun m hm => hw m (by
        simp only [DataW.weights, Yba.underlying26, List.map_cons, List.map_nil]
        exact hm)
      obtain ⟨i0, e0, _, _⟩ := DataW.trod_int Yba.underlying22 g0
      obtain ⟨i3, e3, _, _⟩ := DataW.trod_int Yba.underlying22 g3
      obtain ⟨i4, e4, _, _⟩ := DataW.trod_int Yba.underlying5 g4
      obtain ⟨R, oR, cR, e1, r1, k1⟩ := rd_cells g1 (fun m hm => hwe m (DataW.weights_mem_each (j := 1) rfl rfl m hm))
      obtain ⟨S, oS, cS, e2, r2, k2⟩ := rd_cells g2 (fun m hm => hwe m (DataW.weights_mem_each (j := 2) rfl rfl m hm))
      obtain ⟨X, oX, cX, e5, r5, k5⟩ := x_cells g5 (fun m hm => hwe m (DataW.weights_mem_each (j := 5) rfl rfl m hm))
      refine ⟨i0, R, oR, cR, S, oS, cS, i3, i4, X, oX, cX, ?_, r1, k1, r2, k2, r5, k5⟩
      have e0' : c0 = .int .u16 i0 := by simpa using e0
      have e3' : c3 = .int .u16 i3 := by simpa using e3
      have e4' : c4 = .int .u8 i4 := by simpa using e4
      have : cs = #[c0, c1, c2, c3, c4, c5] := by rw [← hcl]
      rw [this, e0', e1, e2, e3', e4', e5]
end
end Go.Proofs.Ybulkdrkk
