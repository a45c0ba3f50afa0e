/-
  From the reading of the arguments to what the walk of LawS5908CWhole asks.
-/
import Derived.Test.YbulkdrigWalkC
import Derived.ProofKit
import Derived.OpenShut
import Derived.ShutString
import Derived.ChangeOld
import Derived.Below
import Derived.SliceStrings
import Derived.SizedLaws
namespace Go.Proofs.Ybulkdrig
open Go.ChangeShapes Go.WideShapes Go.ChangeAt Go.RowKit
set_option linter.unusedVariables false

theorem bytes5 : Yba.prog.bytesOf 5 = 1 := by kernel_rfl
theorem cells5' : Yba.prog.cellsOf 5 = 1 := by kernel_rfl
theorem cells9' : Yba.prog.cellsOf 9 = 1 := by kernel_rfl

theorem came_of {H : Type} {enc : TypeId × Value → H} {W : World} {a : Option Addr} {n c : Nat} {d : DataW H} {ps : List MemPlace} (h : DataW.Trod enc Yba.prog W 0 (fun _ => true) true 22 (.slice a n c) d ps)
    (hw : ∀ m ∈ d.weights Yba.prog 22, m ≤ reachBytes) : ∃ T, CameIs W a n c T ∧ n ≤ 140737488351232 := by
  obtain ⟨fuel, hf⟩ := h
  rcases open_ints Yba.underlying22 Yba.underlying5 cells5' hf with ⟨hcs, _⟩ | ⟨x, l, cc, zs, hcs, _, hl, hm, hz, hx, hcell, hwz⟩
  · simp [Value.cells] at hcs
    obtain ⟨rfl, rfl, rfl⟩ := hcs
    exact ⟨none, ⟨rfl, rfl, rfl⟩, by omega⟩
  · simp [Value.cells] at hcs
    obtain ⟨rfl, rfl, rfl⟩ := hcs
    simp only [Prod.mk.injEq] at hx
    obtain ⟨rfl, rfl⟩ := hx
    have hzl : zs.length = c := by simpa using hz
    have hlen := hw ((List.take n zs).length + (List.drop n zs).length) (by simp [DataW.weights, Yba.underlying22, bytes5, lits])
    refine ⟨some (zs.take n), ⟨x, rfl, by simp; omega, ?_⟩, by simp [reachBytes] at hlen; omega⟩
    intro h0
    have h0' : 0 < n := by simp at h0; omega
    refine ⟨x, rfl, ?_, fun j hj => ?_⟩
    · have := block_lt_of_cell (hcell 0 (by omega))
      have e : (x.add 0).block = x.block := by unfold Addr.add; split <;> rfl
      rw [e] at this; exact this
    · have hj' : j < n := by simp at hj; omega
      rw [hcell j (by omega), List.getD_eq_getElem?_getD, List.getD_eq_getElem?_getD, List.getElem?_take_of_lt hj']

theorem keys_of {H : Type} {enc : TypeId × Value → H} {W : World} {a : Option Addr} {n c : Nat} {d : DataW H} {ps : List MemPlace} (h : DataW.Trod enc Yba.prog W 0 (fun _ => true) true 50 (.slice a n c) d ps)
    (hw : ∀ m ∈ d.weights Yba.prog 50, m ≤ reachBytes) : ∃ ks : List ByteArray, ks.length = n ∧ KeysAt W a ks ∧ ∀ s ∈ ks, s.size ≤ 140737488351232 := by
  obtain ⟨fuel, hf⟩ := h
  rcases open_strings Yba.underlying50 Yba.underlying9 cells9' hf with ⟨hcs, _⟩ | ⟨x, l, cc, ss, hcs, _, hl, hm, hz, hx, hcell, hws⟩
  · simp [Value.cells] at hcs
    obtain ⟨rfl, rfl, rfl⟩ := hcs
    exact ⟨[], rfl, fun j hj => by simp at hj, fun s hs => by simp at hs⟩
  · simp [Value.cells] at hcs
    obtain ⟨rfl, rfl, rfl⟩ := hcs
    simp only [Prod.mk.injEq] at hx
    obtain ⟨rfl, rfl⟩ := hx
    have hzl : ss.length = c := by simpa using hz
    have all : ∀ (l : List ByteArray) (s : ByteArray), s ∈ l → s.size ∈ DataW.weightsAll (H := H) Yba.prog 9 (strs l) := by
      intro l
      induction l with
      | nil => intro s hs; simp at hs
      | cons y l ih =>
        intro s hs
        rcases List.mem_cons.1 hs with e | hs
        · subst e
          simp only [strs, List.map_cons, DataW.weightsAll, DataW.weights, List.mem_append]
          refine .inl ?_
          rw [Array.length_toList]
          exact List.mem_singleton.2 rfl
        · have := ih s hs
          simp only [strs, List.map_cons, DataW.weightsAll, List.mem_append]
          exact .inr this
    refine ⟨ss.take n, by simp; omega, ?_, ?_⟩
    · intro j hj
      have hj' : j < n := by simp at hj; omega
      have hsp : x.spot = none := by
        have h1 := World.cell?_spot (hcell 0 (by omega))
        unfold Addr.add at h1
        split at h1 <;> simp_all
      obtain ⟨b, off, spot⟩ := x
      simp only at hsp
      subst hsp
      have hadd : ∀ i, (⟨b, off, none⟩ : Addr).add i = ⟨b, off + i, none⟩ := fun i => by unfold Addr.add; split <;> simp_all
      refine ⟨b, off, rfl, ?_, fun i hi => ?_⟩
      · exact block_lt_of_cell (a := ⟨b, off + 0, none⟩) (by rw [← hadd]; exact hcell 0 (by omega))
      · have hi' : i < n := by simp at hi; omega
        rw [← hadd, hcell i (by omega), List.getD_eq_getElem?_getD, List.getD_eq_getElem?_getD, List.getElem?_take_of_lt hi']
    · intro s hs
      have := hw s.size (by
        simp only [DataW.weights, Yba.underlying50, List.mem_cons, List.mem_append]
        exact .inr (.inl (all _ s hs)))
      simpa [reachBytes] using this
end Go.Proofs.Ybulkdrig
