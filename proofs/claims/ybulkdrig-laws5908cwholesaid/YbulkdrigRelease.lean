/-
  (*dialogue).release (function 10).
-/
import Derived.Test.YbulkdrigBytes
namespace Go.Proofs.Ybulkdrig
open Go.RowKit
set_option linter.unusedVariables false

/-- The cells of a dialogue: its IIF, the VLR's transaction, its own, the last invoke, whether it has ended. -/
def dcells (gF : Nat) (v t : Value) (inv : Int) (en : Bool) : Array Value :=
  #[Value.pointer (some ⟨gF, 0, none⟩), Value.pointer none, Value.nilFunc, v, Value.pointer none, Value.pointer none, t, Value.chan none, Value.int IntKind.i64 inv, Value.bool en]
def DBlk (w : World) (g gF : Nat) (v t : Value) (inv : Int) (en : Bool) : Prop := w.heap[g]? = some (.cells (dcells gF v t inv en) 94 (0, 0))
section
variable {w : World} {g gF : Nat} {v t : Value} {inv : Int} {en : Bool}
theorem DBlk.keep {w' : World} (h : DBlk w g gF v t inv en) (e : w'.heap[g]? = w.heap[g]?) : DBlk w' g gF v t inv en := by unfold DBlk at *; rw [e]; exact h
theorem DBlk.lt (h : DBlk w g gF v t inv en) : g < w.heap.size := lt_of_block h
theorem DBlk.cf (h : DBlk w g gF v t inv en) : w.cell? ⟨g, 0, none⟩ = some (.pointer (some ⟨gF, 0, none⟩)) := by rw [cell_of_row w g 0 _ 94 (0, 0) h]; rfl
theorem DBlk.cv (h : DBlk w g gF v t inv en) : w.cell? ⟨g, 3, none⟩ = some v := by rw [cell_of_row w g 3 _ 94 (0, 0) h]; rfl
theorem DBlk.ct (h : DBlk w g gF v t inv en) : w.cell? ⟨g, 6, none⟩ = some t := by rw [cell_of_row w g 6 _ 94 (0, 0) h]; rfl
theorem DBlk.ci (h : DBlk w g gF v t inv en) : w.cell? ⟨g, 8, none⟩ = some (.int .i64 inv) := by rw [cell_of_row w g 8 _ 94 (0, 0) h]; rfl
theorem DBlk.ce (h : DBlk w g gF v t inv en) : w.cell? ⟨g, 9, none⟩ = some (.bool en) := by rw [cell_of_row w g 9 _ 94 (0, 0) h]; rfl
theorem DBlk.free (h : DBlk w g gF v t inv en) (j : Nat) : w.frozen? ⟨g, j, none⟩ = false := frozen_of_row w g j _ 94 h
theorem DBlk.set (h : DBlk w g gF v t inv en) (u : Value) : DBlk (w.setCell ⟨g, 6, none⟩ u) g gF v u inv en := by
  unfold DBlk at *
  rw [heap_setCell_same w g 6 _ 94 _ h]
  rfl
theorem DBlk.grown {w' : World} {row : Option Nat} (h : DBlk w g gF v t inv en) (hg : w.grownBy w' row) (hne : some g ≠ row) : DBlk w' g gF v t inv en := h.keep (hg.block g h.lt hne)
theorem DBlk.other (h : DBlk w g gF v t inv en) {a : Addr} (ha : g ≠ a.block) (u : Value) : DBlk (w.setCell a u) g gF v t inv en := h.keep (heap_setCell_other w a g u ha)
end

set_option maxRecDepth 100000 in
set_option maxHeartbeats 800000 in
theorem release_nil (gD gF : Nat) (v : Value) (inv : Int) (en : Bool) (w : World) (hD : DBlk w gD gF v (.slice none 0 0) inv en) :
    Calls Yba.prog 10 #[.pointer (some ⟨gD, 0, none⟩)] w fun e w' => e = .returned (.tuple #[]) ∧ w' = w := by
  have e1 := fun w => Lib.run_eql_slice_nil (P := Yba.prog) w 22 5 none 0 0 0 0 Yba.underlying22
  have ct := hD.ct
  go_enter Yba.func10, Yba.ntmps10
  go_wp2
  exact bodyPost_ret (results_none rfl _ _ _) rfl ⟨rfl, rfl⟩

set_option maxRecDepth 100000 in
set_option maxHeartbeats 2000000 in
theorem release_some (gD gF gM g n c : Nat) (v : Value) (bs : List Int) (inv : Int) (en : Bool) (l : List (ByteArray × Value)) (w : World) (hn : n = bs.length)
    (hD : DBlk w gD gF v (.slice (some ⟨g, 0, none⟩) n c) inv en) (hF : FBlk w gF 0 gM) (hM : MapIs w gM l) (hR : Row w g bs) (n1 : gD ≠ gF) (n2 : gD ≠ gM) (n3 : gF ≠ gM) (n4 : g ≠ gD) (n5 : g ≠ gF) (n6 : g ≠ gM) :
    Calls Yba.prog 10 #[.pointer (some ⟨gD, 0, none⟩)] w fun e w' => e = .returned (.tuple #[]) ∧ DBlk w' gD gF v (.slice none 0 0) inv en ∧ FBlk w' gF 0 gM ∧ MapIs w' gM (struck l (strOfNums bs)) ∧
      (∀ k, k < w.heap.size → k ≠ gD → k ≠ gF → k ≠ gM → w'.heap[k]? = w.heap[k]?) ∧ (∀ B, B ≤ gD → B ≤ gF → B ≤ gM → Below B w w') := by
  have e1 := fun w => Lib.run_eql_slice_nil (P := Yba.prog) w 22 5 (some ⟨g, 0, none⟩) n c 0 0 Yba.underlying22
  have ct := hD.ct
  have cf := hD.cf
  have HN : Hid (n = bs.length) := hn
  clear hn
  go_enter Yba.func10, Yba.ntmps10
  go_wp2_with fail
  refine (lock_free gF 13 w hF.state (hF.free 13)).mono ?_
  rintro e w1 ⟨rfl, hw1⟩
  have hF1 : FBlk w1 gF 1 gM := by rw [hw1]; exact hF.set 1
  have hD1 : DBlk w1 gD gF v (.slice (some ⟨g, 0, none⟩) n c) inv en := by rw [hw1]; exact hD.other n1 _
  have hM1 : MapIs w1 gM l := by rw [hw1]; exact hM.other (fun e => n3 e.symm) _
  have hR1 : Row w1 g bs := by rw [hw1]; exact hR.other n5 _
  have hS1 : ∀ k, k ≠ gF → w1.heap[k]? = w.heap[k]? := fun k hk => by rw [hw1]; exact heap_setCell_other w _ k _ hk
  have hz1 : w1.heap.size = w.heap.size := by rw [hw1]; simp
  have hb1 : ∀ B, B ≤ gF → Below B w w1 := fun B hB => by rw [hw1]; exact (Below.refl _ _).setCell hB _
  have HS1 : Hid ((∀ k, k ≠ gF → w1.heap[k]? = w.heap[k]?) ∧ w1.heap.size = w.heap.size ∧ ∀ B, B ≤ gF → Below B w w1) := ⟨hS1, hz1, hb1⟩
  clear hw1 hS1 hz1 hb1 hF hD hM hR ct cf
  have ct := hD1.ct
  have cf := hD1.cf
  have cm := hF1.map
  have cv := conv_bytes (hR1.drew).bytesAt c (fun h => by simp at h)
  rw [← HN.out] at cv
  obtain ⟨w2, hdel, hM2, hg2⟩ := (hM1.drew).drop (strOfNums bs) 0
  go_wp2_with fail
  go_region
  have hD2 : DBlk w2 gD gF v (.slice (some ⟨g, 0, none⟩) n c) inv en := DBlk.grown (w := w1.drew) hD1 hg2 (by simp; exact n2)
  have hF2 : FBlk w2 gF 1 gM := FBlk.grown (w := w1.drew) hF1 hg2 (by simp; exact n3)
  have HS2 : Hid ((∀ k, k < w.heap.size → k ≠ gF → k ≠ gM → w2.heap[k]? = w.heap[k]?) ∧ ∀ B, B ≤ gF → B ≤ gM → Below B w w2) := by
    obtain ⟨h1, h2, h3⟩ := HS1.out
    refine ⟨fun k hk hF hM => (hg2.block k (by show k < w1.heap.size; omega) (by simpa using hM)).trans (h1 k hF), fun B h4 h5 => ?_⟩
    exact below_gb ((h3 B h4).drew) hg2 (by have := hF1.lt; show B ≤ w1.heap.size; omega) (by simp; omega)
  clear hF1 hD1 hM1 hR1 HS1 ct cf cm cv hdel hg2
  have ct := hD2.ct
  have cf := hD2.cf
  have f6 := fun x => (hD2.other (a := ⟨gF, 13, none⟩) n1 x).free 6
  go_wp2_with fail
  refine (unlock_held gF 13 w2 hF2.state (hF2.free 13)).mono ?_
  rintro e w3 ⟨rfl, hw3⟩
  have hF3 : FBlk w3 gF 0 gM := by rw [hw3]; exact hF2.set 0
  have hD3 : DBlk w3 gD gF v (.slice (some ⟨g, 0, none⟩) n c) inv en := by rw [hw3]; exact hD2.other n1 _
  have hM3 : MapIs w3 gM (struck l (strOfNums bs)) := by rw [hw3]; exact hM2.other (fun e => n3 e.symm) _
  have HS3 : Hid ((∀ k, k < w.heap.size → k ≠ gF → k ≠ gM → w3.heap[k]? = w.heap[k]?) ∧ ∀ B, B ≤ gF → B ≤ gM → Below B w w3) := by
    obtain ⟨h1, h2⟩ := HS2.out
    refine ⟨fun k hk hF hM => ?_, fun B h4 h5 => ?_⟩
    · rw [hw3]; exact (heap_setCell_other w2 _ k _ hF).trans (h1 k hk hF hM)
    · rw [hw3]; exact (h2 B h4 h5).setCell h4 _
  clear hw3 hF2 hD2 hM2 HS2 ct cf f6
  have ct := hD3.ct
  have f6 := hD3.free 6
  go_wp2
  go_end0
  obtain ⟨h1, h2⟩ := HS3.out
  exact ⟨rfl, hD3.set _, hF3.other (fun e => n1 e.symm) _, hM3.other (fun e => n2 e.symm) _, fun k hk h3 h4 h5 => (heap_setCell_other w3 _ k _ h3).trans (h1 k hk h4 h5), fun B h3 h4 h5 => (h2 B h4 h5).setCell h3 _⟩
end Go.Proofs.Ybulkdrig
