/-
  Frames with several blocks let go; blocks of cells; what a byte slice reads as; the plain reading of a ServerHello body.
-/
import Derived.Test.YbulkdrkkMem
namespace Go.Proofs.Ybulkdrkk
open Go.RowKit
set_option linter.unusedVariables false

/-- All blocks of w but those of S are as they were. -/
structure Kp (w w' : World) (S : List Nat) : Prop where
  os : w'.os = w.os
  tape : w'.tape = w.tape
  output : w'.output = w.output
  size : w.heap.size ≤ w'.heap.size
  block : ∀ k, k < w.heap.size → k ∉ S → w'.heap[k]? = w.heap[k]?
theorem Kp.refl (w : World) (S : List Nat) : Kp w w S := ⟨rfl, rfl, rfl, Nat.le_refl _, fun _ _ _ => rfl⟩
theorem Kp.trans {a b c : World} {S : List Nat} (h : Kp a b S) (k : Kp b c S) : Kp a c S :=
  ⟨k.os.trans h.os, k.tape.trans h.tape, k.output.trans h.output, Nat.le_trans h.size k.size, fun i hi hn => (k.block i (Nat.lt_of_lt_of_le hi h.size) hn).trans (h.block i hi hn)⟩
theorem Kp.alloc {a w : World} {S : List Nat} (h : Kp a w S) (o : Obj) : Kp a (w.alloc o) S :=
  h.trans ⟨rfl, rfl, rfl, by simp, fun k hk _ => Below.heap_alloc w o k hk⟩
theorem Kp.drew {a w : World} {S : List Nat} (h : Kp a w S) : Kp a w.drew S := ⟨h.os, h.tape, h.output, h.size, h.block⟩
theorem Kp.drewN {a w : World} {S : List Nat} (h : Kp a w S) (n : Nat) : Kp a (w.drewN n) S := ⟨h.os, h.tape, h.output, h.size, h.block⟩
theorem Kp.undrew {a w : World} {S : List Nat} (h : Kp a.drew w S) : Kp a w S := ⟨h.os, h.tape, h.output, h.size, h.block⟩
theorem Kp.set {a w : World} {S : List Nat} (h : Kp a w S) (g j : Nat) (v : Value) (hg : g ∈ S) : Kp a (w.setCell ⟨g, j, none⟩ v) S :=
  h.trans ⟨rfl, rfl, rfl, by simp [World.setCell], fun k _ hne => heap_setCell_other w _ k v (fun e => hne (by rw [e]; exact hg))⟩
theorem Kp.mono {a w : World} {S T : List Nat} (h : Kp a w S) (hs : ∀ k, k ∈ S → k < a.heap.size → k ∈ T) : Kp a w T :=
  ⟨h.os, h.tape, h.output, h.size, fun k hk hn => h.block k hk (fun e => hn (hs k e hk))⟩
theorem Kp.setNew {a w : World} {S : List Nat} (h : Kp a w S) (g j : Nat) (v : Value) (hg : a.heap.size ≤ g) : Kp a (w.setCell ⟨g, j, none⟩ v) S :=
  ⟨h.os, h.tape, h.output, by simp [World.setCell]; exact h.size, fun k hk hn => (heap_setCell_other w _ k v (fun e => by simp at e; omega)).trans (h.block k hk hn)⟩
theorem Kp.below {a w : World} {S : List Nat} (h : Kp a w S) (B : Nat) (hB : B ≤ a.heap.size) (hs : ∀ k ∈ S, B ≤ k) : Below B a w :=
  ⟨h.os, h.tape, h.output, h.size, fun k hk => h.block k (by omega) (fun e => by have := hs k e; omega)⟩
theorem Kp.ofBelow {a w : World} (h : Below a.heap.size a w) (S : List Nat) : Kp a w S := ⟨h.os, h.tape, h.output, h.size, fun k hk _ => h.block k hk⟩
theorem Kp.ofGb {a w : World} {row : Option Nat} (h : a.grownBy w row) (S : List Nat) (hs : ∀ k, row = some k → k < a.heap.size → k ∈ S) : Kp a w S :=
  ⟨h.os, h.tape, h.output, h.size, fun k hk hn => h.block k hk (fun e => hn (hs k e.symm hk))⟩

/-- Block g holds the cells cs, and no cell of it is frozen. -/
def Blk (w : World) (g : Nat) (cs : List Value) (t : TypeId) : Prop := w.heap[g]? = some (.cells cs.toArray t (0, 0))
theorem Blk.cell {w : World} {g : Nat} {cs : List Value} {t : TypeId} (h : Blk w g cs t) (j : Nat) : w.cell? ⟨g, j, none⟩ = cs[j]? := by
  rw [cell_of_row w g j _ t (0, 0) h]; simp
theorem Blk.free {w : World} {g : Nat} {cs : List Value} {t : TypeId} (h : Blk w g cs t) (j : Nat) : w.frozen? ⟨g, j, none⟩ = false := frozen_of_row w g j _ t h
theorem Blk.lt {w : World} {g : Nat} {cs : List Value} {t : TypeId} (h : Blk w g cs t) : g < w.heap.size := lt_of_block h
theorem Blk.set {w : World} {g : Nat} {cs : List Value} {t : TypeId} (h : Blk w g cs t) (j : Nat) (v : Value) : Blk (w.setCell ⟨g, j, none⟩ v) g (cs.set j v) t := by
  unfold Blk at *
  rw [heap_setCell_same w g j _ t _ h]
  simp
theorem Blk.keep {w w' : World} {g : Nat} {cs : List Value} {t : TypeId} (h : Blk w g cs t) (e : w'.heap[g]? = w.heap[g]?) : Blk w' g cs t := by
  unfold Blk at *; rw [e]; exact h
theorem Blk.alloc {w : World} {g : Nat} {cs : List Value} {t : TypeId} (h : Blk w g cs t) (o : Obj) : Blk (w.alloc o) g cs t := h.keep (Below.heap_alloc w o g h.lt)
theorem Blk.drew {w : World} {g : Nat} {cs : List Value} {t : TypeId} (h : Blk w g cs t) : Blk w.drew g cs t := h
theorem Blk.drewN {w : World} {g : Nat} {cs : List Value} {t : TypeId} (h : Blk w g cs t) (n : Nat) : Blk (w.drewN n) g cs t := h
theorem Blk.other {w : World} {g : Nat} {cs : List Value} {t : TypeId} (h : Blk w g cs t) {a : Addr} (ha : g ≠ a.block) (v : Value) : Blk (w.setCell a v) g cs t := h.keep (heap_setCell_other w a g v ha)
theorem Blk.kept {w w' : World} {g : Nat} {cs : List Value} {t : TypeId} {S : List Nat} (h : Blk w g cs t) (hk : Kp w w' S) (hn : g ∉ S) : Blk w' g cs t := h.keep (hk.block g h.lt hn)
theorem Blk.made (w : World) (cs : List Value) (t : TypeId) : Blk (w.alloc (.cells cs.toArray t)) w.heap.size cs t := heap_alloc_new w _

/-- The bytes xs lie at ad, in a block that is not bad. -/
def At (w : World) (ad : Addr) (xs : List Int) (bad : Nat → Prop) : Prop := 0 < xs.length → ad.block < w.heap.size ∧ ¬ bad ad.block ∧ ∀ j, j < xs.length → w.cell? (ad.add j) = some (.int .u8 (xs.getD j 0))
/-- What a byte slice reads as. -/
def Rd (w : World) (v : Value) (T : Option (List Int)) (bad : Nat → Prop) : Prop :=
  match T with
  | none => v = .slice none 0 0
  | some xs => ∃ ad cap, v = .slice (some ad) xs.length cap ∧ xs.length ≤ cap ∧ At w ad xs bad

theorem add_block (ad : Addr) (j : Nat) : (ad.add j).block = ad.block := by unfold Addr.add; split <;> rfl
theorem At.kept {w w' : World} {ad : Addr} {xs : List Int} {bad : Nat → Prop} {S : List Nat} (h : At w ad xs bad) (hk : Kp w w' S) (hs : ∀ k ∈ S, k < w.heap.size → bad k) : At w' ad xs bad := by
  intro h0
  obtain ⟨h1, h2, h3⟩ := h h0
  refine ⟨Nat.lt_of_lt_of_le h1 hk.size, h2, fun j hj => ?_⟩
  rw [← h3 j hj]
  apply World.cell?_of_block
  rw [add_block]
  exact hk.block _ h1 (fun e => h2 (hs _ e h1))
theorem Rd.kept {w w' : World} {v : Value} {T : Option (List Int)} {bad : Nat → Prop} {S : List Nat} (h : Rd w v T bad) (hk : Kp w w' S) (hs : ∀ k ∈ S, k < w.heap.size → bad k) : Rd w' v T bad := by
  cases T with
  | none => exact h
  | some xs => obtain ⟨ad, cap, e, hc, h⟩ := h; exact ⟨ad, cap, e, hc, h.kept hk hs⟩
theorem Rd.rebad {w : World} {v : Value} {T : Option (List Int)} {bad bad' : Nat → Prop} (h : Rd w v T bad) (hg : ∀ k, k < w.heap.size → bad' k → bad k) : Rd w v T bad' := by
  cases T with
  | none => exact h
  | some xs =>
    obtain ⟨ad, cap, e, hc, h⟩ := h
    exact ⟨ad, cap, e, hc, fun h0 => ⟨(h h0).1, fun e => (h h0).2.1 (hg _ (h h0).1 e), (h h0).2.2⟩⟩
theorem Rd.grown {w w' : World} {v : Value} {T : Option (List Int)} {bad : Nat → Prop} (h : Rd w v T bad) (hb : Below w.heap.size w w') : Rd w' v T bad := h.kept (Kp.ofBelow hb []) (by simp)
theorem Rd.shape {w : World} {v : Value} {T : Option (List Int)} {bad : Nat → Prop} (h : Rd w v T bad) : ∃ ao n cap, v = .slice ao n cap ∧ n ≤ cap := by
  cases T with
  | none => exact ⟨none, 0, 0, h, Nat.le_refl _⟩
  | some xs => obtain ⟨ad, cap, e, hc, h⟩ := h; exact ⟨_, _, _, e, hc⟩
theorem At.bytesAt {w : World} {ad : Addr} {xs : List Int} {bad : Nat → Prop} (h : At w ad xs bad) : BytesAt w (some ad) xs := fun h0 => ⟨ad, rfl, (h h0).1, (h h0).2.2⟩
/-- The address of a part. -/
def cutAd (ad : Addr) (l m : Nat) : Addr := if m = l then ad else ad.add l
theorem cutAd_eq (ad : Addr) (l m : Nat) : (if m = l then some ad else some (ad.add l)) = some (cutAd ad l m) := by unfold cutAd; split <;> rfl
theorem At.part {w : World} {ad : Addr} {xs : List Int} {bad : Nat → Prop} (h : At w ad xs bad) (l n m : Nat) (hm : l + n ≤ m) (hl : l + n ≤ xs.length) : At w (cutAd ad l m) ((xs.drop l).take n) bad := by
  intro h0
  have hn : 0 < n := by simp at h0; omega
  obtain ⟨h1, h2, h3⟩ := h (by omega)
  have hsp : ad.spot = none := by
    have h1 := World.cell?_spot (h3 0 (by omega))
    unfold Addr.add at h1
    split at h1 <;> simp_all
  have e : cutAd ad l m = ad.add l := by unfold cutAd; rw [if_neg (by omega)]
  rw [e]
  refine ⟨by rw [add_block]; exact h1, by rw [add_block]; exact h2, fun j hj => ?_⟩
  have hj' : j < n := by simp at hj; omega
  have e2 : (ad.add l).add j = ad.add (l + j) := by
    obtain ⟨b, o, sp⟩ := ad
    simp only at hsp
    subst hsp
    unfold Addr.add
    split <;> simp_all <;> (split <;> simp_all <;> omega)
  rw [e2, h3 (l + j) (by omega)]
  simp only [List.getD_eq_getElem?_getD]
  rw [List.getElem?_take_of_lt hj', List.getElem?_drop]

/-- Two bytes, the high one first. -/
def be (zs : List Int) (j : Nat) : Int := zs.getD j 0 * 256 + zs.getD (j + 1) 0
abbrev Ext := Int × Option (List Int)
/-- The extensions of a block. -/
def exl : Nat → List Int → List Ext → Option (List Ext)
  | 0, _, _ => none
  | f + 1, zs, acc =>
    if zs.length = 0 then some acc else if zs.length < 4 then none else if zs.length - 4 < (be zs 2).toNat then none
    else if acc.any (fun p => p.1 == be zs 0) then none else exl f (zs.drop (4 + (be zs 2).toNat)) (acc ++ [(be zs 0, some ((zs.drop 4).take (be zs 2).toNat))])
def fin : Option (List Ext) → Bool × Option (List Ext)
  | none => (false, none)
  | some es => (true, if es = [] then none else some es)
/-- What follows the fixed fields: well formed or not, and what is read. -/
def exts (zs : List Int) : Bool × Option (List Ext) :=
  if zs.length = 0 then (true, none) else if zs.length < 2 then (false, none) else if zs.length - 2 ≠ (be zs 0).toNat then (false, none)
  else fin (exl (zs.length + 1) (zs.drop 2) [])
structure Out where
  ok : Bool
  v : Int
  r : Option (List Int)
  s : Option (List Int)
  c : Int
  cm : Int
  x : Option (List Ext)
/-- What the body bs leaves in a receiver that held i. -/
def parse (bs : List Int) (i : Out) : Out :=
  if bs.length < 2 then i else
  if bs.length < 34 then { i with v := be bs 0 } else
  if bs.length < 35 ∨ bs.length - 35 < (bs.getD 34 0).toNat then { i with v := be bs 0, r := some ((bs.drop 2).take 32) } else
  if 32 < (bs.getD 34 0).toNat ∨ bs.length - (35 + (bs.getD 34 0).toNat) < 2 then { i with v := be bs 0, r := some ((bs.drop 2).take 32), s := some ((bs.drop 35).take (bs.getD 34 0).toNat) } else
  if bs.length - (35 + (bs.getD 34 0).toNat) < 3 then { i with v := be bs 0, r := some ((bs.drop 2).take 32), s := some ((bs.drop 35).take (bs.getD 34 0).toNat), c := be bs (35 + (bs.getD 34 0).toNat) } else
  { ok := (exts (bs.drop (38 + (bs.getD 34 0).toNat))).1, v := be bs 0, r := some ((bs.drop 2).take 32), s := some ((bs.drop 35).take (bs.getD 34 0).toNat), c := be bs (35 + (bs.getD 34 0).toNat),
    cm := bs.getD (37 + (bs.getD 34 0).toNat) 0, x := (exts (bs.drop (38 + (bs.getD 34 0).toNat))).2 }
end Go.Proofs.Ybulkdrkk
