/-
  A byte slice of the call's own, nil or not, as one word; clone, release and bytes.Equal in that word.
-/
import Derived.Test.YbulkdrigRelease
namespace Go.Proofs.Ybulkdrig
open Go.RowKit
set_option linter.unusedVariables false

/-- v is nil (T none), or a slice over a row of its own, from block lo on, that holds the bytes (T). -/
def TidIs (w : World) (lo : Nat) (v : Value) : Option (List Int) → Prop
  | none => v = .slice none 0 0
  | some bs => ∃ g c, v = .slice (some ⟨g, 0, none⟩) bs.length c ∧ lo ≤ g ∧ Row w g bs
/-- The string that it converts to. -/
def tidStr : Option (List Int) → ByteArray
  | none => ByteArray.empty
  | some bs => strOfNums bs

theorem TidIs.keep {w w' : World} {lo : Nat} {v : Value} {T : Option (List Int)} (h : TidIs w lo v T) (hk : ∀ k, k < w.heap.size → lo ≤ k → w'.heap[k]? = w.heap[k]?) : TidIs w' lo v T := by
  cases T with
  | none => exact h
  | some bs =>
    obtain ⟨g, c, e, h1, h2⟩ := h
    exact ⟨g, c, e, h1, h2.keep (hk g h2.lt h1)⟩
theorem TidIs.mono {w : World} {lo lo' : Nat} {v : Value} {T : Option (List Int)} (h : TidIs w lo v T) (hl : lo' ≤ lo) : TidIs w lo' v T := by
  cases T with
  | none => exact h
  | some bs => obtain ⟨g, c, e, h1, h2⟩ := h; exact ⟨g, c, e, by omega, h2⟩
theorem TidIs.conv {w : World} {lo : Nat} {v : Value} {T : Option (List Int)} (h : TidIs w lo v T) : (convert 22 9 v).run Yba.prog w = .ok (.string (tidStr T)) w := by
  cases T with
  | none =>
    have h' : v = .slice none 0 0 := h
    subst h'
    have := conv_bytes (w := w) (ao := none) (xs := []) (fun h => by simp at h) 0 (fun _ => rfl)
    exact this
  | some bs =>
    obtain ⟨g, c, rfl, _, h2⟩ := h
    exact conv_bytes h2.bytesAt c (fun h => by simp at h)
theorem TidIs.neqNil {w : World} {lo : Nat} {v : Value} {T : Option (List Int)} (h : TidIs w lo v T) (w' : World) : (binOp .neq 22 v (.slice none 0 0)).run Yba.prog w' = .ok (.bool T.isSome) w' := by
  cases T with
  | none =>
    have h' : v = .slice none 0 0 := h
    subst h'
    exact run_neq_slice_nil_any (P := Yba.prog) w' 22 5 none 0 0 0 0 Yba.underlying22
  | some bs =>
    obtain ⟨g, c, rfl, _, h2⟩ := h
    exact run_neq_slice_nil_any (P := Yba.prog) w' 22 5 _ _ c 0 0 Yba.underlying22
theorem TidIs.eqlNil {w : World} {lo : Nat} {v : Value} {T : Option (List Int)} (h : TidIs w lo v T) (w' : World) : (binOp .eql 22 v (.slice none 0 0)).run Yba.prog w' = .ok (.bool T.isNone) w' := by
  cases T with
  | none =>
    have h' : v = .slice none 0 0 := h
    subst h'
    exact Lib.run_eql_slice_nil (P := Yba.prog) w' 22 5 none 0 0 0 0 Yba.underlying22
  | some bs =>
    obtain ⟨g, c, rfl, _, h2⟩ := h
    exact Lib.run_eql_slice_nil (P := Yba.prog) w' 22 5 _ _ c 0 0 Yba.underlying22

theorem TidIs.guard {w : World} {lo : Nat} {v : Value} {T : Option (List Int)} (h : TidIs w lo v T) (op : BinOp) (t : TypeId) (x y : Operand) (u : Value) : eqGuard op t x y v u = pure () := by
  cases T with
  | none =>
    have h' : v = .slice none 0 0 := h
    subst h'
    exact eqGuard_at_slice op t x y u none 0 0
  | some bs =>
    obtain ⟨g, c, rfl, _, h2⟩ := h
    exact eqGuard_at_slice op t x y u _ _ c

theorem TidIs.shape {w : World} {lo : Nat} {v : Value} {T : Option (List Int)} (h : TidIs w lo v T) : ∃ a n c, v = .slice a n c := by
  cases T with
  | none => exact ⟨_, _, _, h⟩
  | some bs => obtain ⟨g, c, e, _⟩ := h; exact ⟨_, _, _, e⟩

/-- What came in: nil (then nothing), or the bytes xs at some address. -/
def CameIs (w : World) (a : Option Addr) (n c : Nat) : Option (List Int) → Prop
  | none => a = none ∧ n = 0 ∧ c = 0
  | some xs => ∃ ad, a = some ad ∧ n = xs.length ∧ BytesAt w a xs
theorem CameIs.eqlNil {w : World} {a : Option Addr} {n c : Nat} {T : Option (List Int)} (h : CameIs w a n c T) (w' : World) : (binOp .eql 22 (.slice a n c) (.slice none 0 0)).run Yba.prog w' = .ok (.bool T.isNone) w' := by
  cases T with
  | none =>
    obtain ⟨rfl, rfl, rfl⟩ := h
    exact Lib.run_eql_slice_nil (P := Yba.prog) w' 22 5 none 0 0 0 0 Yba.underlying22
  | some bs =>
    obtain ⟨ad, rfl, rfl, _⟩ := h
    exact Lib.run_eql_slice_nil (P := Yba.prog) w' 22 5 _ _ c 0 0 Yba.underlying22
theorem CameIs.grown {w w' : World} {a : Option Addr} {n c : Nat} {T : Option (List Int)} (h : CameIs w a n c T) (hb : Below w.heap.size w w') : CameIs w' a n c T := by
  cases T with
  | none => exact h
  | some xs => obtain ⟨ad, rfl, rfl, h2⟩ := h; exact ⟨ad, rfl, rfl, h2.grown hb⟩
theorem CameIs.conv {w : World} {a : Option Addr} {n c : Nat} {T : Option (List Int)} (h : CameIs w a n c T) : (convert 22 9 (.slice a n c)).run Yba.prog w = .ok (.string (tidStr T)) w := by
  cases T with
  | none =>
    obtain ⟨rfl, rfl, rfl⟩ := h
    have := conv_bytes (w := w) (ao := none) (xs := []) (fun h => by simp at h) 0 (fun _ => rfl)
    exact this
  | some bs =>
    obtain ⟨ad, rfl, rfl, h2⟩ := h
    exact conv_bytes h2 c (fun h => by simp at h)

theorem clone_any (a : Option Addr) (n c : Nat) (T : Option (List Int)) (w : World) (h : CameIs w a n c T) (hr : n ≤ 140737488351232) :
    Calls Yba.prog 9 #[.slice a n c] w fun e w' => ∃ v, e = .returned v ∧ TidIs w' w.heap.size v T ∧ Below w.heap.size w w' := by
  cases T with
  | none =>
    obtain ⟨rfl, rfl, rfl⟩ := h
    refine (clone_nil w).mono ?_
    rintro e w' ⟨rfl, rfl⟩
    exact ⟨_, rfl, rfl, Below.refl _ _⟩
  | some xs =>
    obtain ⟨ad, rfl, hn, h2⟩ := h
    refine (clone_some ad n c xs w hn h2 hr).mono ?_
    rintro e w' ⟨g, rfl, hg, hrow, hb⟩
    exact ⟨_, rfl, ⟨g, n, by rw [hn], hg, hrow⟩, hb⟩

/-- The map behind the release. -/
def left (T : Option (List Int)) (l : List (ByteArray × Value)) : List (ByteArray × Value) := match T with | none => l | some bs => struck l (strOfNums bs)

theorem release_any (gD gF gM : Nat) (v t : Value) (T : Option (List Int)) (inv : Int) (en : Bool) (l : List (ByteArray × Value)) (w : World) (lo : Nat)
    (hD : DBlk w gD gF v t inv en) (hF : FBlk w gF 0 gM) (hM : MapIs w gM l) (hT : TidIs w lo t T) (n1 : gD ≠ gF) (n2 : gD ≠ gM) (n3 : gF ≠ gM) (hlF : gF < lo) (hlM : gM < lo) :
    Calls Yba.prog 10 #[.pointer (some ⟨gD, 0, none⟩)] w fun e w' => e = .returned (.tuple #[]) ∧ DBlk w' gD gF v (.slice none 0 0) inv en ∧ FBlk w' gF 0 gM ∧ MapIs w' gM (left T l) ∧
      (∀ k, k < w.heap.size → k ≠ gD → k ≠ gF → k ≠ gM → w'.heap[k]? = w.heap[k]?) ∧ (∀ B, B ≤ gD → B ≤ gF → B ≤ gM → Below B w w') := by
  cases T with
  | none =>
    have h' : t = .slice none 0 0 := hT
    subst h'
    refine (release_nil gD gF v inv en w hD).mono ?_
    rintro e w' ⟨rfl, rfl⟩
    exact ⟨rfl, hD, hF, hM, fun _ _ _ _ _ => rfl, fun B _ _ _ => Below.refl _ _⟩
  | some bs =>
    obtain ⟨g, c, rfl, hlo, hR⟩ := hT
    have n4 : g ≠ gD := by
      intro e
      subst e
      have h1 : w.heap[g]? = _ := hR
      have h2 : w.heap[g]? = _ := hD
      rw [h1] at h2
      simp at h2
    exact release_some gD gF gM g bs.length c v bs inv en l w rfl hD hF hM hR n1 n2 n3 n4 (by omega) (by omega)

set_option maxRecDepth 100000 in
set_option maxHeartbeats 800000 in
theorem equal_conv (v u : Value) (s : ByteArray) (w : World) (c1 : (convert 22 9 v).run Yba.prog w = .ok (.string s) w) (c2 : (convert 22 9 u).run Yba.prog w = .ok (.string s) w) :
    Calls Yba.prog 11 #[v, u] w fun e w' => e = .returned (.bool true) ∧ w' = w := by
  go_enter Yba.func11, Yba.ntmps11
  go_wp2
  go_ret
  exact ⟨by simp, rfl⟩
end Go.Proofs.Ybulkdrig
