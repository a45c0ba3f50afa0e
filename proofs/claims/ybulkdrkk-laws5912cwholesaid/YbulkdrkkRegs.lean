/-
  Three regions of function 3 that draw their order, over a frame that is a letter.
-/
import Derived.Test.YbulkdrkkOwn
import Derived.Deep.RegionHeld3
namespace Go.Proofs.Ybulkdrkk
open Go.RowKit
set_option linter.unusedVariables false
theorem olen_some (xs : List Int) : olen (some xs) = xs.length := rfl
theorem L1_of (w : World) (z : Int) : Rd (w.alloc (.cells #[.int .u8 z] 5)) (.slice (some ⟨w.heap.size, 0, none⟩) 1 1) (some [z]) (fun _ => False) := lit_rd w [z] _ (by simp) _ rfl
theorem L2_of (w : World) (z y : Int) : Rd (w.alloc (.cells #[.int .u8 z, .int .u8 y] 5)) (.slice (some ⟨w.heap.size, 0, none⟩) 2 2) (some [z, y]) (fun _ => False) := lit_rd w [z, y] _ (by simp) _ rfl
theorem L3_of (w : World) (z y x : Int) : Rd (w.alloc (.cells #[.int .u8 z, .int .u8 y, .int .u8 x] 5)) (.slice (some ⟨w.heap.size, 0, none⟩) 3 3) (some [z, y, x]) (fun _ => False) := lit_rd w [z, y, x] _ (by simp) _ rfl
theorem L4_of (w : World) (z y x v : Int) : Rd (w.alloc (.cells #[.int .u8 z, .int .u8 y, .int .u8 x, .int .u8 v] 5)) (.slice (some ⟨w.heap.size, 0, none⟩) 4 4) (some [z, y, x, v]) (fun _ => False) := lit_rd w [z, y, x, v] _ (by simp) _ rfl
theorem B1 {z : Int} (h : 0 ≤ z ∧ z ≤ 255) : BytesT (some [z]) := .mk (byte_cons h byte_nil)
theorem B2 {z y : Int} (h : 0 ≤ z ∧ z ≤ 255) (h' : 0 ≤ y ∧ y ≤ 255) : BytesT (some [z, y]) := .mk (byte_cons h (byte_cons h' byte_nil))
theorem B3 {z y x : Int} (h : 0 ≤ z ∧ z ≤ 255) (h' : 0 ≤ y ∧ y ≤ 255) (h'' : 0 ≤ x ∧ x ≤ 255) : BytesT (some [z, y, x]) := .mk (byte_cons h (byte_cons h' (byte_cons h'' byte_nil)))
theorem B4 {z y x v : Int} (h : 0 ≤ z ∧ z ≤ 255) (h' : 0 ≤ y ∧ y ≤ 255) (h'' : 0 ≤ x ∧ x ≤ 255) (h3 : 0 ≤ v ∧ v ≤ 255) : BytesT (some [z, y, x, v]) := .mk (byte_cons h (byte_cons h' (byte_cons h'' (byte_cons h3 byte_nil))))

/-- The operations of region n. -/
def regOf (n : Nat) : Code → Option (Array Oper)
  | .region i ops _ => if i = n then some ops else none
  | .seq a b => (regOf n a).or (regOf n b)
  | .cond _ a b => (regOf n a).or (regOf n b)
  | .block _ a => regOf n a
  | .loop a => regOf n a
  | .scope a => regOf n a
  | _ => none
/-- Values laid into slots, one after the other (the last first). -/
inductive Laid (tm : Array Value) : List Nat → Array Value → Prop
  | nil : Laid tm [] tm
  | put {ns : List Nat} {t : Array Value} (h : Laid tm ns t) (n : Nat) (x : Value) : Laid tm (n :: ns) (t.setIfInBounds n x)
theorem Laid.inv {tm t : Array Value} {n : Nat} {ns : List Nat} (h : Laid tm (n :: ns) t) : ∃ t' x, Laid tm ns t' ∧ t = t'.setIfInBounds n x := by
  cases h with
  | put h n x => exact ⟨_, _, h, rfl⟩
theorem Laid.end {tm t : Array Value} (h : Laid tm [] t) : t = tm := by cases h; rfl
/-- The slots of a list hold these values, whatever else there is. -/
theorem abs_frame {P : Program} {c : Code} {Q : Exit → Act → World → Prop} {a : Act} {w : World} (R : Act → World → Prop) (h : c.wp P (fun e a' w' => e = .normal ∧ R a' w') a w) (hQ : ∀ a' w', R a' w' → Q .normal a' w') : c.wp P Q a w :=
  Code.wp_mono (fun e a' w' ⟨he, hr⟩ => he ▸ hQ a' w' hr) h

set_option maxRecDepth 100000 in
set_option maxHeartbeats 4000000 in
theorem r33 (ops : Array Oper) (hops : Yba.f3.body.bind (regOf 33) = some ops) (tm : Array Value) (df : List Deferred) (hs : tm.size = 335) (u27 : Value) (b o n5 c5 k dn N base : Nat) (te : Int) (wr : World)
    (t27 : tm[27]'(by omega) = u27) (t5 : tm[5]'(by omega) = .slice (some ⟨b, o, none⟩) n5 c5) (t28 : tm[28]'(by omega) = .int .i64 k) (t29 : tm[29]'(by omega) = .int .i64 dn)
    (hk : (k : Int) < (n5 : Int)) (hte : 0 ≤ te ∧ te ≤ 65535) (hdn : (dn : Int) ≤ 1048576) (f0 : wr.cell? ⟨b, o + k * 2, none⟩ = some (.int .u16 te)) (hb : b < base) (hbase : base ≤ wr.heap.size) (hN : N ≤ 5242880) (V : Buf wr base u27 N) :
    (Code.region 33 ops true).wp Yba.prog (fun e a' w' => e = .normal ∧ ∃ v' t, Buf w' base v' (N + 4) ∧ Below base wr w' ∧
      Laid tm [180, 179, 178, 177, 176, 175, 174, 173, 172, 171, 170, 169, 168, 167, 166, 165, 164, 163, 162, 161, 160] t ∧ a' = ⟨t.setIfInBounds 27 v', df⟩) ⟨tm, df⟩ wr := by
  have e := Option.some.inj (hops.symm.trans (rfl : Yba.f3.body.bind (regOf 33) = some _))
  subst e
  have U4 := fun x y z v : Int => V.drew.alloc (.cells #[.int .u8 x, .int .u8 y, .int .u8 z, .int .u8 v] 5)
  have L4 := L4_of wr.drew
  have fd : wr.drew.cell? ⟨b, o + k * 2, none⟩ = some (.int .u16 te) := f0
  have fa : ∀ ob, (wr.drew.alloc ob).cell? ⟨b, o + k * 2, none⟩ = some (.int .u16 te) := fun ob => (((Below.refl wr.heap.size wr).drew.alloc (by simp) ob).cell (by simp; omega)).trans f0
  go_region_held3 (fun w' => w'.cell? ⟨b, o + k * 2, none⟩ = some (.int .u16 te)) (first | exact fd | exact fa _ | exact (D'.cell hb).trans (fa _)) (first | (refine step_append_buf rfl (.tmp 160) (.tmp 179) rfl base u27 N (by simp [Act.eval, hs]) (U4 _ _ _ _) _ _ (fun _ => False) (by simp [Act.eval, hs]) (L4 _ _ _ _) (B4 (by first | exact wrap8 _ | omega) (by first | exact wrap8 _ | omega) (by first | exact wrap8 _ | omega) (by first | exact wrap8 _ | omega)) (by simp only [olen_some, List.length_cons, List.length_nil]; omega) (by simp; omega) ?_; intro v' w' U' D'))
  refine ⟨rfl, v', _, U', (((Below.refl _ _).alloc hbase _).drew).trans D', ?_, rfl⟩
  repeat (first | exact Laid.nil | refine Laid.put ?_ _ _)

theorem cell_set2 {w : World} {g i j x o : Nat} {u v : Value} (h : x ≠ g) : ((w.setCell ⟨g, i, none⟩ u).setCell ⟨g, j, none⟩ v).cell? ⟨x, o, none⟩ = w.cell? ⟨x, o, none⟩ :=
  World.cell?_of_block ((heap_setCell_other _ _ x _ h).trans (heap_setCell_other _ _ x _ h))
theorem flat_set : ∀ (ds : List (Int × Value)) (k : Nat) (t : Int) (u : Value), k < ds.length → flat (ds.set k (t, u)) = ((flat ds).set (k * 2) (.int .u16 t)).set (k * 2 + 1) u
  | [], k, t, u, h => by simp at h
  | p :: ps, 0, t, u, h => by simp [flat]
  | p :: ps, k + 1, t, u, h => by
    have := flat_set ps k t u (by simpa using h)
    simp [flat, this, Nat.add_mul]
theorem Rd.form {w : World} {v : Value} {T : Option (List Int)} {bad : Nat → Prop} (h : Rd w v T bad) : ∃ ao c, v = .slice ao (olen T) c ∧ olen T ≤ c := by
  cases T with
  | none => exact ⟨none, 0, h, Nat.le_refl _⟩
  | some xs => obtain ⟨ad, cap, e, hc, h⟩ := h; exact ⟨_, _, e, hc⟩

set_option maxRecDepth 100000 in
set_option maxHeartbeats 4000000 in
theorem r49 (ops : Array Oper) (hops : Yba.f3.body.bind (regOf 49) = some ops) (tm : Array Value) (df : List Deferred) (hs : tm.size = 335) (B gI b o nX cX k : Nat) (te : Int) (T : Option (List Int)) (da : Option Addr) (dn dc : Nat) (ds : List (Int × Value)) (bad : Nat → Prop) (wr : World)
    (t32 : tm[32]'(by omega) = .slice (some ⟨gI, 0, none⟩) nX nX) (t33 : tm[33]'(by omega) = .int .i64 k) (t19 : tm[19]'(by omega) = .pointer (some ⟨B, 0, none⟩))
    (hk : (k : Int) < (nX : Int)) (z5 : wr.cell? ⟨B, 5, none⟩ = some (.slice (some ⟨b, o, none⟩) nX cX)) (f0 : wr.cell? ⟨b, o + k * 2, none⟩ = some (.int .u16 te)) (f1 : wr.cell? ⟨b, o + k * 2 + 1, none⟩ = some (.slice da dn dc))
    (hB : B < gI) (hb : b < gI) (hI : Blk wr gI (flat ds) 33) (hds : ds.length = nX) (hd : Rd wr (.slice da dn dc) T bad) (hl : olen T ≤ 140737488351232) :
    (Code.region 49 ops true).wp Yba.prog (fun e a' w' => e = .normal ∧ ∃ u t, Blk w' gI (flat (ds.set k (te, u))) 33 ∧ Rd w' u T (fun j => j < wr.heap.size) ∧ Kp wr w' [gI] ∧
      Laid tm [249, 248, 247, 246, 245, 244, 243, 242, 241, 240, 239, 238, 237, 236, 235, 234, 233] t ∧ a' = ⟨t, df⟩) ⟨tm, df⟩ wr := by
  have e := Option.some.inj (hops.symm.trans (rfl : Yba.f3.body.bind (regOf 49) = some _))
  subst e
  have HI : Hid (Blk wr gI (flat ds) 33 ∧ ds.length = nX) := ⟨hI, hds⟩
  have hgI := hI.lt
  obtain ⟨p, hp⟩ : ∃ p, ds[k]? = some p := ⟨ds[k]'(by omega), List.getElem?_eq_getElem (by omega)⟩
  have HG : Hid ((flat ds)[k * 2]? = some (.int .u16 p.1) ∧ (flat ds)[k * 2 + 1]? = some p.2) := by rw [Nat.mul_comm k 2]; exact flat_get ds k p hp
  clear hI hds hp
  have C := clone_any T (.slice da dn dc) bad wr.drew (hd.kept (Kp.refl wr []).drew (by simp)) hl
  go_region_held3 (fun w' => w'.cell? ⟨B, 5, none⟩ = some (.slice (some ⟨b, o, none⟩) nX cX) ∧ w'.cell? ⟨b, o + k * 2, none⟩ = some (.int .u16 te) ∧ w'.cell? ⟨b, o + k * 2 + 1, none⟩ = some (.slice da dn dc)) (first | exact ⟨z5, f0, f1⟩ | exact ⟨(hb1.cell (by simp; omega)).trans z5, (hb1.cell (by simp; omega)).trans f0, (hb1.cell (by simp; omega)).trans f1⟩ | exact ⟨(cell_set2 (by omega)).trans ((hb1.cell (by simp; omega)).trans z5), (cell_set2 (by omega)).trans ((hb1.cell (by simp; omega)).trans f0), (cell_set2 (by omega)).trans ((hb1.cell (by simp; omega)).trans f1)⟩) (first | (go_at_call 4; refine C.mono ?_; rintro e w1 ⟨u, rfl, hu, hb1⟩; obtain ⟨ua, uc, rfl, _⟩ := hu.form; have hI1 : Hid (Blk w1 gI (flat ds) 33) := HI.out.1.keep (hb1.block gI (by simpa using hgI)); have d0 : w1.cell? ⟨gI, k * 2, none⟩ = some (.int .u16 p.1) := (hI1.out.cell _).trans HG.out.1; have d1 : w1.cell? ⟨gI, k * 2 + 1, none⟩ = some p.2 := (hI1.out.cell _).trans HG.out.2; have y0 : w1.frozen? ⟨gI, k * 2, none⟩ = false := hI1.out.free _; have y1 : w1.frozen? ⟨gI, k * 2 + 1, none⟩ = false := hI1.out.free _))
  have q1 := (hI1.out.set (k * 2) (.int .u16 te)).set (k * 2 + 1) (.slice ua (olen T) uc)
  rw [← flat_set ds k te _ (by have := HI.out.2; omega)] at q1
  have hb1' : Below wr.heap.size wr w1 := ⟨hb1.os, hb1.tape, hb1.output, hb1.size, hb1.block⟩
  have q2 : Kp wr w1 [gI] := Kp.ofBelow hb1' [gI]
  have q3 : Kp w1 ((w1.setCell ⟨gI, k * 2, none⟩ (.int .u16 te)).setCell ⟨gI, k * 2 + 1, none⟩ (.slice ua (olen T) uc)) [gI] := ((Kp.refl w1 [gI]).set gI _ _ (by simp)).set gI _ _ (by simp)
  have q4 : Rd w1 (.slice ua (olen T) uc) T (fun j => j < wr.heap.size) := hu
  refine ⟨rfl, _, _, q1, q4.kept q3 (fun j hj _ => by simp at hj; subst hj; exact hgI), q2.trans q3, ?_, rfl⟩
  repeat (first | exact Laid.nil | refine Laid.put ?_ _ _)

set_option maxRecDepth 100000 in
set_option maxHeartbeats 4000000 in
theorem r50 (ops : Array Oper) (hops : Yba.f3.body.bind (regOf 50) = some ops) (tm : Array Value) (df : List Deferred) (hs : tm.size = 335) (B xn xc nR cR nS cS : Nat) (xa oR oS : Option Addr) (i0 i3 i4 : Int) (R S : Option (List Int)) (wr : World)
    (t19 : tm[19]'(by omega) = .pointer (some ⟨B, 0, none⟩)) (t32 : tm[32]'(by omega) = .slice xa xn xc) (hB : B < wr.heap.size)
    (z0 : wr.cell? ⟨B, 0, none⟩ = some (.int .u16 i0)) (z1 : wr.cell? ⟨B, 1, none⟩ = some (.slice oR nR cR)) (z2 : wr.cell? ⟨B, 2, none⟩ = some (.slice oS nS cS)) (z3 : wr.cell? ⟨B, 3, none⟩ = some (.int .u16 i3)) (z4 : wr.cell? ⟨B, 4, none⟩ = some (.int .u8 i4))
    (hR : Rd wr (.slice oR nR cR) R (fun _ => False)) (hS : Rd wr (.slice oS nS cS) S (fun _ => False)) (lR : olen R ≤ 140737488351232) (lS : olen S ≤ 140737488351232) :
    (Code.region 50 ops true).wp Yba.prog (fun e a' w' => e = .normal ∧ ∃ r' s' gM t, Blk w' gM [.int .u16 i0, r', s', .int .u16 i3, .int .u8 i4, .slice xa xn xc] 36 ∧ Rd w' r' R (fun k => k = gM) ∧ Rd w' s' S (fun k => k = gM) ∧ wr.heap.size ≤ gM ∧ Below wr.heap.size wr w' ∧
      Laid tm [264, 263, 257, 254, 262, 261, 260, 259, 258, 256, 255, 253, 252, 251, 250] t ∧ a' = ⟨t.setIfInBounds 34 (.pointer (some ⟨gM, 0, none⟩)), df⟩) ⟨tm, df⟩ wr := by
  have e := Option.some.inj (hops.symm.trans (rfl : Yba.f3.body.bind (regOf 50) = some _))
  subst e
  have hsz := Nat.le_refl wr.heap.size
  have B0 : Below wr.heap.size wr wr.drew := (Below.refl _ _).drew
  have HS : ∀ w', Below wr.heap.size wr w' → w'.cell? ⟨B, 0, none⟩ = some (.int .u16 i0) ∧ w'.cell? ⟨B, 1, none⟩ = some (.slice oR nR cR) ∧ w'.cell? ⟨B, 2, none⟩ = some (.slice oS nS cS) ∧ w'.cell? ⟨B, 3, none⟩ = some (.int .u16 i3) ∧ w'.cell? ⟨B, 4, none⟩ = some (.int .u8 i4) :=
    fun w' h => ⟨(h.cell hB).trans z0, (h.cell hB).trans z1, (h.cell hB).trans z2, (h.cell hB).trans z3, (h.cell hB).trans z4⟩
  have HH : Hid (∀ w', Below wr.heap.size wr w' → w'.cell? ⟨B, 0, none⟩ = some (.int .u16 i0) ∧ w'.cell? ⟨B, 1, none⟩ = some (.slice oR nR cR) ∧ w'.cell? ⟨B, 2, none⟩ = some (.slice oS nS cS) ∧ w'.cell? ⟨B, 3, none⟩ = some (.int .u16 i3) ∧ w'.cell? ⟨B, 4, none⟩ = some (.int .u8 i4)) := HS
  clear HS
  have C1 := clone_any R (.slice oR nR cR) (fun _ => False) wr.drew (hR.kept (Kp.refl wr []).drew (by simp)) lR
  go_region_held3 (fun w' => w'.cell? ⟨B, 0, none⟩ = some (.int .u16 i0) ∧ w'.cell? ⟨B, 1, none⟩ = some (.slice oR nR cR) ∧ w'.cell? ⟨B, 2, none⟩ = some (.slice oS nS cS) ∧ w'.cell? ⟨B, 3, none⟩ = some (.int .u16 i3) ∧ w'.cell? ⟨B, 4, none⟩ = some (.int .u8 i4)) (first | exact HH.out _ B0 | exact HH.out _ B1 | exact HH.out _ B2 | exact HH.out _ (B2.alloc B2.size _)) (first | (go_at_call_of 4 (Value.slice oR nR cR); refine C1.mono ?_; rintro e w1 ⟨u, rfl, hu1, hb1⟩; obtain ⟨ua, uc, rfl, _⟩ := hu1.form; have B1 : Below wr.heap.size wr w1 := ⟨hb1.os, hb1.tape, hb1.output, hb1.size, hb1.block⟩; have C2 := clone_any S (.slice oS nS cS) (fun _ => False) w1 (hS.grown B1) lS) | (go_at_call_of 4 (Value.slice oS nS cS); refine C2.mono ?_; rintro e w2 ⟨u2, rfl, hu2, hb2⟩; obtain ⟨ub, uc2, rfl, _⟩ := hu2.form; have B2 : Below wr.heap.size wr w2 := B1.trans (hb2.mono B1.size)))
  have q1 : Rd w1 (.slice ua (olen R) uc) R (fun k => k = w2.heap.size) := hu1.rebad (fun k hk e => by have := hb2.size; omega)
  have q2 : Rd w2 (.slice ub (olen S) uc2) S (fun k => k = w2.heap.size) := hu2.rebad (fun k hk e => by omega)
  have A1 := Blk.made w2 [.int .u16 i0, .slice ua (olen R) uc, .slice ub (olen S) uc2, .int .u16 i3, .int .u8 i4, .slice xa xn xc] 36
  have A2 : Below w2.heap.size w2 (w2.alloc (.cells #[.int .u16 i0, .slice ua (olen R) uc, .slice ub (olen S) uc2, .int .u16 i3, .int .u8 i4, .slice xa xn xc] 36)) := (Below.refl _ _).alloc (Nat.le_refl _) _
  have A3 := (q1.grown hb2).grown A2
  have A4 := q2.grown A2
  have A5 := B2.trans (A2.mono B2.size)
  have A6 := B2.size
  generalize (w2.alloc (.cells #[.int .u16 i0, .slice ua (olen R) uc, .slice ub (olen S) uc2, .int .u16 i3, .int .u8 i4, .slice xa xn xc] 36)) = w3 at A1 A2 A3 A4 A5 ⊢
  refine ⟨rfl, _, _, _, _, A1, A3, A4, A6, A5, ?_, rfl⟩
  repeat (first | exact Laid.nil | refine Laid.put ?_ _ _)
end Go.Proofs.Ybulkdrkk
