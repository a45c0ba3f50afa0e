/-
  The walk of LawS5912CWhole (function 3).
-/
import Derived.Test.YbulkdrkkRegs2
import Derived.Test.YbulkdrkkModel
namespace Go.Proofs.Ybulkdrkk
open Go.RowKit
set_option linter.unusedVariables false

theorem Buf.own_lt {w : World} {base : Nat} {v : Value} {n : Nat} (h : Buf w base v n) : ∀ k ∈ v.ownBlock.toList, k < w.heap.size := by
  obtain ⟨ys, ho, _, _⟩ := h
  intro k hk
  exact (World.ownsRow.lt ho k (by simpa using hk)).2
theorem run_append_buf' {w : World} (ty : TypeId) (base : Nat) (v : Value) (n : Nat) (hown : Buf w base v n) (x : Value) (T : Option (List Int)) (bad : Nat → Prop) (hx : Rd w x T bad) (hT : BytesT T) (hlim : n + olen T ≤ 140737488355328) (hbase : base ≤ w.heap.size) :
    ∃ v' w', (Builtin.append_ #[23, 23] ty #[v, x]).run Yba.prog w = .ok v' w' ∧ Buf w' base v' (n + olen T) ∧ Below base w w' ∧ Kp w w' v.ownBlock.toList := by
  obtain ⟨i, hi, h0, h1, h2⟩ := info_parts Yba.info5
  obtain ⟨ys, ho, hb, hn⟩ := hown
  cases T with
  | none =>
    obtain rfl : x = .slice none 0 0 := hx
    exact ⟨v, w, run_append_owned_none (P := Yba.prog) (w := w) base 23 ty 5 i 1 Yba.underlying23 hi v _ _ ho, ⟨ys, ho, hb, hn⟩, Below.refl _ _, Kp.refl _ _⟩
  | some zs =>
    obtain ⟨ad, c, rfl, hc, ha⟩ := hx
    have hnews : ∀ j u, (zs.map (Value.int .u8))[j]? = some u → w.cell? (ad.add j) = some u := by
      intro j u hj
      simp only [List.getElem?_map, Option.map_eq_some_iff] at hj
      obtain ⟨z, hz, rfl⟩ := hj
      obtain ⟨hj', hz'⟩ := List.getElem?_eq_some_iff.1 hz
      rw [(ha (by omega)).2.2 j hj', List.getD_eq_getElem?_getD, hz]; rfl
    simp only [olen] at hlim ⊢
    obtain ⟨v', w', hr, r1, r2, _⟩ := run_append_own (P := Yba.prog) w base 23 ty 5 i (.int .u8 0) 1 1 Yba.underlying23 hi h0 h1 h2 rfl (by decide) v ys.length _ ho ad zs.length c (zs.map (Value.int .u8)) (by simp) hnews (by simp [Value.oneCell']) (by unfold maxLen; omega) (by omega) hbase
    refine ⟨v', w', hr, ⟨ys ++ zs, by simpa [List.map_append] using r1, hb.append (hT zs rfl), by simp; omega⟩, (Below.refl _ _).grown r2 hbase (fun k hk => (World.ownsRow.lt ho k hk).1), Kp.ofGb r2 _ (fun k hk _ => by simp [hk])⟩
theorem wpList_append_own' {w : World} {ops : Array Oper} {rest : List Oper} {o : Oper} {a : Act} {Q : Exit → Act → World → Prop} (hgd : o.guard = none) (s x : Operand)
    (ho : o.op = .call { callee := .builtin .append, args := #[s, x], argTypes := #[23, 23] }) (base : Nat) (v : Value) (n : Nat) (hs : a.eval s = v) (hown : Buf w base v n)
    (u : Value) (T : Option (List Int)) (bad : Nat → Prop) (hu : a.eval x = u) (hx : Rd w u T bad) (hT : BytesT T) (hlim : n + olen T ≤ 140737488355328) (hbase : base ≤ w.heap.size)
    (h : ∀ v' w', Buf w' base v' (n + olen T) → Below base w w' → Kp w w' v.ownBlock.toList → wpList Yba.prog ops Q rest (a.put o.dst v') w') : wpList Yba.prog ops Q (o :: rest) a w := by
  obtain ⟨v', w', hr, h1, h2, h3⟩ := run_append_buf' o.type base v n hown u T bad hx hT hlim hbase
  refine wpList_plain hgd fun K hK => ?_
  unfold Oper.wp
  simp [execOp, ho, resolve, invoke, builtin, hs, hu, hr, Result.andThen]
  exact hK _ _ (h v' w' h1 h2 h3)
theorem at_slice0 {P : Program} {ops : Array Oper} {Q : Exit → Act → World → Prop} {dst : Option Nat} {t : TypeId} {x : Operand} {hi : Operand} {ty : TypeId} {pos : String} {after : Array Edge} {g : Option (Nat × Bool)} {rest : List Oper} {a : Act} {w : World}
    (h : wpList P ops Q (⟨dst, .slice t x none (some hi) none, ty, pos, after, g⟩ :: rest) a w) :
    wpList P ops Q (⟨dst, .slice t x none (some hi) none, ty, pos, after, g⟩ :: rest) a w := h
theorem wpList_slice_head {w : World} {ops : Array Oper} {rest : List Oper} {o : Oper} {a : Act} {Q : Exit → Act → World → Prop} (hg : o.guard = none) (x hi : Operand) (hop : o.op = Op.slice 23 x none (some hi) none)
    (g n cap h : Nat) (H : Int) (hx : a.eval x = .slice (some ⟨g, 0, none⟩) n cap) (hh : a.eval hi = .int .i64 H) (eH : H = (h : Int)) (h2 : h ≤ cap)
    (hK : wpList Yba.prog ops Q rest (a.put o.dst (.slice (some ⟨g, 0, none⟩) h cap)) w) : wpList Yba.prog ops Q (o :: rest) a w := by
  refine wpList_plain hg fun K hK' => ?_
  subst eH
  have hrun := run_slice_h (P := Yba.prog) w 23 (some ⟨g, 0, none⟩) n cap (by kernel_rfl) .i64 h (by omega) (by omega)
  have hrun2 : (Instr.sliceAt 23 (.slice (some ⟨g, 0, none⟩) n cap) none (some (.int .i64 h)) none).run Yba.prog w = .ok (.slice (some ⟨g, 0, none⟩) h cap) w := by
    have he : Yba.prog.elem 23 = 5 := by kernel_rfl
    rw [he] at hrun
    have ha : (⟨g, 0, none⟩ : Addr).add 0 = ⟨g, 0, none⟩ := by unfold Addr.add; split <;> simp_all
    rw [run_sliceAt_slice (P := Yba.prog) w 23 _ _ _ _ (by kernel_rfl), hrun, Yba.sizeOf5]
    simp [sliced, ha]
  unfold Oper.wp
  simp [execOp, hop, hx, hh, hrun2, Result.andThen]
  exact hK' _ _ hK
theorem cutAd_zero (g c : Nat) : cutAd ⟨g, 0, none⟩ 0 c = ⟨g, 0, none⟩ := by
  unfold cutAd
  split
  · rfl
  · unfold Addr.add; split <;> simp_all
theorem XRd.of_row {w : World} {g : Nat} {ds : List (Int × Value)} {es : List Ext} {bad : Nat → Prop} (h : Blk w g (flat ds) 33) (hr : ∀ (j : Nat) (e : Ext), es[j]? = some e → ∃ d : Int × Value, ds[j]? = some d ∧ d.1 = e.1 ∧ Rd w d.2 e.2 bad) :
    XRd w (.slice (some ⟨g, 0, none⟩) es.length es.length) (some es) (fun _ => False) := by
  refine ⟨_, _, rfl, Nat.le_refl _, fun _ => ⟨g, 0, rfl, h.lt, fun f => f, fun j e he => ?_⟩⟩
  obtain ⟨d, hd, h1, h2⟩ := hr j e he
  obtain ⟨f0, f1⟩ := flat_get ds j d hd
  rw [Nat.zero_add, h.cell, h.cell, f0, f1, h1]
  exact ⟨rfl, _, rfl, h2.rebad (fun _ _ f => f.elim)⟩
theorem MIs.grown {w w' : World} {g : Nat} {o : Out} (h : MIs w g o) (hb : Below w.heap.size w w') : MIs w' g o := by
  obtain ⟨r, s, x, h1, h2, h3, h4⟩ := h
  exact ⟨r, s, x, h1.keep (hb.block g h1.lt), h2.grown hb, h3.grown hb, h4.grown hb⟩
theorem exl_len : ∀ (f : Nat) (zs : List Int) (acc es : List Ext), exl f zs acc = some es → es.length ≤ acc.length + zs.length
  | 0, zs, acc, es, h => by simp [exl] at h
  | f + 1, zs, acc, es, h => by
    unfold exl at h
    split at h
    · cases h; omega
    · split at h
      · cases h
      · split at h
        · cases h
        · split at h
          · cases h
          · have := exl_len f _ _ _ h
            simp only [List.length_append, List.length_cons, List.length_nil, List.length_drop] at this
            omega
theorem exts_len (zs : List Int) (es : List Ext) (h : (exts zs).2 = some es) : es.length ≤ zs.length := by
  unfold exts at h
  split at h
  · cases h
  · split at h
    · cases h
    · split at h
      · cases h
      · cases he : exl (zs.length + 1) (zs.drop 2) [] with
        | none => rw [he] at h; cases h
        | some es' =>
          rw [he] at h
          have h1 : (if es' = [] then none else some es') = some es := h
          split at h1
          · cases h1
          · cases h1
            have := exl_len _ _ _ _ he
            simp only [List.length_nil, List.length_drop] at this
            omega
theorem parse_x (bs : List Int) (i : Out) (es : List Ext) (h : (parse bs i).x = some es) : i.x = some es ∨ es.length ≤ bs.length := by
  unfold parse at h
  split at h
  · exact .inl h
  · split at h
    · exact .inl h
    · split at h
      · exact .inl h
      · split at h
        · exact .inl h
        · split at h
          · exact .inl h
          · have := exts_len _ _ h
            simp only [List.length_drop] at this
            exact .inr (by omega)
def xlen : Option (List Ext) → Nat
  | none => 0
  | some es => es.length
def toX : Option (List Ext) → List Ext
  | none => []
  | some es => es
/-- Every slice in it is no longer than Go lets it be; all bytes are bytes. -/
def OkT (T : Option (List Int)) : Prop := olen T ≤ 140737488351232 ∧ BytesT T
def OkX (X : Option (List Ext)) : Prop := xlen X ≤ 140737488351232 ∧ ∀ e ∈ toX X, OkT e.2 ∧ 0 ≤ e.1 ∧ e.1 ≤ 65535
def slen (es : List Ext) : Nat := (es.map fun e => olen e.2).sum
theorem slen_snoc (es : List Ext) (e : Ext) : slen (es ++ [e]) = slen es + olen e.2 := by simp [slen]
theorem slen_take (es : List Ext) (k : Nat) (e : Ext) (h : es[k]? = some e) : slen (es.take (k + 1)) = slen (es.take k) + olen e.2 := by
  rw [List.take_add_one, h]; simp [slen]

theorem slen_take_le (es : List Ext) (k : Nat) : slen (es.take k) ≤ slen es := by
  have h : slen (es.take k ++ es.drop k) = slen (es.take k) + slen (es.drop k) := by unfold slen; rw [List.map_append, List.sum_append]
  rw [List.take_append_drop] at h
  omega
theorem Rd.elem {W : World} {ao : Option Addr} {n c : Nat} {T : Option (List Int)} {bad : Nat → Prop} (h : Rd W (.slice ao n c) T bad) (hn : n = olen T) (k : Nat) (hk : k < n) :
    ∃ b o, ao = some ⟨b, o, none⟩ ∧ b < W.heap.size ∧ W.cell? ⟨b, o + k, none⟩ = some (.int .u8 ((toL T).getD k 0)) := by
  cases T with
  | none => simp [olen] at hn; omega
  | some xs =>
    simp only [olen] at hn
    obtain ⟨ad, cap, e, hc, h⟩ := h
    obtain ⟨b, o, rfl, h3⟩ := h.spot (by omega)
    cases e
    exact ⟨b, o, rfl, (h (by omega)).1, h3 k (by omega)⟩
theorem below_alloc {B : Nat} {a w : World} (h : Below B a w) (hB : B ≤ a.heap.size) (o : Obj) : Below B a (w.alloc o) := h.alloc (Nat.le_trans hB h.size) o
theorem XRd.elem {W : World} {ao : Option Addr} {n c : Nat} {X : Option (List Ext)} {bad : Nat → Prop} (h : XRd W (.slice ao n c) X bad) (hn : n = xlen X) (k : Nat) (hk : k < n) :
    ∃ b o e da dc, ao = some ⟨b, o, none⟩ ∧ b < W.heap.size ∧ (toX X)[k]? = some e ∧ W.cell? ⟨b, o + k * 2, none⟩ = some (.int .u16 e.1) ∧ W.cell? ⟨b, o + k * 2 + 1, none⟩ = some (.slice da (olen e.2) dc) ∧ Rd W (.slice da (olen e.2) dc) e.2 bad := by
  cases X with
  | none => simp [xlen] at hn; omega
  | some es =>
    simp only [xlen] at hn
    obtain ⟨ad, cap, e, hc, h⟩ := h
    obtain ⟨b, o, rfl, h1, h2, h3⟩ := h (by omega)
    have hq : es[k]? = some es[k] := List.getElem?_eq_getElem (by omega)
    obtain ⟨f0, d, f1, hd⟩ := h3 k _ hq
    obtain ⟨da, dc, rfl, _⟩ := hd.form
    rw [Nat.mul_comm 2 k] at f0 f1
    cases e
    exact ⟨b, o, es[k], da, dc, rfl, h1, hq, f0, f1, hd⟩

set_option maxRecDepth 100000 in
set_option maxHeartbeats 16000000 in
theorem law_any (a0 a3 a4 a6 a7 a8 i0 i3 i4 : Int) (o1 o2 o5 oR oS oX : Option Addr) (n1 n2 n5 nR nS nX c1 c2 c5 cR cS cX : Nat) (T1 T2 R S : Option (List Int)) (X5 X : Option (List Ext)) (w : World)
    (hb3 : 0 ≤ a3 ∧ a3 ≤ 65535) (hb0 : 0 ≤ a0 ∧ a0 ≤ 65535) (hb4 : 0 ≤ a4 ∧ a4 ≤ 255) (hb6 : 0 ≤ a6 ∧ a6 ≤ 255) (hb7 : 0 ≤ a7 ∧ a7 ≤ 65535) (hb8 : 0 ≤ a8 ∧ a8 ≤ 255)
    (h1 : Rd w (.slice o1 n1 c1) T1 (fun _ => False)) (h2 : Rd w (.slice o2 n2 c2) T2 (fun _ => False)) (h5 : XRd w (.slice o5 n5 c5) X5 (fun _ => False))
    (hR : Rd w (.slice oR nR cR) R (fun _ => False)) (hS : Rd w (.slice oS nS cS) S (fun _ => False)) (hX : XRd w (.slice oX nX cX) X (fun _ => False))
    (k1 : OkT T1) (k2 : OkT T2) (k5 : OkX X5) (kR : OkT R) (kS : OkT S) (kX : OkX X)
    (e1 : n1 = olen T1) (e2 : n2 = olen T2) (e5 : n5 = xlen X5) (eR : nR = olen R) (eS : nS = olen S) (eX : nX = xlen X) :
    Calls Yba.prog 3 #[.int .u16 a0, .slice o1 n1 c1, .slice o2 n2 c2, .int .u16 a3, .int .u8 a4, .slice o5 n5 c5, .int .u8 a6, .int .u16 a7, .int .u8 a8, .agg #[.int .u16 i0, .slice oR nR cR, .slice oS nS cS, .int .u16 i3, .int .u8 i4, .slice oX nX cX]] w
      fun e w' => e = .returned (.bool true) ∧ Below w.heap.size w w' := by
  have q1 : (n1 : Int) ≤ 140737488351232 := by have := k1.1; omega
  have q2 : (n2 : Int) ≤ 140737488351232 := by have := k2.1; omega
  have q5 : (n5 : Int) ≤ 140737488351232 := by have := k5.1; omega
  have qR : (nR : Int) ≤ 140737488351232 := by have := kR.1; omega
  have qS : (nS : Int) ≤ 140737488351232 := by have := kS.1; omega
  have qX : (nX : Int) ≤ 140737488351232 := by have := kX.1; omega
  have E : Hid (n1 = olen T1 ∧ n2 = olen T2 ∧ n5 = xlen X5 ∧ nR = olen R ∧ nS = olen S ∧ nX = xlen X) := ⟨e1, e2, e5, eR, eS, eX⟩
  clear e1 e2 e5 eR eS eX
  go_enter Yba.func3, Yba.ntmps3
  go_upto_region 1 with fail
  have IW : Blk (w.alloc (.cells #[.int .u16 i0, .slice oR nR cR, .slice oS nS cS, .int .u16 i3, .int .u8 i4, .slice oX nX cX] 26)) w.heap.size [.int .u16 i0, .slice oR nR cR, .slice oS nS cS, .int .u16 i3, .int .u8 i4, .slice oX nX cX] 26 := Blk.made w _ 26
  have BW : Below w.heap.size w (w.alloc (.cells #[.int .u16 i0, .slice oR nR cR, .slice oS nS cS, .int .u16 i3, .int .u8 i4, .slice oX nX cX] 26)) := (Below.refl _ _).alloc (Nat.le_refl _) _
  have SW : w.heap.size < (w.alloc (.cells #[.int .u16 i0, .slice oR nR cR, .slice oS nS cS, .int .u16 i3, .int .u8 i4, .slice oX nX cX] 26)).heap.size := by simp
  have RW := (show Hid (Rd _ (.slice o1 n1 c1) T1 (fun _ => False) ∧ Rd _ (.slice o2 n2 c2) T2 (fun _ => False) ∧ XRd _ (.slice o5 n5 c5) X5 (fun _ => False) ∧ Rd _ (.slice oR nR cR) R (fun _ => False) ∧ Rd _ (.slice oS nS cS) S (fun _ => False) ∧ XRd _ (.slice oX nX cX) X (fun _ => False)) from ⟨h1.grown BW, h2.grown BW, h5.grown BW, hR.grown BW, hS.grown BW, hX.grown BW⟩)
  have KW : Hid (OkT T1 ∧ OkT T2 ∧ OkX X5 ∧ OkT R ∧ OkT S ∧ OkX X) := ⟨k1, k2, k5, kR, kS, kX⟩
  clear h1 h2 h5 hR hS hX k1 k2 k5 kR kS kX
  generalize (w.alloc (.cells #[.int .u16 i0, .slice oR nR cR, .slice oS nS cS, .int .u16 i3, .int .u8 i4, .slice oX nX cX] 26)) = W at IW BW SW RW ⊢
  have HB : Hid (Below w.heap.size w W ∧ w.heap.size < W.heap.size) := ⟨BW, SW⟩
  clear BW SW
  obtain ⟨B, hB⟩ : ∃ b, b = w.heap.size := ⟨_, rfl⟩
  have HBB : Hid (B = w.heap.size) := hB
  rw [← hB] at IW ⊢
  clear hB
  have z0 := IW.cell 0; have z1 := IW.cell 1; have z2 := IW.cell 2; have z3 := IW.cell 3; have z4 := IW.cell 4; have z5 := IW.cell 5
  simp only [List.getElem?_cons_succ, List.getElem?_cons_zero] at z0 z1 z2 z3 z4 z5
  have HIW : Hid (Blk W B _ 26) := IW
  clear IW
  by_cases g1 : (1048576 : Int) < (n1 : Int) + n2 + nR + nS
  · go_wp2
    go_ret
    exact ⟨rfl, HB.out.1⟩
  by_cases g2 : (1048576 : Int) < (n5 : Int)
  · go_wp2
    go_ret
    exact ⟨rfl, HB.out.1⟩
  by_cases g3 : (1048576 : Int) < (nX : Int)
  · go_wp2
    go_ret
    exact ⟨rfl, HB.out.1⟩
  go_wp2
  obtain ⟨n0, hn0⟩ : ∃ n0 : Nat, (n0 : Int) = (n1 : Int) + n2 + nR + nS := ⟨n1 + n2 + nR + nS, by omega⟩
  have HN0 : Hid (n0 = n1 + n2 + nR + nS) := by show _ = _; omega
  rw [← hn0] at g1 ⊢
  clear hn0
  as_aux_lemma =>
  go_loopw [21, 22] (fun n i wr => ∃ k q : Nat, k ≤ n5 ∧ i = .int .i64 k ∧ n = .int .i64 q ∧ q ≤ 1048576 ∧ Hid (n0 + slen ((toX X5).take k) ≤ q) ∧ W = wr) (fun _ i _ => n5 - (intOf i).toNat)
  case atStart => exact ⟨0, n0, Nat.zero_le _, rfl, rfl, by omega, by show _ ≤ _; simp [slen], rfl⟩
  case round =>
    as_aux_lemma =>
    obtain ⟨k, q, hk, rfl, rfl, hq, HQ, rfl⟩ := hrel
    by_cases hlt : k < n5
    · obtain ⟨b, o, e, da, dc, ho, hbl, he, f0, f1, hd⟩ := RW.out.2.2.1.elem E.out.2.2.1 k hlt
      have hdl : olen e.2 ≤ 140737488351232 := (KW.out.2.2.1.2 e (List.mem_of_getElem? he)).1.1
      obtain ⟨dn, hdn⟩ : ∃ dn, dn = olen e.2 := ⟨_, rfl⟩
      have HDN : Hid (dn = olen e.2 ∧ (toX X5)[k]? = some e) := ⟨hdn, he⟩
      rw [← hdn] at hdl f1
      clear hd hdn he f0 hbl
      subst ho
      have i0' : (k : Int) < (n5 : Int) := by omega
      have hdl' : (dn : Int) ≤ 140737488351232 := by omega
      by_cases hbig : (1048576 : Int) < (q : Int) + dn
      · go_wp2
        go_ret
        exact ⟨rfl, HB.out.1⟩
      · go_wp2
        go_roundw
        case rel => exact ⟨k + 1, q + dn, by omega, by go_num, by go_num, by omega, by show _ ≤ _; have := HQ.out; rw [slen_take _ k e HDN.out.2, ← HDN.out.1]; omega, by first | rfl | trivial⟩
        case measure => simp [intOf]; omega
    · obtain rfl : n5 = k := by omega
      have HL5 : Hid (slen (toX X5) ≤ 1048576) := by
        show _ ≤ _
        have := HQ.out
        rw [List.take_of_length_le (by have := E.out.2.2.1; cases X5 <;> simp_all [toX, xlen])] at this
        omega
      clear HQ hlt hk
      go_wp2
      go_loopw [21, 23] (fun n i wr => ∃ k q : Nat, k ≤ nX ∧ i = .int .i64 k ∧ n = .int .i64 q ∧ q ≤ 1048576 ∧ W = wr) (fun _ i _ => nX - (intOf i).toNat)
      case atStart => exact ⟨0, q, Nat.zero_le _, rfl, rfl, by omega, by first | rfl | trivial⟩
      case round =>
        as_aux_lemma =>
        clear hq
        obtain ⟨k, q, hk, rfl, rfl, hq, rfl⟩ := hrel
        by_cases hlt : k < nX
        · obtain ⟨b, o, e, da, dc, ho, hbl, he, f0, f1, hd⟩ := RW.out.2.2.2.2.2.elem E.out.2.2.2.2.2 k hlt
          have hdl : olen e.2 ≤ 140737488351232 := (KW.out.2.2.2.2.2.2 e (List.mem_of_getElem? he)).1.1
          obtain ⟨dn, hdn⟩ : ∃ dn, dn = olen e.2 := ⟨_, rfl⟩
          rw [← hdn] at hdl f1
          clear hd hdn he f0 hbl
          subst ho
          have i0' : (k : Int) < (nX : Int) := by omega
          have hdl' : (dn : Int) ≤ 140737488351232 := by omega
          by_cases hbig : (1048576 : Int) < (q : Int) + dn
          · go_wp2
            go_ret
            exact ⟨rfl, HB.out.1⟩
          · go_wp2
            go_roundw
            case rel => exact ⟨k + 1, q + dn, by omega, by go_num, by go_num, by omega, by first | rfl | trivial⟩
            case measure => simp [intOf]; omega
        · obtain rfl : nX = k := by omega
          clear hlt hk hq
          go_upto_region 17 with fail
          have U : Buf (W.alloc (.cells #[.int .u8 (a0 / 256), .int .u8 (a0 % 256)] 5)) W.heap.size (.slice (some ⟨W.heap.size, 0, none⟩) 2 2) 2 := lit_buf W W.heap.size [a0 / 256, a0 % 256] (byte_cons (by omega) (byte_cons (by omega) byte_nil)) (Nat.le_refl _) (by simp) _ rfl
          have D : Below W.heap.size W (W.alloc (.cells #[.int .u8 (a0 / 256), .int .u8 (a0 % 256)] 5)) := (Below.refl _ _).alloc (Nat.le_refl _) _
          generalize (W.alloc (.cells #[.int .u8 (a0 / 256), .int .u8 (a0 % 256)] 5)) = wa at U D ⊢
          go_wp2
          go_loopw [24, 25] (fun v i wr => ∃ k : Nat, k ≤ 32 ∧ i = .int .i64 k ∧ Buf wr W.heap.size v (2 + k) ∧ Below W.heap.size W wr) (fun _ i _ => 32 - (intOf i).toNat)
          case atStart => exact ⟨0, by omega, rfl, U, D⟩
          case round =>
            as_aux_lemma =>
            clear U D
            obtain ⟨k, hk, rfl, U, D⟩ := hrel
            obtain ⟨v, hv⟩ : ∃ v, v = u24 := ⟨_, rfl⟩
            subst hv
            have hsz := D.size
            have U1 := fun z : Int => U.alloc (.cells #[.int .u8 z] 5)
            have L1 := L1_of wr
            by_cases hlt : k < 32
            · have i0' : (k : Int) < 32 := by omega
              by_cases hin : k < n1
              · obtain ⟨b, o, ho, hbl, f0⟩ := RW.out.1.elem E.out.1 k hin
                have hz := (KW.out.1.2.toL).at k
                generalize (toL T1).getD k 0 = z at f0 hz
                subst ho
                have f0' : wr.cell? ⟨b, o + k, none⟩ = some (.int .u8 z) := (D.cell hbl).trans f0
                clear f0
                have i1' : (k : Int) < (n1 : Int) := by omega
                go_wp2_with (at_builtin; refine wpList_append_buf rfl (.tmp 112) (.tmp 117) rfl W.heap.size _ (2 + k) rfl (U1 _) _ _ (fun _ => False) rfl (L1 _) (B1 hz) (by simp only [olen_some, List.length_cons, List.length_nil]; omega) (by simp; omega) ?_; intro v' w' U' D')
                go_roundw
                case rel => exact ⟨k + 1, by omega, by go_num, U', (below_alloc D (Nat.le_refl _) _).trans D'⟩
                case measure => simp [intOf]; omega
              · have i1' : ¬ (k : Int) < (n1 : Int) := by omega
                have i2' : ((k : Int) < (n1 : Int)) = False := by simp; omega
                go_wp2_with (at_builtin; refine wpList_append_buf rfl (.tmp 119) (.tmp 123) rfl W.heap.size _ (2 + k) rfl (U1 _) _ _ (fun _ => False) rfl (L1 _) (B1 (by first | exact wrap8 _ | omega)) (by simp only [olen_some, List.length_cons, List.length_nil]; omega) (by simp; omega) ?_; intro v' w' U' D')
                go_roundw
                case rel => exact ⟨k + 1, by omega, by go_num, U', (below_alloc D (Nat.le_refl _) _).trans D'⟩
                case measure => simp [intOf]; omega
            · obtain rfl : 32 = k := by omega
              clear hlt hk
              go_upto_region 24 with (at_builtin; refine wpList_append_buf rfl (.tmp 125) (.tmp 129) rfl W.heap.size _ (2 + 32) rfl (U1 _) _ _ (fun _ => False) rfl (L1 _) (B1 (by first | exact wrap8 _ | omega)) (by simp only [olen_some, List.length_cons, List.length_nil]; omega) (by simp; omega) ?_; intro va wa' Ua Da)
              as_aux_lemma =>
              have Db : Below W.heap.size W wa' := (below_alloc D (Nat.le_refl _) _).trans Da
              have Ua' : Buf wa' W.heap.size va 35 := Ua
              clear U U1 L1 D Da hsz Ua
              have hsz := Db.size
              have hn2 : n2 ≤ 1048576 := by have := HN0.out; omega
              have R2 : Rd wa' (.slice o2 n2 c2) T2 (fun _ => False) := RW.out.2.1.kept (Kp.ofBelow Db []) (by simp)
              have hlim2 : 35 + olen T2 ≤ 140737488355328 := by have := E.out.2.1; omega
              go_upto_region 25 with (at_builtin; refine wpList_append_buf rfl (.tmp 131) (.tmp 132) rfl W.heap.size _ _ rfl Ua' _ T2 (fun _ => False) rfl R2 KW.out.2.1.2 hlim2 hsz ?_; intro vb wb Ub Dc)
              have Dd : Below W.heap.size W wb := Db.trans Dc
              have Ub' : Buf wb W.heap.size vb (35 + n2) := by rw [E.out.2.1]; exact Ub
              clear Ua' Db Dc hsz R2 hlim2 Ub
              have hsz := Dd.size
              have U3 := fun x y z : Int => Ub'.alloc (.cells #[.int .u8 x, .int .u8 y, .int .u8 z] 5)
              have L3 := L3_of wb
              go_upto_region 26 with (at_builtin; refine wpList_append_buf rfl (.tmp 134) (.tmp 141) rfl W.heap.size _ _ rfl (U3 _ _ _) _ _ (fun _ => False) rfl (L3 _ _ _) (B3 (by first | exact wrap8 _ | omega) (by first | exact wrap8 _ | omega) (by first | exact wrap8 _ | omega)) (by simp only [olen_some, List.length_cons, List.length_nil]; omega) (by simp; omega) ?_; intro vc wc Uc De)
              have Df : Below W.heap.size W wc := (below_alloc Dd (Nat.le_refl _) _).trans De
              have Uc' : Buf wc W.heap.size vc (35 + n2 + 3) := Uc
              clear Ub' Dd De hsz U3 L3 Uc
              as_aux_lemma =>
              go_upto_if 147 with fail
              have hsh : 0 ≤ a6 % 4 ∧ a6 % 4 ≤ 3 := by omega
              generalize a6 % 4 = sh at hsh ⊢
              obtain ⟨q7, hq7⟩ : ∃ q7, q7 = (sh != 1) := ⟨_, rfl⟩
              rw [← hq7]
              have HQ7 : Hid (q7 = (sh != 1)) := hq7
              clear hq7
              have hWc := Df.size
              go_cut [24] (fun v w' => ∃ n, Buf w' W.heap.size v n ∧ 2 ≤ n ∧ n ≤ 8388608 ∧ Below W.heap.size W w')
              case first =>
                as_aux_lemma =>
                cases q7 with
                | false =>
                  go_wp2
                  go_meet
                  case rel => exact ⟨_, Uc', by omega, by omega, Df⟩
                | true =>
                  clear HQ7
                  go_wp2
                  go_loopw [27, 28] (fun v i wr => ∃ k N : Nat, k ≤ n5 ∧ i = .int .i64 k ∧ Hid (N = 4 * k + slen ((toX X5).take k)) ∧ Buf wr wc.heap.size v N ∧ Below wc.heap.size wc wr) (fun _ i _ => n5 - (intOf i).toNat)
                  case atStart => exact ⟨0, 0, Nat.zero_le _, rfl, by show _ = _; simp [slen], Buf.nil _ _, Below.refl _ _⟩
                  case round =>
                    as_aux_lemma =>
                    obtain ⟨k, N, hk, rfl, HNk, V, G⟩ := hrel
                    have hsz := G.size
                    have GW : Below W.heap.size W wr := Df.trans (G.mono hWc)
                    have hNb : N ≤ 5242880 := by
                      have h1 := HNk.out
                      have h2 := HL5.out
                      have h3 : slen ((toX X5).take k) ≤ slen (toX X5) := by
                        exact slen_take_le _ k
                      omega
                    by_cases hlt : k < n5
                    · obtain ⟨b, o, e, da, dc, ho, hbl, he, f0, f1, hd⟩ := RW.out.2.2.1.elem E.out.2.2.1 k hlt
                      have hde := KW.out.2.2.1.2 e (List.mem_of_getElem? he)
                      have hdl : olen e.2 ≤ 140737488351232 := hde.1.1
                      have HRD : Hid (Rd W (.slice da (olen e.2) dc) e.2 (fun _ => False) ∧ BytesT e.2 ∧ slen ((toX X5).take (k + 1)) = slen ((toX X5).take k) + olen e.2 ∧ slen ((toX X5).take k) + olen e.2 ≤ 1048576) := by
                        refine ⟨hd, hde.1.2, slen_take _ k e he, ?_⟩
                        rw [← slen_take _ k e he]
                        have h2 := HL5.out
                        exact Nat.le_trans (slen_take_le _ (k + 1)) h2
                      obtain ⟨te, hte⟩ : ∃ te, te = e.1 := ⟨_, rfl⟩
                      have ht0 : 0 ≤ te ∧ te ≤ 65535 := by rw [hte]; exact hde.2
                      rw [← hte] at f0
                      clear hte hde hd
                      obtain ⟨dn, hdn⟩ : ∃ dn, dn = olen e.2 := ⟨_, rfl⟩
                      rw [← hdn] at hdl f1 HRD
                      have HDN : Hid (dn = olen e.2 ∧ (toX X5)[k]? = some e) := ⟨hdn, he⟩
                      clear hdn he
                      subst ho
                      have f0' : wr.cell? ⟨b, o + k * 2, none⟩ = some (.int .u16 te) := (GW.cell hbl).trans f0
                      have f1' : wr.cell? ⟨b, o + k * 2 + 1, none⟩ = some (.slice da dn dc) := (GW.cell hbl).trans f1
                      clear f0
                      have i0' : (k : Int) < (n5 : Int) := by omega
                      have hdl' : (dn : Int) ≤ 1048576 := by have := HRD.out.2.2.2; omega
                      go_upto_region 33 with fail
                      refine r33' _ (by kernel_rfl) _ [] (by rfl) _ b o n5 c5 k dn N wc.heap.size te wr (by rfl) (by rfl) (by rfl) (by rfl) i0' ht0 hdl' f0' (by omega) hsz hNb V ?_
                      intro v' w' x160 x161 x162 x163 x164 x165 x166 x167 x168 x169 x170 x171 x172 x173 x174 x175 x176 x177 x178 x179 x180 U' D'
                      simp only [List.setIfInBounds_toArray, List.set_cons_succ, List.set_cons_zero]
                      have GW' : Below W.heap.size W w' := GW.trans (D'.mono hWc)
                      have G' : Below wc.heap.size wc w' := G.trans D'
                      have f2 : w'.cell? ⟨b, o + k * 2 + 1, none⟩ = some (.slice da dn dc) := (GW'.cell hbl).trans f1
                      have R3 : Rd w' (.slice da dn dc) e.2 (fun _ => False) := HRD.out.1.kept (Kp.ofBelow GW' []) (by simp)
                      have l3 : N + 4 + olen e.2 ≤ 140737488355328 := by have := HDN.out.1; have := HRD.out.2.2.2; omega
                      have hsz' := G'.size
                      clear f0' f1' f1 GW GW' V G hsz
                      go_wp2_with (at_builtin; refine wpList_append_buf rfl (.tmp 181) (.tmp 186) rfl wc.heap.size _ _ rfl U' _ e.2 (fun _ => False) rfl R3 HRD.out.2.1 l3 hsz' ?_; intro v3 w3 U3 D3)
                      go_roundw
                      case rel => exact ⟨k + 1, N + 4 + olen e.2, by omega, by go_num, by show _ = _; have := HNk.out; have := HRD.out.2.2.1; have := HDN.out.1; omega, U3, G'.trans D3⟩
                      case measure => simp [intOf]; omega
                    · obtain rfl : n5 = k := by omega
                      clear hlt hk
                      obtain ⟨ao, cc, hsh', hcc⟩ := V.shape
                      subst hsh'
                      have hN' : (N : Int) ≤ 5242880 := by omega
                      have U1 : Buf wr W.heap.size vc (35 + n2 + 3) := Uc'.grown G
                      have U2 := fun x y : Int => U1.alloc (.cells #[.int .u8 x, .int .u8 y] 5)
                      have L2 := L2_of wr
                      have hszW := GW.size
                      go_upto_region 37 with (at_builtin; refine wpList_append_own' rfl (.tmp 190) (.tmp 196) rfl W.heap.size _ _ rfl (U2 _ _) _ _ (fun _ => False) rfl (L2 _ _) (B2 (by first | exact wrap8 _ | omega) (by first | exact wrap8 _ | omega)) (by simp only [olen_some, List.length_cons, List.length_nil]; omega) (by simp; omega) ?_; intro vd wd Ud Dd Kd)
                      obtain ⟨TB, rB, bB, lB, _⟩ := V.read
                      have own := Uc'.own_lt
                      have rB' : Rd wd (.slice ao N cc) TB (fun k => k < wc.heap.size) := (rB.grown ((Below.refl _ _).alloc (Nat.le_refl _) _)).kept Kd (fun k hk _ => own k hk)
                      have Ud' : Buf wd W.heap.size vd (35 + n2 + 3 + 2) := Ud
                      have De := (below_alloc GW (Nat.le_refl _) _).trans Dd
                      have hlB : 35 + n2 + 3 + 2 + olen TB ≤ 140737488355328 := by omega
                      have hszE := De.size
                      clear Ud Dd Kd U1 U2 L2 rB own V G GW hsz hszW Uc' Df
                      go_wp2_with (at_builtin; refine wpList_append_buf rfl (.tmp 198) (.tmp 199) rfl W.heap.size _ _ rfl Ud' _ TB (fun k => k < wc.heap.size) rfl rB' bB hlB hszE ?_; intro ve we Ue Df)
                      go_meet
                      case rel => exact ⟨_, Ue, by omega, by omega, De.trans Df⟩
              case rest =>
              as_aux_lemma =>
              obtain ⟨n, Un, hn2', hn8, Dn⟩ := hcut
              clear Uc' Df hWc
              go_upto_if 202 with fail
              obtain ⟨wn, hwn⟩ : ∃ y, y = wc := ⟨_, rfl⟩
              subst hwn
              obtain ⟨g, c, hv, hnc⟩ := Un.head (by omega)
              subst hv
              go_cut [24] (fun v w' => ∃ bs, Rd w' v (some bs) (fun _ => False) ∧ Bytes bs ∧ bs.length ≤ 8388608 ∧ Hid (sh = 3 → ∃ n, Buf w' W.heap.size v n ∧ n ≤ 8388608) ∧ Below W.heap.size W w')
              case first =>
                as_aux_lemma =>
                by_cases hs2 : sh = 2
                · subst hs2
                  obtain ⟨cn, hcn⟩ : ∃ cn : Nat, (cn : Int) = a7 % ((n : Int) + 1) := ⟨(a7 % ((n : Int) + 1)).toNat, by have := Int.emod_nonneg a7 (show (n : Int) + 1 ≠ 0 by omega); omega⟩
                  have hcl : cn ≤ n := by have := Int.emod_lt_of_pos a7 (show 0 < (n : Int) + 1 by omega); omega
                  have HCN : Hid (a7 % ((n : Int) + 1) = (cn : Int)) := hcn.symm
                  clear hcn
                  have hne : ¬ ((n : Int) + 1 = 0) := by omega
                  go_upto_region 40 with fail
                  obtain ⟨ys, r1, r2, r3⟩ := Un.rd (by omega)
                  have r4 : Rd wn (.slice (some ⟨g, 0, none⟩) cn c) (some (ys.take cn)) (fun k => k < W.heap.size) := by
                    obtain ⟨ad, cap, e, hc, h⟩ := r1
                    cases e
                    have := Rd.part h 0 cn c (by omega) (by omega)
                    rw [List.drop_zero, Nat.sub_zero] at this
                    have ha := cutAd_zero g c
                    rw [ha] at this
                    exact this
                  have C := clone_any (some (ys.take cn)) (.slice (some ⟨g, 0, none⟩) cn c) _ wn r4 (by rw [olen_some]; simp; omega)
                  clear r1 r4
                  go_wp2_with (first | ((with_reducible refine at_slice0 ?_); refine wpList_slice_head rfl (.tmp 209) (.tmp 210) rfl g n c cn _ rfl rfl HCN.out (by omega) ?_) | (go_at_call 4; refine C.mono ?_; rintro e w' ⟨u, rfl, hu, hb⟩))
                  go_meet
                  case rel => exact ⟨_, hu.rebad (fun k _ h => h.elim), fun z hz => r2 z (List.mem_of_mem_take hz), by simp; omega, fun h => by omega, Dn.trans (hb.mono Dn.size)⟩
                · have hs2' : (sh == 2) = false := by simp; exact hs2
                  go_wp2
                  go_meet
                  case rel =>
                    obtain ⟨ys, r1, r2, r3⟩ := Un.rd (by omega)
                    exact ⟨ys, r1.rebad (fun k _ h => h.elim), r2, by omega, fun _ => ⟨n, Un, hn8⟩, Dn⟩
              case rest =>
              as_aux_lemma =>
              obtain ⟨bs, Rb, hbs, hlb, HS3, Db⟩ := hcut
              clear Un Dn hn2' hn8 hnc
              go_upto_if 214 with fail
              obtain ⟨wf, hwf⟩ : ∃ y, y = wc := ⟨_, rfl⟩
              subst hwf
              go_cut [24] (fun v w' => ∃ bs, Rd w' v (some bs) (fun _ => False) ∧ Bytes bs ∧ bs.length ≤ 8388609 ∧ Below W.heap.size W w')
              case first =>
                as_aux_lemma =>
                by_cases hs3 : sh = 3
                · obtain ⟨n', Un, hn'⟩ := HS3.out hs3
                  subst hs3
                  have U1 := fun z : Int => Un.alloc (.cells #[.int .u8 z] 5)
                  have L1 := L1_of wf
                  have hsz := Db.size
                  go_wp2_with (at_builtin; refine wpList_append_buf rfl (.tmp 215) (.tmp 217) rfl W.heap.size _ n' rfl (U1 _) _ _ (fun _ => False) rfl (L1 _) (B1 hb8) (by simp only [olen_some, List.length_cons, List.length_nil]; omega) (by simp; omega) ?_; intro v' w' U' D')
                  go_meet
                  case rel =>
                    obtain ⟨ys, r1, r2, r3⟩ := U'.rd (by rw [olen_some]; simp)
                    exact ⟨ys, r1.rebad (fun k _ h => h.elim), r2, by rw [r3, olen_some]; simp; omega, (below_alloc Db (Nat.le_refl _) _).trans D'⟩
                · have hs3' : (sh == 3) = false := by simp; exact hs3
                  go_wp2
                  go_meet
                  case rel => exact ⟨bs, Rb, hbs, by omega, Db⟩
              case rest =>
              as_aux_lemma =>
              clear Rb hbs hlb HS3 Db
              obtain ⟨bs, Rb, hbs, hlb, Db⟩ := hcut
              have hBW : B < W.heap.size := by have := HB.out.2; have := HBB.out; omega
              obtain ⟨wg, hwg⟩ : ∃ y, y = wc := ⟨_, rfl⟩
              subst hwg
              obtain ⟨q8, hq8⟩ : ∃ q8, q8 = (!oX.isNone) := ⟨_, rfl⟩
              have ne : ∀ w, (binOp .neq 24 (.slice oX nX cX) (.slice none 0 0)).run Yba.prog w = .ok (.bool q8) w := fun w => by rw [hq8]; exact run_neq_slice_nil_any w 24 28 oX nX cX 0 0 Yba.underlying24
              have HQ8 : Hid (q8 = (!oX.isNone)) := hq8
              clear hq8
              have y5 := (Db.cell (p := ⟨B, 5, none⟩) hBW).trans z5
              have HZ5 : Hid (W.cell? ⟨B, 5, none⟩ = some (.slice oX nX cX)) := z5
              clear z0 z1 z2 z3 z4 z5
              go_upto_if 221 with fail
              go_cut [32] (fun v w' => ∃ xa xn xc, v = .slice xa xn xc ∧ XRd w' (.slice xa xn xc) X (fun _ => False) ∧ Below wg.heap.size wg w')
              case first =>
                as_aux_lemma =>
                cases q8 with
                | false =>
                  go_wp2
                  go_meet
                  case rel =>
                    refine ⟨none, 0, 0, rfl, ?_, Below.refl _ _⟩
                    rcases RW.out.2.2.2.2.2.nil_or with ⟨h1, h2⟩ | ⟨es, ad, cap, h1, h2, _⟩
                    · rw [h1]; rfl
                    · cases h2; have := HQ8.out; simp at this
                | true =>
                  obtain ⟨es, hes⟩ : ∃ es, X = some es := by
                    rcases RW.out.2.2.2.2.2.nil_or with ⟨h1, h2⟩ | ⟨es, ad, cap, h1, h2, _⟩
                    · cases h2; have := HQ8.out; simp at this
                    · exact ⟨es, h1⟩
                  have hel : es.length = nX := by have := E.out.2.2.2.2.2; rw [hes] at this; exact this.symm
                  have HES : Hid (X = some es ∧ es.length = nX) := ⟨hes, hel⟩
                  clear hes hel HQ8
                  have hgW := Db.size
                  go_wp2_with (at_make; refine wpList_make_pairs rfl (.tmp 224) (.tmp 224) rfl _ _ nX rfl rfl rfl rfl (by omega) ?_; intro wm hI Dm)
                  go_loopw [33] (fun i wr => ∃ (k : Nat) (ds : List (Int × Value)), k ≤ nX ∧ i = .int .i64 k ∧ Hid (ds.length = nX ∧ ∀ (j : Nat) (e : Ext), j < k → es[j]? = some e → ∃ d : Int × Value, ds[j]? = some d ∧ d.1 = e.1 ∧ Rd wr d.2 e.2 (fun x => x = wg.heap.size)) ∧ Blk wr wg.heap.size (flat ds) 33 ∧ Below wg.heap.size wg wr) (fun i _ => nX - (intOf i).toNat)
                  case atStart => exact ⟨0, List.replicate nX (0, .slice none 0 0), Nat.zero_le _, rfl, ⟨by simp, fun j e hj => absurd hj (Nat.not_lt_zero j)⟩, hI, Dm⟩
                  case round =>
                    as_aux_lemma =>
                    clear hI Dm
                    obtain ⟨k, ds, hk, rfl, HDS, hI, D⟩ := hrel
                    have GW : Below W.heap.size W wr := Db.trans (D.mono hgW)
                    have y5r := (GW.cell (p := ⟨B, 5, none⟩) hBW).trans HZ5.out
                    by_cases hlt : k < nX
                    · obtain ⟨b, o, e, da, dc, ho, hbl, he, f0, f1, hd⟩ := RW.out.2.2.2.2.2.elem E.out.2.2.2.2.2 k hlt
                      have hde := KW.out.2.2.2.2.2.2 e (List.mem_of_getElem? he)
                      subst ho
                      have f0r := (GW.cell hbl).trans f0
                      have f1r := (GW.cell hbl).trans f1
                      have i0' : (k : Int) < (nX : Int) := by omega
                      have hdr : Rd wr (.slice da (olen e.2) dc) e.2 (fun _ => False) := hd.grown GW
                      have HE : Hid ((toX X)[k]? = some e) := he
                      clear f0 f1 he hd
                      go_upto_region 49 with fail
                      refine r49' _ (by kernel_rfl) _ [] (by rfl) B wg.heap.size b o nX cX k e.1 e.2 da (olen e.2) dc ds (fun _ => False) wr (by rfl) (by rfl) (by rfl) i0' y5r f0r f1r (by omega) (by omega) hI HDS.out.1 hdr hde.1.1 ?_
                      intro u w' x233 x234 x235 x236 x237 x238 x239 x240 x241 x242 x243 x244 x245 x246 x247 x248 x249 q1 q2 q3
                      simp only [List.setIfInBounds_toArray, List.set_cons_succ, List.set_cons_zero]
                      clear f0r f1r hdr y5r
                      go_wp2
                      go_roundw
                      case rel =>
                        refine ⟨k + 1, ds.set k (e.1, u), by omega, by go_num, ⟨by rw [List.length_set]; exact HDS.out.1, fun j e' hj he' => ?_⟩, q1, D.trans (q3.below wg.heap.size D.size (by simp))⟩
                        by_cases hjk : k = j
                        · subst hjk
                          have : e' = e := by
                            have h1 := HE.out
                            rw [HES.out.1] at h1
                            exact Option.some.inj (he'.symm.trans h1)
                          subst this
                          exact ⟨_, by rw [List.getElem?_set, if_pos rfl, if_pos (by have := HDS.out.1; omega)], rfl, q2.rebad (fun x _ hx => by have hx' : x = wg.heap.size := hx; rw [hx']; exact hI.lt)⟩
                        · obtain ⟨d, h1, h2, h3⟩ := HDS.out.2 j e' (by omega) he'
                          exact ⟨d, by rw [List.getElem?_set, if_neg hjk]; exact h1, h2, h3.kept q3 (fun x hx _ => by simpa using hx)⟩
                      case measure => simp [intOf]; omega
                    · obtain rfl : nX = k := by omega
                      go_wp2
                      go_meet
                      case rel =>
                        refine ⟨some ⟨wg.heap.size, 0, none⟩, nX, nX, rfl, ?_, D⟩
                        obtain ⟨h1, h2⟩ := HES.out
                        rw [h1, ← h2]
                        exact XRd.of_row hI (fun j e he => HDS.out.2 j e (by have := (List.getElem?_eq_some_iff.1 he).1; omega) he)
              case rest =>
              as_aux_lemma =>
              obtain ⟨xa, xn, xc, hxv, Rx, Dx⟩ := hcut
              subst hxv
              obtain ⟨wh, hwh⟩ : ∃ y, y = wc := ⟨_, rfl⟩
              subst hwh
              have Dh : Below W.heap.size W wh := Db.trans (Dx.mono Db.size)
              have Rbh := Rb.grown Dx
              clear Rb Db Dx y5
              have IH := HIW.out.kept (Kp.ofBelow Dh []) (by simp)
              have y0 := IH.cell 0; have y1 := IH.cell 1; have y2 := IH.cell 2; have y3 := IH.cell 3; have y4 := IH.cell 4
              simp only [List.getElem?_cons_succ, List.getElem?_cons_zero] at y0 y1 y2 y3 y4
              have hBh := IH.lt
              clear IH
              go_upto_region 50 with fail
              refine r50' _ (by kernel_rfl) _ [] (by rfl) B xn xc nR cR nS cS xa oR oS i0 i3 i4 R S wh (by rfl) (by rfl) hBh y0 y1 y2 y3 y4 (RW.out.2.2.2.1.grown Dh) (RW.out.2.2.2.2.1.grown Dh) KW.out.2.2.2.1.1 KW.out.2.2.2.2.1.1 ?_
              intro r' s' gM wi x250 x251 x252 x253 x255 x256 x258 x259 x260 x261 x262 x254 x257 x263 x264 A1 A2 A3 A4 A5
              simp only [List.setIfInBounds_toArray, List.set_cons_succ, List.set_cons_zero]
              clear y0 y1 y2 y3 y4 hBh
              have Di : Below W.heap.size W wi := Dh.trans (A5.mono Dh.size)
              have hWh := Dh.size
              have Rbi : Rd wi u24 (some bs) (fun k => k = gM) := (Rbh.rebad (bad' := fun k => k = gM) (fun k hk e => by omega)).grown A5
              have Rxi : XRd wi (.slice xa xn xc) X (fun k => k = gM) := (Rx.rebad (bad' := fun k => k = gM) (fun k hk e => by omega)).grown A5
              have HRR : Hid (Rd W (.slice oR nR cR) R (fun k => k = gM) ∧ Rd W (.slice oS nS cS) S (fun k => k = gM) ∧ XRd W (.slice oX nX cX) X (fun k => k = gM)) :=
                ⟨RW.out.2.2.2.1.rebad (fun k hk e => by omega), RW.out.2.2.2.2.1.rebad (fun k hk e => by omega), RW.out.2.2.2.2.2.rebad (fun k hk e => by omega)⟩
              have HMI : Hid (MIs wi gM ⟨false, i0, R, S, i3, i4, X⟩) := ⟨r', s', _, A1, A2, A3, Rxi⟩
              have hgM : gM < wi.heap.size := A1.lt
              have hMW : W.heap.size ≤ gM := by omega
              clear A1 A2 A3 Rxi Rx Rbh A4 A5 Dh
              as_aux_lemma =>
              have C1 := clone_any (some bs) u24 _ wi Rbi (by rw [olen_some]; omega)
              go_upto_region 52 with (go_at_call 4; refine C1.mono ?_; rintro e wj ⟨ub, rfl, hub, hbj⟩)
              obtain ⟨ubA, ubc, hubv, _⟩ := hub.form
              subst hubv
              clear C1
              have Dj : Below W.heap.size W wj := Di.trans (hbj.mono Di.size)
              have IJ := HIW.out.kept (Kp.ofBelow Dj []) (by simp)
              have y0 := IJ.cell 0; have y1 := IJ.cell 1; have y2 := IJ.cell 2; have y3 := IJ.cell 3; have y4 := IJ.cell 4; have y5 := IJ.cell 5
              simp only [List.getElem?_cons_succ, List.getElem?_cons_zero] at y0 y1 y2 y3 y4 y5
              clear IJ
              have hgMj : gM < wj.heap.size := Nat.lt_of_lt_of_le hgM hbj.size
              have hub' : Rd wj (.slice ubA (olen (some bs)) ubc) (some bs) (fun k => k = gM) := hub.rebad (fun k hk e => by have e' : k = gM := e; rw [e']; exact hgM)
              as_aux_lemma =>
              obtain ⟨P, hP⟩ : ∃ P, P = parse bs ⟨false, i0, R, S, i3, i4, X⟩ := ⟨_, rfl⟩
              have CM := mo_any bs (.slice ubA (olen (some bs)) ubc) gM i0 i3 i4 (.slice oR nR cR) (.slice oS nS cS) (.slice oX nX cX) R S X wj hgMj (HRR.out.1.grown Dj) (HRR.out.2.1.grown Dj) (HRR.out.2.2.grown Dj) hub' hbs (by omega)
              rw [← hP] at CM
              have HP : Hid (P = parse bs ⟨false, i0, R, S, i3, i4, X⟩) := hP
              clear hP
              obtain ⟨pok, pv, pr, ps, pc, pcm, px⟩ := P
              obtain ⟨bl, hbl⟩ : ∃ bl, bl = olen (some bs) := ⟨_, rfl⟩
              rw [← hbl] at CM hub' ⊢
              have HBL : Hid (bl = olen (some bs)) := hbl
              clear hbl hub
              go_upto_region 53 with (go_at_call 5; refine CM.mono ?_; rintro e wk ⟨v, rfl, ⟨r2, s2, x2, rfl, w1, w2, w3⟩, hbk⟩; obtain ⟨ra2, rc2, rfl, _⟩ := w1.form; obtain ⟨sa2, sc2, rfl, _⟩ := w2.form; obtain ⟨xa2, xn2, xc2, rfl, _⟩ := w3.shape)
              have hkl : Below wk.heap.size wk (wk.alloc (.cells #[.bool pok, .int .u16 pv, .slice ra2 (olen pr) rc2, .slice sa2 (olen ps) sc2, .int .u16 pc, .int .u8 pcm, .slice xa2 xn2 xc2] 38)) := (Below.refl _ _).alloc (Nat.le_refl _) _
              have IL := Blk.made wk [.bool pok, .int .u16 pv, .slice ra2 (olen pr) rc2, .slice sa2 (olen ps) sc2, .int .u16 pc, .int .u8 pcm, .slice xa2 xn2 xc2] 38
              have ML := ((HMI.out.grown hbj).grown hbk).grown hkl
              have Rbl := ((Rbi.grown hbj).grown hbk).grown hkl
              have hubl := (hub'.grown hbk).grown hkl
              have v1 := w1.grown hkl
              have v2 := w2.grown hkl
              have v3 := w3.grown hkl
              have hgk : gM < wk.heap.size := Nat.lt_of_lt_of_le hgMj hbk.size
              have HD : Below W.heap.size W (wk.alloc (.cells #[.bool pok, .int .u16 pv, .slice ra2 (olen pr) rc2, .slice sa2 (olen ps) sc2, .int .u16 pc, .int .u8 pcm, .slice xa2 xn2 xc2] 38)) := (Dj.trans (hbk.mono Dj.size)).trans (hkl.mono (Nat.le_trans Dj.size hbk.size))
              generalize (wk.alloc (.cells #[.bool pok, .int .u16 pv, .slice ra2 (olen pr) rc2, .slice sa2 (olen ps) sc2, .int .u16 pc, .int .u8 pcm, .slice xa2 xn2 xc2] 38)) = wl at hkl IL ML Rbl hubl v1 v2 v3 HD ⊢
              generalize wk.heap.size = gW at hgk IL hkl ⊢
              clear hkl w1 w2 w3 hub' CM HMI Rbi hbj hbk y0 y1 y2 y3 y4 y5 Di Dj
              have CU : Calls Yba.prog 6 #[.pointer (some ⟨gM, 0, none⟩), u24] wl fun e w' => e = .returned (.bool pok) ∧ MIs w' gM ⟨pok, pv, pr, ps, pc, pcm, px⟩ ∧ Kp wl w' [gM] := by
                have := um_any bs u24 gM ⟨false, i0, R, S, i3, i4, X⟩ wl rfl ML Rbl hbs (by omega)
                rw [← HP.out] at this
                exact this
              go_upto_region 54 with (go_at_call 6; refine CU.mono ?_; rintro e wm ⟨rfl, MM, KM⟩)
              as_aux_lemma =>
              have hin : ∀ k ∈ [gM], k < wl.heap.size → (fun k => k = gM) k := fun k hk _ => by simpa using hk
              have IM := IL.kept KM (by simp; omega)
              have CE := equal_any (some bs) u24 (.slice ubA bl ubc) _ _ wm (Rbl.kept KM hin) (hubl.kept KM hin)
              have m4 := v1.kept KM hin
              have m5 := v2.kept KM hin
              have m6 := v3.kept KM hin
              obtain ⟨r3, s3, x3, BM, m1, m2, m3⟩ := MM
              have S1 := fun nq : Nat => same_any pr r3 (.slice ra2 (olen pr) rc2) _ _ (wm.drewN nq) (m1.kept ((Kp.refl wm []).drewN nq) (by simp)) (m4.kept ((Kp.refl wm []).drewN nq) (by simp))
              have S2 := fun nq : Nat => same_any ps s3 (.slice sa2 (olen ps) sc2) _ _ (wm.drewN nq) (m2.kept ((Kp.refl wm []).drewN nq) (by simp)) (m5.kept ((Kp.refl wm []).drewN nq) (by simp))
              have hxl : ∀ es, px = some es → es.length ≤ 1099511627776 := by
                intro es hes
                have h1 := congrArg Out.x HP.out
                rcases parse_x bs _ es (h1.symm.trans hes) with h2 | h2
                · have h2' : X = some es := h2
                  have := E.out.2.2.2.2.2
                  rw [h2'] at this
                  have h3 : nX = es.length := this
                  omega
                · omega
              have S3 := fun nq : Nat => exteq_any px x3 (.slice xa2 xn2 xc2) _ _ (wm.drewN nq) (m3.kept ((Kp.refl wm []).drewN nq) (by simp)) (m6.kept ((Kp.refl wm []).drewN nq) (by simp)) hxl
              have DF : Hid (Below w.heap.size w wm) := by
                have h1 := HB.out.2
                have h2 : Below W.heap.size W wm := HD.trans (KM.below W.heap.size HD.size (by simp; exact hMW))
                exact HB.out.1.trans (h2.mono (by omega))
              have p0 := BM.cell 0; have p1 := BM.cell 1; have p2 := BM.cell 2; have p3 := BM.cell 3; have p4 := BM.cell 4; have p5 := BM.cell 5
              have t0 := IM.cell 0; have t1 := IM.cell 1; have t2 := IM.cell 2; have t3 := IM.cell 3; have t4 := IM.cell 4; have t5 := IM.cell 5; have t6 := IM.cell 6
              simp only [List.getElem?_cons_succ, List.getElem?_cons_zero] at p0 p1 p2 p3 p4 p5 t0 t1 t2 t3 t4 t5 t6
              clear CU hin IM BM m1 m2 m3 m4 m5 m6 hxl KM ML IL Rbl hubl v1 v2 v3 HD
              go_upto_region 56 with (go_at_call 7; refine CE.mono ?_; rintro e w' ⟨rfl, rfl⟩)
              clear CE
              as_aux_lemma =>
              go_quiet (first | (go_at_call_of 8 r3; refine Calls.quiet_of_same (S1 _)) | (go_at_call_of 8 s3; refine Calls.quiet_of_same (S2 _)) | (go_at_call 9; refine Calls.quiet_of (S3 _)))
              go_wp2
              go_ret
              exact ⟨rfl, below_drewN' DF.out _⟩
end Go.Proofs.Ybulkdrkk
