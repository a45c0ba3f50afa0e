/-
  The three regions again, the slots that they fill named.
-/
import Derived.Test.YbulkdrkkRegs
namespace Go.Proofs.Ybulkdrkk
open Go.RowKit
set_option linter.unusedVariables false

theorem r33' (ops : Array Oper) (hops : Yba.f3.body.bind (regOf 33) = some ops) (tm : Array Value) (df : List Deferred) (hs : tm.size = 335) (u27 : Value) (b o n5 c5 k dn N base : Nat) (te : Int) (wr : World)
    (t27 : tm[27]'(by omega) = u27) (t5 : tm[5]'(by omega) = .slice (some ⟨b, o, none⟩) n5 c5) (t28 : tm[28]'(by omega) = .int .i64 k) (t29 : tm[29]'(by omega) = .int .i64 dn)
    (hk : (k : Int) < (n5 : Int)) (hte : 0 ≤ te ∧ te ≤ 65535) (hdn : (dn : Int) ≤ 1048576) (f0 : wr.cell? ⟨b, o + k * 2, none⟩ = some (.int .u16 te)) (hb : b < base) (hbase : base ≤ wr.heap.size) (hN : N ≤ 5242880) (V : Buf wr base u27 N)  {Q : Exit → Act → World → Prop} (hQ : ∀ v' w' x160 x161 x162 x163 x164 x165 x166 x167 x168 x169 x170 x171 x172 x173 x174 x175 x176 x177 x178 x179 x180, Buf w' base v' (N + 4) → Below base wr w' → Q .normal ⟨(((((((((((((((((((((tm.setIfInBounds 160 x160).setIfInBounds 161 x161).setIfInBounds 162 x162).setIfInBounds 163 x163).setIfInBounds 164 x164).setIfInBounds 165 x165).setIfInBounds 166 x166).setIfInBounds 167 x167).setIfInBounds 168 x168).setIfInBounds 169 x169).setIfInBounds 170 x170).setIfInBounds 171 x171).setIfInBounds 172 x172).setIfInBounds 173 x173).setIfInBounds 174 x174).setIfInBounds 175 x175).setIfInBounds 176 x176).setIfInBounds 177 x177).setIfInBounds 178 x178).setIfInBounds 179 x179).setIfInBounds 180 x180).setIfInBounds 27 v', df⟩ w') : (Code.region 33 ops true).wp Yba.prog Q ⟨tm, df⟩ wr := by
  refine abs_frame _ (r33 ops hops tm df hs u27 b o n5 c5 k dn N base te wr t27 t5 t28 t29 hk hte hdn f0 hb hbase hN V) ?_
  rintro a' w' ⟨v', t, U', D', h0, rfl⟩
  obtain ⟨t0, x180, h0_0, rfl⟩ := h0.inv
  obtain ⟨t1, x179, h0_1, rfl⟩ := h0_0.inv
  obtain ⟨t2, x178, h0_2, rfl⟩ := h0_1.inv
  obtain ⟨t3, x177, h0_3, rfl⟩ := h0_2.inv
  obtain ⟨t4, x176, h0_4, rfl⟩ := h0_3.inv
  obtain ⟨t5, x175, h0_5, rfl⟩ := h0_4.inv
  obtain ⟨t6, x174, h0_6, rfl⟩ := h0_5.inv
  obtain ⟨t7, x173, h0_7, rfl⟩ := h0_6.inv
  obtain ⟨t8, x172, h0_8, rfl⟩ := h0_7.inv
  obtain ⟨t9, x171, h0_9, rfl⟩ := h0_8.inv
  obtain ⟨t10, x170, h0_10, rfl⟩ := h0_9.inv
  obtain ⟨t11, x169, h0_11, rfl⟩ := h0_10.inv
  obtain ⟨t12, x168, h0_12, rfl⟩ := h0_11.inv
  obtain ⟨t13, x167, h0_13, rfl⟩ := h0_12.inv
  obtain ⟨t14, x166, h0_14, rfl⟩ := h0_13.inv
  obtain ⟨t15, x165, h0_15, rfl⟩ := h0_14.inv
  obtain ⟨t16, x164, h0_16, rfl⟩ := h0_15.inv
  obtain ⟨t17, x163, h0_17, rfl⟩ := h0_16.inv
  obtain ⟨t18, x162, h0_18, rfl⟩ := h0_17.inv
  obtain ⟨t19, x161, h0_19, rfl⟩ := h0_18.inv
  obtain ⟨t20, x160, h0_20, rfl⟩ := h0_19.inv
  obtain rfl := h0_20.end
  exact hQ _ _ _ _ _ _ _ _ _ _ _ _ _ _ _ _ _ _ _ _ _ _ _ U' D'

theorem r49' (ops : Array Oper) (hops : Yba.f3.body.bind (regOf 49) = some ops) (tm : Array Value) (df : List Deferred) (hs : tm.size = 335) (B gI b o nX cX k : Nat) (te : Int) (T : Option (List Int)) (da : Option Addr) (dn dc : Nat) (ds : List (Int × Value)) (bad : Nat → Prop) (wr : World)
    (t32 : tm[32]'(by omega) = .slice (some ⟨gI, 0, none⟩) nX nX) (t33 : tm[33]'(by omega) = .int .i64 k) (t19 : tm[19]'(by omega) = .pointer (some ⟨B, 0, none⟩))
    (hk : (k : Int) < (nX : Int)) (z5 : wr.cell? ⟨B, 5, none⟩ = some (.slice (some ⟨b, o, none⟩) nX cX)) (f0 : wr.cell? ⟨b, o + k * 2, none⟩ = some (.int .u16 te)) (f1 : wr.cell? ⟨b, o + k * 2 + 1, none⟩ = some (.slice da dn dc))
    (hB : B < gI) (hb : b < gI) (hI : Blk wr gI (flat ds) 33) (hds : ds.length = nX) (hd : Rd wr (.slice da dn dc) T bad) (hl : olen T ≤ 140737488351232)  {Q : Exit → Act → World → Prop} (hQ : ∀ u w' x233 x234 x235 x236 x237 x238 x239 x240 x241 x242 x243 x244 x245 x246 x247 x248 x249, Blk w' gI (flat (ds.set k (te, u))) 33 → Rd w' u T (fun j => j < wr.heap.size) → Kp wr w' [gI] → Q .normal ⟨(((((((((((((((((tm.setIfInBounds 233 x233).setIfInBounds 234 x234).setIfInBounds 235 x235).setIfInBounds 236 x236).setIfInBounds 237 x237).setIfInBounds 238 x238).setIfInBounds 239 x239).setIfInBounds 240 x240).setIfInBounds 241 x241).setIfInBounds 242 x242).setIfInBounds 243 x243).setIfInBounds 244 x244).setIfInBounds 245 x245).setIfInBounds 246 x246).setIfInBounds 247 x247).setIfInBounds 248 x248).setIfInBounds 249 x249), df⟩ w') : (Code.region 49 ops true).wp Yba.prog Q ⟨tm, df⟩ wr := by
  refine abs_frame _ (r49 ops hops tm df hs B gI b o nX cX k te T da dn dc ds bad wr t32 t33 t19 hk z5 f0 f1 hB hb hI hds hd hl) ?_
  rintro a' w' ⟨u, t, q1, q2, q3, h0, rfl⟩
  obtain ⟨t0, x249, h0_0, rfl⟩ := h0.inv
  obtain ⟨t1, x248, h0_1, rfl⟩ := h0_0.inv
  obtain ⟨t2, x247, h0_2, rfl⟩ := h0_1.inv
  obtain ⟨t3, x246, h0_3, rfl⟩ := h0_2.inv
  obtain ⟨t4, x245, h0_4, rfl⟩ := h0_3.inv
  obtain ⟨t5, x244, h0_5, rfl⟩ := h0_4.inv
  obtain ⟨t6, x243, h0_6, rfl⟩ := h0_5.inv
  obtain ⟨t7, x242, h0_7, rfl⟩ := h0_6.inv
  obtain ⟨t8, x241, h0_8, rfl⟩ := h0_7.inv
  obtain ⟨t9, x240, h0_9, rfl⟩ := h0_8.inv
  obtain ⟨t10, x239, h0_10, rfl⟩ := h0_9.inv
  obtain ⟨t11, x238, h0_11, rfl⟩ := h0_10.inv
  obtain ⟨t12, x237, h0_12, rfl⟩ := h0_11.inv
  obtain ⟨t13, x236, h0_13, rfl⟩ := h0_12.inv
  obtain ⟨t14, x235, h0_14, rfl⟩ := h0_13.inv
  obtain ⟨t15, x234, h0_15, rfl⟩ := h0_14.inv
  obtain ⟨t16, x233, h0_16, rfl⟩ := h0_15.inv
  obtain rfl := h0_16.end
  exact hQ _ _ _ _ _ _ _ _ _ _ _ _ _ _ _ _ _ _ _ q1 q2 q3

theorem r50' (ops : Array Oper) (hops : Yba.f3.body.bind (regOf 50) = some ops) (tm : Array Value) (df : List Deferred) (hs : tm.size = 335) (B xn xc nR cR nS cS : Nat) (xa oR oS : Option Addr) (i0 i3 i4 : Int) (R S : Option (List Int)) (wr : World)
    (t19 : tm[19]'(by omega) = .pointer (some ⟨B, 0, none⟩)) (t32 : tm[32]'(by omega) = .slice xa xn xc) (hB : B < wr.heap.size)
    (z0 : wr.cell? ⟨B, 0, none⟩ = some (.int .u16 i0)) (z1 : wr.cell? ⟨B, 1, none⟩ = some (.slice oR nR cR)) (z2 : wr.cell? ⟨B, 2, none⟩ = some (.slice oS nS cS)) (z3 : wr.cell? ⟨B, 3, none⟩ = some (.int .u16 i3)) (z4 : wr.cell? ⟨B, 4, none⟩ = some (.int .u8 i4))
    (hR : Rd wr (.slice oR nR cR) R (fun _ => False)) (hS : Rd wr (.slice oS nS cS) S (fun _ => False)) (lR : olen R ≤ 140737488351232) (lS : olen S ≤ 140737488351232)  {Q : Exit → Act → World → Prop} (hQ : ∀ r' s' gM w' x250 x251 x252 x253 x255 x256 x258 x259 x260 x261 x262 x254 x257 x263 x264, Blk w' gM [.int .u16 i0, r', s', .int .u16 i3, .int .u8 i4, .slice xa xn xc] 36 → Rd w' r' R (fun k => k = gM) → Rd w' s' S (fun k => k = gM) → wr.heap.size ≤ gM → Below wr.heap.size wr w' → Q .normal ⟨(((((((((((((((tm.setIfInBounds 250 x250).setIfInBounds 251 x251).setIfInBounds 252 x252).setIfInBounds 253 x253).setIfInBounds 255 x255).setIfInBounds 256 x256).setIfInBounds 258 x258).setIfInBounds 259 x259).setIfInBounds 260 x260).setIfInBounds 261 x261).setIfInBounds 262 x262).setIfInBounds 254 x254).setIfInBounds 257 x257).setIfInBounds 263 x263).setIfInBounds 264 x264).setIfInBounds 34 (.pointer (some ⟨gM, 0, none⟩)), df⟩ w') : (Code.region 50 ops true).wp Yba.prog Q ⟨tm, df⟩ wr := by
  refine abs_frame _ (r50 ops hops tm df hs B xn xc nR cR nS cS xa oR oS i0 i3 i4 R S wr t19 t32 hB z0 z1 z2 z3 z4 hR hS lR lS) ?_
  rintro a' w' ⟨r', s', gM, t, q1, q2, q3, q4, q5, h0, rfl⟩
  obtain ⟨t0, x264, h0_0, rfl⟩ := h0.inv
  obtain ⟨t1, x263, h0_1, rfl⟩ := h0_0.inv
  obtain ⟨t2, x257, h0_2, rfl⟩ := h0_1.inv
  obtain ⟨t3, x254, h0_3, rfl⟩ := h0_2.inv
  obtain ⟨t4, x262, h0_4, rfl⟩ := h0_3.inv
  obtain ⟨t5, x261, h0_5, rfl⟩ := h0_4.inv
  obtain ⟨t6, x260, h0_6, rfl⟩ := h0_5.inv
  obtain ⟨t7, x259, h0_7, rfl⟩ := h0_6.inv
  obtain ⟨t8, x258, h0_8, rfl⟩ := h0_7.inv
  obtain ⟨t9, x256, h0_9, rfl⟩ := h0_8.inv
  obtain ⟨t10, x255, h0_10, rfl⟩ := h0_9.inv
  obtain ⟨t11, x253, h0_11, rfl⟩ := h0_10.inv
  obtain ⟨t12, x252, h0_12, rfl⟩ := h0_11.inv
  obtain ⟨t13, x251, h0_13, rfl⟩ := h0_12.inv
  obtain ⟨t14, x250, h0_14, rfl⟩ := h0_13.inv
  obtain rfl := h0_14.end
  exact hQ _ _ _ _ _ _ _ _ _ _ _ _ _ _ _ _ _ _ _ q1 q2 q3 q4 q5
end Go.Proofs.Ybulkdrkk
