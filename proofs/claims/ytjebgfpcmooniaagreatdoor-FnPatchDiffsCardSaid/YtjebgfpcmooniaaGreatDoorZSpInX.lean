/- PatchSplitMax: its inner loop: an equality, a piece of it. PatchSplitMax: its inner loop: a deletion, whole. PatchSplitMax: its inner loop: a deletion, a piece of it. PatchSplitMax: its inner loop: the end. -/
import Derived.Test.YtjebgfpcmooniaaGreatDoorZSpBase
import Derived.Deep.RegionHeld3
import Derived.Deep.RegionLaw
import Derived.Deep.CutRange
namespace Go.Proofs.YtjebgfpcmooniaaGreatDoor
open Go Go.RowKit

set_option maxRecDepth 100000 in
set_option maxHeartbeats 4000000 in
theorem in_eqc {w0 wr : World} {gd : Nat} {tmo cost dist : Int} {th de mar bits W Wd M : Nat} {v dvb dv : Value} {G gb G2 m : Nat} {L : List (Value × P)} {X prec B T T' : List UInt8} {R r : List D} {cur : P} {e : Bool} {S1 S2 : Int} {Ps Qs : List P} {tx : ByteArray} {u1 u2 u3 u4 u6 u10 u13 u14 u15 u16 u17 u18 u19 u20 u21 u22 u23 u24 u25 u26 u27 u28 u29 u30 u31 u32 u33 u34 u35 u36 u37 u38 u39 u40 u41 u42 u43 u44 u45 u46 u47 u48 u49 u50 u51 u52 u53 u54 u55 u56 u57 u58 u59 u60 u61 u62 u63 u64 u65 u66 u67 u68 u69 u70 u71 u72 u73 u74 u75 u76 u77 u78 u79 u80 u81 u82 u83 u84 u85 u86 u87 u88 u89 u90 u91 u92 u93 u94 u95 u96 u97 u98 u99 u100 u101 u102 u103 u104 u105 u106 u107 u108 u109 u110 u111 u112 u113 u114 u115 u116 u117 u118 u119 u120 u121 u122 u123 u124 u125 u126 u127 u128 u129 u130 u131 u132 u133 u134 u135 u136 u137 u138 u139 u140 u141 u142 u143 u144 u145 u146 u147 u148 u149 u150 u151 u152 u153 u154 u155 u156 u157 u158 u159 u160 u161 u162 u163 u164 u165 u166 u167 u168 u169 u170 u171 u172 u173 u174 u175 u176 u177 u178 u179 u180 u181 u182 u183 u184 u185 u186 u187 u188 u189 u190 u191 u192 u193 u194 u195 u196 u197 u198 u199 u200 u201 u202 u203 u204 u205 u206 u207 u208 u209 u210 u211 u212 u213 u214 u215 u216 u217 u218 u219 u220 u221 u222 u223 u224 u225 u226 u227 u228 u229 u230 u231 u232 u233 u234 u235 u236 u237 u238 u239 u240 u241 u242 u243 u244 u245 u246 u247 u248 u249 u250 u251 u252 u253 u254 u255 u256 u257 u258 u259 u260 u261 u262 u263 u264 u265 u266 u267 u268 u269 u270 u271 u272 u273 u274 u275 u276 u277 u278 u279 u280 u281 u282 u283 u284 u285 u286 u287 u288 u289 u290 u291 u292 u293 u294 u295 u296 u297 u298 u299 u300 u301 u302 u303 u304 u305 u306 u307 u308 u309 u310 u311 u312 u313 u314 u315 u316 u317 u318 u319 u320 u321 u322 u323 u324 u325 u326 u327 u328 u329 u330 u331 u332 u333 u334 u335 u336 u337 u338 u339 u340 u341 u342 u343 u344 u345 u346 : Value} (hok : Hid (SpOk w0 gd tmo cost dist th de mar bits W Wd M)) (hi : Hid (SpInv M T T' Ps X prec R B Qs)) (hin : Hid (InR w0 wr mar v dvb dv G gb G2 m L X prec R (⟨0, tx⟩ :: r) cur e)) (hS : Hid (S2 = X.length + (tgtL cur.ds).length)) (hw : wtD R ≤ Wd) (hlt : cur.l1 < bits - mar) (hsz : bits - cur.l1 - mar < (tx.size : Int)) (J : Act → World → Prop) (Q : Exit → Act → World → Prop)
    (hJ : ∀ a w', (FrIn gd bits G G2 u1 u2 u3 u4 u6 u10 u15 u16 u17 u18 u19 u20 u21 u22 u23 u24 u25 u26 u27 u28 u29 u30 u31 u32 u33 u34 u35 u36 u37 u38 u39 u40 u41 u42 u43 u44 u45 u46 u47 u48 u49 u50 u51 u52 u53 u54 u55 u56 u57 u58 u59 u60 u61 u62 u63 u64 u65 u66 u67 u68 u69 u70 u71 u72 u73 u74 u75 u76 u77 u78 u79 u80 u81 u244 u245 u246 u247 u248 u249 u250 u251 u252 u253 u254 u255 u256 u257 u258 u259 u260 u261 u262 u263 u264 u265 u266 u267 u268 u269 u270 u271 u272 u273 u274 u275 u276 u277 u278 u279 u280 u281 u282 u283 u284 u285 u286 u287 u288 u289 u290 u291 u292 u293 u294 u295 u296 u297 u298 u299 u300 u301 u302 u303 u304 u305 u306 u307 u308 u309 u310 u311 u312 u313 u314 u315 u316 u317 u318 u319 u320 u321 u322 u323 u324 u325 u326 u327 u328 u329 u330 u331 u332 u333 u334 u335 u336 u337 u338 u339 u340 u341 u342 u343 u344 u345 u346 (InS w0 mar v G gb G2 m L X prec R (wtD (⟨0, tx⟩ :: r)))) a w' → J a w') :
    Code.wp Tryz.prog round4 (Exit.then J Q) { tmps := #[.pointer (some ⟨gd, 0, none⟩), u1, u2, u3, u4, .int .i64 bits, u6, .pointer (some ⟨G, 0, none⟩), .int .i64 S1, .int .i64 S2, u10, .pointer (some ⟨G2, 0, none⟩), .bool e, u13, u14, u15, u16, u17, u18, u19, u20, u21, u22, u23, u24, u25, u26, u27, u28, u29, u30, u31, u32, u33, u34, u35, u36, u37, u38, u39, u40, u41, u42, u43, u44, u45, u46, u47, u48, u49, u50, u51, u52, u53, u54, u55, u56, u57, u58, u59, u60, u61, u62, u63, u64, u65, u66, u67, u68, u69, u70, u71, u72, u73, u74, u75, u76, u77, u78, u79, u80, u81, u82, u83, u84, u85, u86, u87, u88, u89, u90, u91, u92, u93, u94, u95, u96, u97, u98, u99, u100, u101, u102, u103, u104, u105, u106, u107, u108, u109, u110, u111, u112, u113, u114, u115, u116, u117, u118, u119, u120, u121, u122, u123, u124, u125, u126, u127, u128, u129, u130, u131, u132, u133, u134, u135, u136, u137, u138, u139, u140, u141, u142, u143, u144, u145, u146, u147, u148, u149, u150, u151, u152, u153, u154, u155, u156, u157, u158, u159, u160, u161, u162, u163, u164, u165, u166, u167, u168, u169, u170, u171, u172, u173, u174, u175, u176, u177, u178, u179, u180, u181, u182, u183, u184, u185, u186, u187, u188, u189, u190, u191, u192, u193, u194, u195, u196, u197, u198, u199, u200, u201, u202, u203, u204, u205, u206, u207, u208, u209, u210, u211, u212, u213, u214, u215, u216, u217, u218, u219, u220, u221, u222, u223, u224, u225, u226, u227, u228, u229, u230, u231, u232, u233, u234, u235, u236, u237, u238, u239, u240, u241, u242, u243, u244, u245, u246, u247, u248, u249, u250, u251, u252, u253, u254, u255, u256, u257, u258, u259, u260, u261, u262, u263, u264, u265, u266, u267, u268, u269, u270, u271, u272, u273, u274, u275, u276, u277, u278, u279, u280, u281, u282, u283, u284, u285, u286, u287, u288, u289, u290, u291, u292, u293, u294, u295, u296, u297, u298, u299, u300, u301, u302, u303, u304, u305, u306, u307, u308, u309, u310, u311, u312, u313, u314, u315, u316, u317, u318, u319, u320, u321, u322, u323, u324, u325, u326, u327, u328, u329, u330, u331, u332, u333, u334, u335, u336, u337, u338, u339, u340, u341, u342, u343, u344, u345, u346], defers := [] } wr := by
  obtain ⟨a1, a2, b1, b2, hM9⟩ : 1 ≤ mar ∧ mar ≤ 8 ∧ 32 ≤ bits ∧ bits ≤ 62 ∧ M ≤ 900000 := ⟨hok.out.mar1, hok.out.mar8, hok.out.bits1, hok.out.bits2, hok.out.M9⟩
  have hds := (hin.out.small hi.out).2.2.2 _ (List.mem_cons_self ..)
  have HV := Lib.hid (in_view hok.out hi.out hin.out hw)
  obtain ⟨o, c, rfl, hc, k0, k1, kf⟩ := hin.out.sc.big.view.head
  obtain ⟨y4, q0, g0, z0, z3, z4, h0, h3, h4, nG, nb, l0, lM, tM, rM, rN, dg, db, d2, gn, gB, G2s, Gs, gbs, cl, hown⟩ := HV.out
  have kf0 := kf o
  have kf1 := kf (o + 1)
  clear kf
  have hbm : IntKind.i64.wrap ((bits : Int) - (mar : Int)) = (bits : Int) - (mar : Int) := by rw [IntKind.wrap_i64]; omega
  have hne : ((r.length : Int) + 1 != 0) = true := by rw [bne_iff_ne]; omega
  have hS0 : 0 ≤ S2 := by have := hS.out; omega
  have hSM : S2 ≤ M := by have := hS.out; omega
  refine wp_qp ?_
  conv => arg 2; whnf
  go_wp2_with fail
  go_quiet (fail)
  have hin := Lib.hid (hin.out.drewN nq)
  clear HV y4 q0 g0 z0 z3 z4 h0 h3 h4 k0 k1 kf0 kf1 hown gB G2s Gs gbs hbm hne
  generalize wr.drewN nq = WA at hin ⊢
  obtain ⟨q0, g0, z0, z3, z4, h0, h3, h4, gB, G2s, Gs, gbs, hown⟩ := hin.out.sc.see
  obtain ⟨k0, k1, kf0, kf1⟩ := hin.out.sc.head
  dsimp only at k0 k1 hds

  have y4 := blk_cell (hok.out.dmp.below hin.out.sc.fw.bel hok.out.gd) 4
  simp at y4
  have hcl : cur.ds.length < 100000000 := by omega
  obtain ⟨rm, hrm⟩ : ∃ rm : Nat, (bits : Int) - cur.l1 - mar = rm := ⟨((bits : Int) - cur.l1 - mar).toNat, by omega⟩
  have hrm1 : 1 ≤ rm := by omega
  have hwa : IntKind.i64.wrap ((bits : Int) - cur.l1) = (bits : Int) - cur.l1 := by rw [IntKind.wrap_i64]; omega
  have hwb : IntKind.i64.wrap ((bits : Int) - cur.l1 - mar) = rm := by rw [hrm, IntKind.wrap_i64]; omega
  go_wp2_with fail
  go_quiet (first | (go_at_call 134; exact quiet_l (min_nat tx.size rm _)))
  have hin := Lib.hid (hin.out.drewN nq)
  clear y4 q0 g0 z0 z3 z4 h0 h3 h4 k0 k1 kf0 kf1 hown gB G2s Gs gbs hwa hwb
  generalize WA.drewN nq = WB at hin ⊢
  obtain ⟨q0, g0, z0, z3, z4, h0, h3, h4, gB, G2s, Gs, gbs, hown⟩ := hin.out.sc.see
  obtain ⟨k0, k1, kf0, kf1⟩ := hin.out.sc.head
  dsimp only at k0 k1
  obtain ⟨x, hx⟩ : ∃ x : ByteArray, x = tx.extract 0 (min tx.size rm) := ⟨_, rfl⟩
  have hxs : x.size = min tx.size rm := by rw [hx, ← tb_length, tb_extract, List.drop_zero, List.length_take, tb_length]; omega
  rw [← hx]
  have hrmb : (rm : Int) ≤ 62 := by omega
  have hwh : rm < tx.size := by omega
  clear hrm
  have hcx : x.size < tx.size := by omega
  have hx0 : 0 < x.size := by omega
  have hxe : (x.toList == tx.toList) = false := by
    rw [beq_eq_false_iff_ne, toList_tb, toList_tb]
    intro e
    have := congrArg List.length e
    rw [tb_length, tb_length] at this
    omega
  obtain ⟨y, hy⟩ : ∃ y : ByteArray, tx.extract x.size tx.size = y := ⟨_, rfl⟩
  have hxy : Hid (tb x ++ tb y = tb tx) := by
    have e1 : tb x = (tb tx).take x.size := by
      rw [hx, tb_extract, List.drop_zero, ← hx, hxs]
    
    show _ = _
    rw [← hy, tb_extract, show (tb tx).take tx.size = tb tx from List.take_of_length_le (by rw [tb_length]; exact Nat.le_refl _), e1, List.take_append_drop]
  clear hx
  have hyb : y.size ≤ 900000 := by have := congrArg List.length hxy.out; rw [List.length_append, tb_length, tb_length, tb_length] at this; omega
  have hx62 : x.size ≤ 62 := by omega
  have hle : x.size ≤ tx.size := by omega
  clear hxs
  have hsc0 := (hin.out.sc.num (cur.l1 + x.size)).2.2.1
  have hsc1 := Lib.hid (hsc0.num (wrap64 (cur.l2 + x.size))).2.2.2
  clear hsc0
  go_wp2_with (at_builtin; refine Hid.out ?_)
  refine Lib.hid ?_
  refine wpList_push (P := Tryz.prog) (v := dv) st77 rfl (.tmp 214) (.tmp 218) rfl rfl (hsc1.out.fw.own.alloc _) ⟨0, x⟩ ⟨WB.heap.size, 0, none⟩ 1 (by rfl) dP_len (dP_one _) hcl (le_al (by simpa [World.setCell] using gB)) (cells2_of (heap_alloc_at _ _ _ (by simp [World.setCell]))) ?_
  intro g cap w1 hown1 hg1 hat1
  have hgB := gb_trans (gb_alloc (gb_refl ((WB.setCell ⟨G2, 3, none⟩ (.int .i64 (cur.l1 + x.size))).setCell ⟨G2, 4, none⟩ (.int .i64 (wrap64 (cur.l2 + x.size)))) _) _) hg1 (.inl rfl)
  obtain ⟨e1, e2, e3, e4, e5, e6, e7⟩ := hsc1.out.grows2 hgB
  have hsc2 := Lib.hid (hsc1.out.turn hgB hown1 (hat_or hat1 (le_al (Nat.le_refl _))))
  dsimp only at hsc2 e4 e5
  clear hat1 hg1 hown1 hgB q0 g0 z0 z3 z4 h0 h3 h4 gB G2s Gs gbs hown k0 k1 kf0 kf1 hsc1
  go_wp2_with fail
  have hsc2 := Lib.hid hsc2.out.drew1
  refine region_tail 10 (by kernel_rfl) (by kernel_rfl) ?_
  clear e1 e2 e3 e4 e5 e6 e7
  generalize (w1.setCell ⟨G2, 0, none⟩ (.slice (some ⟨g, 0, none⟩) (cur.ds.length + 1) cap)).drew = WF at hsc2 ⊢
  obtain ⟨q0, g0, -, -, -, -, -, -, gB, G2s, Gs, gbs, -⟩ := hsc2.out.see
  obtain ⟨k0, k1, kf0, kf1⟩ := hsc2.out.head
  dsimp only at k0 k1
  simp only [List.take_succ_cons, List.take_zero, List.drop_succ_cons, List.drop_zero]
  repeat still_step
  refine wpStill_nil ?_
  have hsc3 := Lib.hid (hsc2.out.put y)
  go_wp2_with fail
  refine FrIn.mk _ _ _ _ _ _ _ _ _ _ _ _ _ _ _ _ _ _ _ _ _ _ _ _ _ _ _ _ _ _ _ _ _ _ _ _ _ _ _ _ _ _ _ _ _ _ _ _ _ _ _ _ _ _ _ _ _ _ _ _ _ _ _ _ _ _ _ _ _ _ _ _ _ _ _ _ _ _ _ _ _ _ _ _ _ _ _ _ _ _ _ _ _ _ _ _ _ _ _ _ _ _ _ _ _ _ _ _ _ _ _ _ _ _ _ _ _ _ _ _ _ _ _ _ _ _ _ _ _ _ _ _ _ _ _ _ _ _ _ _ _ _ _ _ _ _ _ _ _ _ _ _ _ _ _ _ _ _ _ _ _ _ _ _ _ _ _ _ ⟨wrap64 (S1 + x.size), S2 + x.size, e, _, _, _, _, rfl, rfl, rfl, hin.out.piece hxy.out hx0 (by simp) hsc3.out rfl rfl rfl ?_, ?_, ?_⟩
  · exact fun h => ⟨h, rfl⟩
  · show _ = _
    rw [tgtL_snoc, List.length_append, if_neg (by show ¬ (0 : Int) = -1; omega), tb_length, hS.out]; dsimp only; omega
  · have := congrArg List.length hxy.out
    rw [List.length_append, tb_length, tb_length, tb_length] at this
    rw [wtD_cons, wtD_cons]; dsimp only; omega
end Go.Proofs.YtjebgfpcmooniaaGreatDoor

namespace Go.Proofs.YtjebgfpcmooniaaGreatDoor
open Go Go.RowKit

set_option maxRecDepth 100000 in
set_option maxHeartbeats 4000000 in
theorem in_delw {w0 wr : World} {gd : Nat} {tmo cost dist : Int} {th de mar bits W Wd M : Nat} {v dvb dv : Value} {G gb G2 m : Nat} {L : List (Value × P)} {X prec B T T' : List UInt8} {R r : List D} {cur : P} {e : Bool} {S1 S2 : Int} {Ps Qs : List P} {tx : ByteArray} {u1 u2 u3 u4 u6 u10 u13 u14 u15 u16 u17 u18 u19 u20 u21 u22 u23 u24 u25 u26 u27 u28 u29 u30 u31 u32 u33 u34 u35 u36 u37 u38 u39 u40 u41 u42 u43 u44 u45 u46 u47 u48 u49 u50 u51 u52 u53 u54 u55 u56 u57 u58 u59 u60 u61 u62 u63 u64 u65 u66 u67 u68 u69 u70 u71 u72 u73 u74 u75 u76 u77 u78 u79 u80 u81 u82 u83 u84 u85 u86 u87 u88 u89 u90 u91 u92 u93 u94 u95 u96 u97 u98 u99 u100 u101 u102 u103 u104 u105 u106 u107 u108 u109 u110 u111 u112 u113 u114 u115 u116 u117 u118 u119 u120 u121 u122 u123 u124 u125 u126 u127 u128 u129 u130 u131 u132 u133 u134 u135 u136 u137 u138 u139 u140 u141 u142 u143 u144 u145 u146 u147 u148 u149 u150 u151 u152 u153 u154 u155 u156 u157 u158 u159 u160 u161 u162 u163 u164 u165 u166 u167 u168 u169 u170 u171 u172 u173 u174 u175 u176 u177 u178 u179 u180 u181 u182 u183 u184 u185 u186 u187 u188 u189 u190 u191 u192 u193 u194 u195 u196 u197 u198 u199 u200 u201 u202 u203 u204 u205 u206 u207 u208 u209 u210 u211 u212 u213 u214 u215 u216 u217 u218 u219 u220 u221 u222 u223 u224 u225 u226 u227 u228 u229 u230 u231 u232 u233 u234 u235 u236 u237 u238 u239 u240 u241 u242 u243 u244 u245 u246 u247 u248 u249 u250 u251 u252 u253 u254 u255 u256 u257 u258 u259 u260 u261 u262 u263 u264 u265 u266 u267 u268 u269 u270 u271 u272 u273 u274 u275 u276 u277 u278 u279 u280 u281 u282 u283 u284 u285 u286 u287 u288 u289 u290 u291 u292 u293 u294 u295 u296 u297 u298 u299 u300 u301 u302 u303 u304 u305 u306 u307 u308 u309 u310 u311 u312 u313 u314 u315 u316 u317 u318 u319 u320 u321 u322 u323 u324 u325 u326 u327 u328 u329 u330 u331 u332 u333 u334 u335 u336 u337 u338 u339 u340 u341 u342 u343 u344 u345 u346 : Value} (hok : Hid (SpOk w0 gd tmo cost dist th de mar bits W Wd M)) (hi : Hid (SpInv M T T' Ps X prec R B Qs)) (hin : Hid (InR w0 wr mar v dvb dv G gb G2 m L X prec R (⟨-1, tx⟩ :: r) cur e)) (hS : Hid (S2 = X.length + (tgtL cur.ds).length)) (hw : wtD R ≤ Wd) (hlt : cur.l1 < bits - mar) (hsz : (tx.size : Int) ≤ bits - cur.l1 - mar) (hno : ∀ dd, cur.ds[0]? = some dd → cur.ds.length = 1 ∧ dd.op = 0 → tx.size ≤ 2 * bits) (J : Act → World → Prop) (Q : Exit → Act → World → Prop)
    (hJ : ∀ a w', (FrIn gd bits G G2 u1 u2 u3 u4 u6 u10 u15 u16 u17 u18 u19 u20 u21 u22 u23 u24 u25 u26 u27 u28 u29 u30 u31 u32 u33 u34 u35 u36 u37 u38 u39 u40 u41 u42 u43 u44 u45 u46 u47 u48 u49 u50 u51 u52 u53 u54 u55 u56 u57 u58 u59 u60 u61 u62 u63 u64 u65 u66 u67 u68 u69 u70 u71 u72 u73 u74 u75 u76 u77 u78 u79 u80 u81 u244 u245 u246 u247 u248 u249 u250 u251 u252 u253 u254 u255 u256 u257 u258 u259 u260 u261 u262 u263 u264 u265 u266 u267 u268 u269 u270 u271 u272 u273 u274 u275 u276 u277 u278 u279 u280 u281 u282 u283 u284 u285 u286 u287 u288 u289 u290 u291 u292 u293 u294 u295 u296 u297 u298 u299 u300 u301 u302 u303 u304 u305 u306 u307 u308 u309 u310 u311 u312 u313 u314 u315 u316 u317 u318 u319 u320 u321 u322 u323 u324 u325 u326 u327 u328 u329 u330 u331 u332 u333 u334 u335 u336 u337 u338 u339 u340 u341 u342 u343 u344 u345 u346 (InS w0 mar v G gb G2 m L X prec R (wtD (⟨-1, tx⟩ :: r)))) a w' → J a w') :
    Code.wp Tryz.prog round4 (Exit.then J Q) { tmps := #[.pointer (some ⟨gd, 0, none⟩), u1, u2, u3, u4, .int .i64 bits, u6, .pointer (some ⟨G, 0, none⟩), .int .i64 S1, .int .i64 S2, u10, .pointer (some ⟨G2, 0, none⟩), .bool e, u13, u14, u15, u16, u17, u18, u19, u20, u21, u22, u23, u24, u25, u26, u27, u28, u29, u30, u31, u32, u33, u34, u35, u36, u37, u38, u39, u40, u41, u42, u43, u44, u45, u46, u47, u48, u49, u50, u51, u52, u53, u54, u55, u56, u57, u58, u59, u60, u61, u62, u63, u64, u65, u66, u67, u68, u69, u70, u71, u72, u73, u74, u75, u76, u77, u78, u79, u80, u81, u82, u83, u84, u85, u86, u87, u88, u89, u90, u91, u92, u93, u94, u95, u96, u97, u98, u99, u100, u101, u102, u103, u104, u105, u106, u107, u108, u109, u110, u111, u112, u113, u114, u115, u116, u117, u118, u119, u120, u121, u122, u123, u124, u125, u126, u127, u128, u129, u130, u131, u132, u133, u134, u135, u136, u137, u138, u139, u140, u141, u142, u143, u144, u145, u146, u147, u148, u149, u150, u151, u152, u153, u154, u155, u156, u157, u158, u159, u160, u161, u162, u163, u164, u165, u166, u167, u168, u169, u170, u171, u172, u173, u174, u175, u176, u177, u178, u179, u180, u181, u182, u183, u184, u185, u186, u187, u188, u189, u190, u191, u192, u193, u194, u195, u196, u197, u198, u199, u200, u201, u202, u203, u204, u205, u206, u207, u208, u209, u210, u211, u212, u213, u214, u215, u216, u217, u218, u219, u220, u221, u222, u223, u224, u225, u226, u227, u228, u229, u230, u231, u232, u233, u234, u235, u236, u237, u238, u239, u240, u241, u242, u243, u244, u245, u246, u247, u248, u249, u250, u251, u252, u253, u254, u255, u256, u257, u258, u259, u260, u261, u262, u263, u264, u265, u266, u267, u268, u269, u270, u271, u272, u273, u274, u275, u276, u277, u278, u279, u280, u281, u282, u283, u284, u285, u286, u287, u288, u289, u290, u291, u292, u293, u294, u295, u296, u297, u298, u299, u300, u301, u302, u303, u304, u305, u306, u307, u308, u309, u310, u311, u312, u313, u314, u315, u316, u317, u318, u319, u320, u321, u322, u323, u324, u325, u326, u327, u328, u329, u330, u331, u332, u333, u334, u335, u336, u337, u338, u339, u340, u341, u342, u343, u344, u345, u346], defers := [] } wr := by
  obtain ⟨a1, a2, b1, b2, hM9⟩ : 1 ≤ mar ∧ mar ≤ 8 ∧ 32 ≤ bits ∧ bits ≤ 62 ∧ M ≤ 900000 := ⟨hok.out.mar1, hok.out.mar8, hok.out.bits1, hok.out.bits2, hok.out.M9⟩
  have hds := (hin.out.small hi.out).2.2.2 _ (List.mem_cons_self ..)
  have HV := Lib.hid (in_view hok.out hi.out hin.out hw)
  obtain ⟨o, c, rfl, hc, k0, k1, kf⟩ := hin.out.sc.big.view.head
  obtain ⟨y4, q0, g0, z0, z3, z4, h0, h3, h4, nG, nb, l0, lM, tM, rM, rN, dg, db, d2, gn, gB, G2s, Gs, gbs, cl, hown⟩ := HV.out
  have kf0 := kf o
  have kf1 := kf (o + 1)
  clear kf
  have hbm : IntKind.i64.wrap ((bits : Int) - (mar : Int)) = (bits : Int) - (mar : Int) := by rw [IntKind.wrap_i64]; omega
  have hne : ((r.length : Int) + 1 != 0) = true := by rw [bne_iff_ne]; omega
  have hS0 : 0 ≤ S2 := by have := hS.out; omega
  have hSM : S2 ≤ M := by have := hS.out; omega
  refine wp_qp ?_
  conv => arg 2; whnf
  go_wp2_with fail
  go_quiet (fail)
  have hin := Lib.hid (hin.out.drewN nq)
  clear HV y4 q0 g0 z0 z3 z4 h0 h3 h4 k0 k1 kf0 kf1 hown gB G2s Gs gbs hbm hne
  generalize wr.drewN nq = WA at hin ⊢
  obtain ⟨q0, g0, z0, z3, z4, h0, h3, h4, gB, G2s, Gs, gbs, hown⟩ := hin.out.sc.see
  obtain ⟨k0, k1, kf0, kf1⟩ := hin.out.sc.head
  dsimp only at k0 k1 hds

  have y4 := blk_cell (hok.out.dmp.below hin.out.sc.fw.bel hok.out.gd) 4
  simp at y4

  obtain ⟨Av, cv, rfl, hrv⟩ := hown.rd dP_len
  go_upto_region 30 with fail
  go_cut [154] from 132 to 153 (fun v154 wx => v154 = .bool false ∧ wx = WA)
  case first =>
    by_cases hC1 : cur.ds.length = 1
    · obtain ⟨adv, dd, rfl, hvb, hvd, kv0, -⟩ := rd_dP hrv (k := 0) (by omega)
      simp only [Nat.zero_mul, add_zero'] at kv0
      have hgt := hno dd hvd
      clear hvd hrv hno
      rw [hC1] at z0
      by_cases h00 : dd.op = 0
      · have hgt2 : ¬ (2 * (bits : Int) < (tx.size : Int)) := fun h => absurd (hgt ⟨hC1, h00⟩) (by omega)
        rw [h00] at kv0
        go_wp2_with fail
        go_meet
        exact ⟨rfl, rfl⟩
      · have hb0 : (dd.op == 0) = false := by rw [beq_eq_false_iff_ne]; exact h00
        go_wp2_with fail
        go_meet
        exact ⟨rfl, rfl⟩
    · have hb1 : ((cur.ds.length : Int) == 1) = false := by rw [beq_eq_false_iff_ne]; omega
      clear hrv hno
      go_wp2_with fail
      go_meet
      exact ⟨rfl, rfl⟩
  case rest =>
    obtain ⟨rfl, hwc⟩ := hcut
    have hwc2 := hwc.symm
    subst hwc2
    have hcl : cur.ds.length < 100000000 := by omega
    obtain ⟨rm, hrm⟩ : ∃ rm : Nat, (bits : Int) - cur.l1 - mar = rm := ⟨((bits : Int) - cur.l1 - mar).toNat, by omega⟩
    have hrm1 : 1 ≤ rm := by omega
    have hwa : IntKind.i64.wrap ((bits : Int) - cur.l1) = (bits : Int) - cur.l1 := by rw [IntKind.wrap_i64]; omega
    have hwb : IntKind.i64.wrap ((bits : Int) - cur.l1 - mar) = rm := by rw [hrm, IntKind.wrap_i64]; omega
    go_wp2_with fail
    go_quiet (first | (go_at_call 134; exact quiet_l (min_nat tx.size rm _)))
    have hin := Lib.hid (hin.out.drewN nq)
    clear y4 q0 g0 z0 z3 z4 h0 h3 h4 k0 k1 kf0 kf1 hown gB G2s Gs gbs hwa hwb
    generalize WA.drewN nq = WB at hin ⊢
    obtain ⟨q0, g0, z0, z3, z4, h0, h3, h4, gB, G2s, Gs, gbs, hown⟩ := hin.out.sc.see
    obtain ⟨k0, k1, kf0, kf1⟩ := hin.out.sc.head
    dsimp only at k0 k1
    obtain ⟨x, hx⟩ : ∃ x : ByteArray, x = tx.extract 0 (min tx.size rm) := ⟨_, rfl⟩
    have hxs : x.size = min tx.size rm := by rw [hx, ← tb_length, tb_extract, List.drop_zero, List.length_take, tb_length]; omega
    rw [← hx]
    have hrmb : (rm : Int) ≤ 62 := by omega
    have hwh : tx.size ≤ rm := by omega
    clear hrm
    have hxt : x = tx := by
      apply tb_inj
      rw [hx, tb_extract, List.drop_zero, List.take_of_length_le (by rw [tb_length]; omega)]
    clear hx
    subst hxt
    clear hxs
    have hxe : (x.toList == x.toList) = true := by simp
    have hsc1 := Lib.hid (hin.out.sc.num (cur.l1 + x.size)).2.2.1
    go_wp2_with (at_builtin; refine Hid.out ?_)
    refine Lib.hid ?_
    refine wpList_push (P := Tryz.prog) (v := .slice Av cur.ds.length cv) st77 rfl (.tmp 214) (.tmp 218) rfl rfl (hsc1.out.fw.own.alloc _) ⟨(-1), x⟩ ⟨WB.heap.size, 0, none⟩ 1 (by rfl) dP_len (dP_one _) hcl (le_al (by simpa [World.setCell] using gB)) (cells2_of (heap_alloc_at _ _ _ (by simp [World.setCell]))) ?_
    intro g cap w1 hown1 hg1 hat1
    have hgB := gb_trans (gb_alloc (gb_refl (WB.setCell ⟨G2, 3, none⟩ (.int .i64 (cur.l1 + x.size))) _) _) hg1 (.inl rfl)
    obtain ⟨e1, e2, e3, e4, e5, e6, e7⟩ := hsc1.out.grows2 hgB
    have hsc2 := Lib.hid (hsc1.out.turn hgB hown1 (hat_or hat1 (le_al (Nat.le_refl _))))
    dsimp only at hsc2 e4 e5
    clear hat1 hg1 hown1 hgB q0 g0 z0 z3 z4 h0 h3 h4 gB G2s Gs gbs hown k0 k1 kf0 kf1 hsc1
    have ht := hsc2.out.big.view.tail hc
    by_cases hc1 : c = 1
    · obtain rfl : r = [] := List.length_eq_zero_iff.1 (by omega)
      subst hc1
      rw [if_pos rfl] at ht
      simp only [List.length_nil, Nat.sub_self] at ht
      have hsc3 := Lib.hid (hsc2.out.next ht)
      clear ht
      go_wp2_with fail
      refine FrIn.mk _ _ _ _ _ _ _ _ _ _ _ _ _ _ _ _ _ _ _ _ _ _ _ _ _ _ _ _ _ _ _ _ _ _ _ _ _ _ _ _ _ _ _ _ _ _ _ _ _ _ _ _ _ _ _ _ _ _ _ _ _ _ _ _ _ _ _ _ _ _ _ _ _ _ _ _ _ _ _ _ _ _ _ _ _ _ _ _ _ _ _ _ _ _ _ _ _ _ _ _ _ _ _ _ _ _ _ _ _ _ _ _ _ _ _ _ _ _ _ _ _ _ _ _ _ _ _ _ _ _ _ _ _ _ _ _ _ _ _ _ _ _ _ _ _ _ _ _ _ _ _ _ _ _ _ _ _ _ _ _ _ _ _ _ _ _ _ _ ⟨wrap64 (S1 + x.size), S2, false, _, _, _, _, rfl, rfl, rfl, hin.out.whole hsc3.out rfl ?_ rfl ?_, ?_, ?_⟩
      · simp
      · exact by simp
      · show _ = _
        rw [tgtL_snoc, List.length_append, if_pos rfl, hS.out]; simp
      · rw [wtD_cons]; dsimp only; omega
    · rw [if_neg hc1] at ht
      have hsc3 := Lib.hid (hsc2.out.next ht)
      clear ht
      go_wp2_with fail
      refine FrIn.mk _ _ _ _ _ _ _ _ _ _ _ _ _ _ _ _ _ _ _ _ _ _ _ _ _ _ _ _ _ _ _ _ _ _ _ _ _ _ _ _ _ _ _ _ _ _ _ _ _ _ _ _ _ _ _ _ _ _ _ _ _ _ _ _ _ _ _ _ _ _ _ _ _ _ _ _ _ _ _ _ _ _ _ _ _ _ _ _ _ _ _ _ _ _ _ _ _ _ _ _ _ _ _ _ _ _ _ _ _ _ _ _ _ _ _ _ _ _ _ _ _ _ _ _ _ _ _ _ _ _ _ _ _ _ _ _ _ _ _ _ _ _ _ _ _ _ _ _ _ _ _ _ _ _ _ _ _ _ _ _ _ _ _ _ _ _ _ _ ⟨wrap64 (S1 + x.size), S2, false, _, _, _, _, rfl, rfl, rfl, hin.out.whole hsc3.out rfl ?_ rfl ?_, ?_, ?_⟩
      · simp
      · exact by simp
      · show _ = _
        rw [tgtL_snoc, List.length_append, if_pos rfl, hS.out]; simp
      · rw [wtD_cons]; dsimp only; omega
end Go.Proofs.YtjebgfpcmooniaaGreatDoor

namespace Go.Proofs.YtjebgfpcmooniaaGreatDoor
open Go Go.RowKit

set_option maxRecDepth 100000 in
set_option maxHeartbeats 4000000 in
theorem in_delc {w0 wr : World} {gd : Nat} {tmo cost dist : Int} {th de mar bits W Wd M : Nat} {v dvb dv : Value} {G gb G2 m : Nat} {L : List (Value × P)} {X prec B T T' : List UInt8} {R r : List D} {cur : P} {e : Bool} {S1 S2 : Int} {Ps Qs : List P} {tx : ByteArray} {u1 u2 u3 u4 u6 u10 u13 u14 u15 u16 u17 u18 u19 u20 u21 u22 u23 u24 u25 u26 u27 u28 u29 u30 u31 u32 u33 u34 u35 u36 u37 u38 u39 u40 u41 u42 u43 u44 u45 u46 u47 u48 u49 u50 u51 u52 u53 u54 u55 u56 u57 u58 u59 u60 u61 u62 u63 u64 u65 u66 u67 u68 u69 u70 u71 u72 u73 u74 u75 u76 u77 u78 u79 u80 u81 u82 u83 u84 u85 u86 u87 u88 u89 u90 u91 u92 u93 u94 u95 u96 u97 u98 u99 u100 u101 u102 u103 u104 u105 u106 u107 u108 u109 u110 u111 u112 u113 u114 u115 u116 u117 u118 u119 u120 u121 u122 u123 u124 u125 u126 u127 u128 u129 u130 u131 u132 u133 u134 u135 u136 u137 u138 u139 u140 u141 u142 u143 u144 u145 u146 u147 u148 u149 u150 u151 u152 u153 u154 u155 u156 u157 u158 u159 u160 u161 u162 u163 u164 u165 u166 u167 u168 u169 u170 u171 u172 u173 u174 u175 u176 u177 u178 u179 u180 u181 u182 u183 u184 u185 u186 u187 u188 u189 u190 u191 u192 u193 u194 u195 u196 u197 u198 u199 u200 u201 u202 u203 u204 u205 u206 u207 u208 u209 u210 u211 u212 u213 u214 u215 u216 u217 u218 u219 u220 u221 u222 u223 u224 u225 u226 u227 u228 u229 u230 u231 u232 u233 u234 u235 u236 u237 u238 u239 u240 u241 u242 u243 u244 u245 u246 u247 u248 u249 u250 u251 u252 u253 u254 u255 u256 u257 u258 u259 u260 u261 u262 u263 u264 u265 u266 u267 u268 u269 u270 u271 u272 u273 u274 u275 u276 u277 u278 u279 u280 u281 u282 u283 u284 u285 u286 u287 u288 u289 u290 u291 u292 u293 u294 u295 u296 u297 u298 u299 u300 u301 u302 u303 u304 u305 u306 u307 u308 u309 u310 u311 u312 u313 u314 u315 u316 u317 u318 u319 u320 u321 u322 u323 u324 u325 u326 u327 u328 u329 u330 u331 u332 u333 u334 u335 u336 u337 u338 u339 u340 u341 u342 u343 u344 u345 u346 : Value} (hok : Hid (SpOk w0 gd tmo cost dist th de mar bits W Wd M)) (hi : Hid (SpInv M T T' Ps X prec R B Qs)) (hin : Hid (InR w0 wr mar v dvb dv G gb G2 m L X prec R (⟨-1, tx⟩ :: r) cur e)) (hS : Hid (S2 = X.length + (tgtL cur.ds).length)) (hw : wtD R ≤ Wd) (hlt : cur.l1 < bits - mar) (hsz : bits - cur.l1 - mar < (tx.size : Int)) (hno : ∀ dd, cur.ds[0]? = some dd → cur.ds.length = 1 ∧ dd.op = 0 → tx.size ≤ 2 * bits) (J : Act → World → Prop) (Q : Exit → Act → World → Prop)
    (hJ : ∀ a w', (FrIn gd bits G G2 u1 u2 u3 u4 u6 u10 u15 u16 u17 u18 u19 u20 u21 u22 u23 u24 u25 u26 u27 u28 u29 u30 u31 u32 u33 u34 u35 u36 u37 u38 u39 u40 u41 u42 u43 u44 u45 u46 u47 u48 u49 u50 u51 u52 u53 u54 u55 u56 u57 u58 u59 u60 u61 u62 u63 u64 u65 u66 u67 u68 u69 u70 u71 u72 u73 u74 u75 u76 u77 u78 u79 u80 u81 u244 u245 u246 u247 u248 u249 u250 u251 u252 u253 u254 u255 u256 u257 u258 u259 u260 u261 u262 u263 u264 u265 u266 u267 u268 u269 u270 u271 u272 u273 u274 u275 u276 u277 u278 u279 u280 u281 u282 u283 u284 u285 u286 u287 u288 u289 u290 u291 u292 u293 u294 u295 u296 u297 u298 u299 u300 u301 u302 u303 u304 u305 u306 u307 u308 u309 u310 u311 u312 u313 u314 u315 u316 u317 u318 u319 u320 u321 u322 u323 u324 u325 u326 u327 u328 u329 u330 u331 u332 u333 u334 u335 u336 u337 u338 u339 u340 u341 u342 u343 u344 u345 u346 (InS w0 mar v G gb G2 m L X prec R (wtD (⟨-1, tx⟩ :: r)))) a w' → J a w') :
    Code.wp Tryz.prog round4 (Exit.then J Q) { tmps := #[.pointer (some ⟨gd, 0, none⟩), u1, u2, u3, u4, .int .i64 bits, u6, .pointer (some ⟨G, 0, none⟩), .int .i64 S1, .int .i64 S2, u10, .pointer (some ⟨G2, 0, none⟩), .bool e, u13, u14, u15, u16, u17, u18, u19, u20, u21, u22, u23, u24, u25, u26, u27, u28, u29, u30, u31, u32, u33, u34, u35, u36, u37, u38, u39, u40, u41, u42, u43, u44, u45, u46, u47, u48, u49, u50, u51, u52, u53, u54, u55, u56, u57, u58, u59, u60, u61, u62, u63, u64, u65, u66, u67, u68, u69, u70, u71, u72, u73, u74, u75, u76, u77, u78, u79, u80, u81, u82, u83, u84, u85, u86, u87, u88, u89, u90, u91, u92, u93, u94, u95, u96, u97, u98, u99, u100, u101, u102, u103, u104, u105, u106, u107, u108, u109, u110, u111, u112, u113, u114, u115, u116, u117, u118, u119, u120, u121, u122, u123, u124, u125, u126, u127, u128, u129, u130, u131, u132, u133, u134, u135, u136, u137, u138, u139, u140, u141, u142, u143, u144, u145, u146, u147, u148, u149, u150, u151, u152, u153, u154, u155, u156, u157, u158, u159, u160, u161, u162, u163, u164, u165, u166, u167, u168, u169, u170, u171, u172, u173, u174, u175, u176, u177, u178, u179, u180, u181, u182, u183, u184, u185, u186, u187, u188, u189, u190, u191, u192, u193, u194, u195, u196, u197, u198, u199, u200, u201, u202, u203, u204, u205, u206, u207, u208, u209, u210, u211, u212, u213, u214, u215, u216, u217, u218, u219, u220, u221, u222, u223, u224, u225, u226, u227, u228, u229, u230, u231, u232, u233, u234, u235, u236, u237, u238, u239, u240, u241, u242, u243, u244, u245, u246, u247, u248, u249, u250, u251, u252, u253, u254, u255, u256, u257, u258, u259, u260, u261, u262, u263, u264, u265, u266, u267, u268, u269, u270, u271, u272, u273, u274, u275, u276, u277, u278, u279, u280, u281, u282, u283, u284, u285, u286, u287, u288, u289, u290, u291, u292, u293, u294, u295, u296, u297, u298, u299, u300, u301, u302, u303, u304, u305, u306, u307, u308, u309, u310, u311, u312, u313, u314, u315, u316, u317, u318, u319, u320, u321, u322, u323, u324, u325, u326, u327, u328, u329, u330, u331, u332, u333, u334, u335, u336, u337, u338, u339, u340, u341, u342, u343, u344, u345, u346], defers := [] } wr := by
  obtain ⟨a1, a2, b1, b2, hM9⟩ : 1 ≤ mar ∧ mar ≤ 8 ∧ 32 ≤ bits ∧ bits ≤ 62 ∧ M ≤ 900000 := ⟨hok.out.mar1, hok.out.mar8, hok.out.bits1, hok.out.bits2, hok.out.M9⟩
  have hds := (hin.out.small hi.out).2.2.2 _ (List.mem_cons_self ..)
  have HV := Lib.hid (in_view hok.out hi.out hin.out hw)
  obtain ⟨o, c, rfl, hc, k0, k1, kf⟩ := hin.out.sc.big.view.head
  obtain ⟨y4, q0, g0, z0, z3, z4, h0, h3, h4, nG, nb, l0, lM, tM, rM, rN, dg, db, d2, gn, gB, G2s, Gs, gbs, cl, hown⟩ := HV.out
  have kf0 := kf o
  have kf1 := kf (o + 1)
  clear kf
  have hbm : IntKind.i64.wrap ((bits : Int) - (mar : Int)) = (bits : Int) - (mar : Int) := by rw [IntKind.wrap_i64]; omega
  have hne : ((r.length : Int) + 1 != 0) = true := by rw [bne_iff_ne]; omega
  have hS0 : 0 ≤ S2 := by have := hS.out; omega
  have hSM : S2 ≤ M := by have := hS.out; omega
  refine wp_qp ?_
  conv => arg 2; whnf
  go_wp2_with fail
  go_quiet (fail)
  have hin := Lib.hid (hin.out.drewN nq)
  clear HV y4 q0 g0 z0 z3 z4 h0 h3 h4 k0 k1 kf0 kf1 hown gB G2s Gs gbs hbm hne
  generalize wr.drewN nq = WA at hin ⊢
  obtain ⟨q0, g0, z0, z3, z4, h0, h3, h4, gB, G2s, Gs, gbs, hown⟩ := hin.out.sc.see
  obtain ⟨k0, k1, kf0, kf1⟩ := hin.out.sc.head
  dsimp only at k0 k1 hds

  have y4 := blk_cell (hok.out.dmp.below hin.out.sc.fw.bel hok.out.gd) 4
  simp at y4

  obtain ⟨Av, cv, rfl, hrv⟩ := hown.rd dP_len
  go_upto_region 30 with fail
  go_cut [154] from 132 to 153 (fun v154 wx => v154 = .bool false ∧ wx = WA)
  case first =>
    by_cases hC1 : cur.ds.length = 1
    · obtain ⟨adv, dd, rfl, hvb, hvd, kv0, -⟩ := rd_dP hrv (k := 0) (by omega)
      simp only [Nat.zero_mul, add_zero'] at kv0
      have hgt := hno dd hvd
      clear hvd hrv hno
      rw [hC1] at z0
      by_cases h00 : dd.op = 0
      · have hgt2 : ¬ (2 * (bits : Int) < (tx.size : Int)) := fun h => absurd (hgt ⟨hC1, h00⟩) (by omega)
        rw [h00] at kv0
        go_wp2_with fail
        go_meet
        exact ⟨rfl, rfl⟩
      · have hb0 : (dd.op == 0) = false := by rw [beq_eq_false_iff_ne]; exact h00
        go_wp2_with fail
        go_meet
        exact ⟨rfl, rfl⟩
    · have hb1 : ((cur.ds.length : Int) == 1) = false := by rw [beq_eq_false_iff_ne]; omega
      clear hrv hno
      go_wp2_with fail
      go_meet
      exact ⟨rfl, rfl⟩
  case rest =>
    obtain ⟨rfl, hwc⟩ := hcut
    have hwc2 := hwc.symm
    subst hwc2
    have hcl : cur.ds.length < 100000000 := by omega
    obtain ⟨rm, hrm⟩ : ∃ rm : Nat, (bits : Int) - cur.l1 - mar = rm := ⟨((bits : Int) - cur.l1 - mar).toNat, by omega⟩
    have hrm1 : 1 ≤ rm := by omega
    have hwa : IntKind.i64.wrap ((bits : Int) - cur.l1) = (bits : Int) - cur.l1 := by rw [IntKind.wrap_i64]; omega
    have hwb : IntKind.i64.wrap ((bits : Int) - cur.l1 - mar) = rm := by rw [hrm, IntKind.wrap_i64]; omega
    go_wp2_with fail
    go_quiet (first | (go_at_call 134; exact quiet_l (min_nat tx.size rm _)))
    have hin := Lib.hid (hin.out.drewN nq)
    clear y4 q0 g0 z0 z3 z4 h0 h3 h4 k0 k1 kf0 kf1 hown gB G2s Gs gbs hwa hwb
    generalize WA.drewN nq = WB at hin ⊢
    obtain ⟨q0, g0, z0, z3, z4, h0, h3, h4, gB, G2s, Gs, gbs, hown⟩ := hin.out.sc.see
    obtain ⟨k0, k1, kf0, kf1⟩ := hin.out.sc.head
    dsimp only at k0 k1
    obtain ⟨x, hx⟩ : ∃ x : ByteArray, x = tx.extract 0 (min tx.size rm) := ⟨_, rfl⟩
    have hxs : x.size = min tx.size rm := by rw [hx, ← tb_length, tb_extract, List.drop_zero, List.length_take, tb_length]; omega
    rw [← hx]
    have hrmb : (rm : Int) ≤ 62 := by omega
    have hwh : rm < tx.size := by omega
    clear hrm
    have hcx : x.size < tx.size := by omega
    have hx0 : 0 < x.size := by omega
    have hxe : (x.toList == tx.toList) = false := by
      rw [beq_eq_false_iff_ne, toList_tb, toList_tb]
      intro e
      have := congrArg List.length e
      rw [tb_length, tb_length] at this
      omega
    obtain ⟨y, hy⟩ : ∃ y : ByteArray, tx.extract x.size tx.size = y := ⟨_, rfl⟩
    have hxy : Hid (tb x ++ tb y = tb tx) := by
      have e1 : tb x = (tb tx).take x.size := by
        rw [hx, tb_extract, List.drop_zero, ← hx, hxs]
    
      show _ = _
      rw [← hy, tb_extract, show (tb tx).take tx.size = tb tx from List.take_of_length_le (by rw [tb_length]; exact Nat.le_refl _), e1, List.take_append_drop]
    clear hx
    have hyb : y.size ≤ 900000 := by have := congrArg List.length hxy.out; rw [List.length_append, tb_length, tb_length, tb_length] at this; omega
    have hx62 : x.size ≤ 62 := by omega
    have hle : x.size ≤ tx.size := by omega
    clear hxs
    have hsc1 := Lib.hid (hin.out.sc.num (cur.l1 + x.size)).2.2.1
    go_wp2_with (at_builtin; refine Hid.out ?_)
    refine Lib.hid ?_
    refine wpList_push (P := Tryz.prog) (v := .slice Av cur.ds.length cv) st77 rfl (.tmp 214) (.tmp 218) rfl rfl (hsc1.out.fw.own.alloc _) ⟨(-1), x⟩ ⟨WB.heap.size, 0, none⟩ 1 (by rfl) dP_len (dP_one _) hcl (le_al (by simpa [World.setCell] using gB)) (cells2_of (heap_alloc_at _ _ _ (by simp [World.setCell]))) ?_
    intro g cap w1 hown1 hg1 hat1
    have hgB := gb_trans (gb_alloc (gb_refl (WB.setCell ⟨G2, 3, none⟩ (.int .i64 (cur.l1 + x.size))) _) _) hg1 (.inl rfl)
    obtain ⟨e1, e2, e3, e4, e5, e6, e7⟩ := hsc1.out.grows2 hgB
    have hsc2 := Lib.hid (hsc1.out.turn hgB hown1 (hat_or hat1 (le_al (Nat.le_refl _))))
    dsimp only at hsc2 e4 e5
    clear hat1 hg1 hown1 hgB q0 g0 z0 z3 z4 h0 h3 h4 gB G2s Gs gbs hown k0 k1 kf0 kf1 hsc1
    go_wp2_with fail
    have hsc2 := Lib.hid hsc2.out.drew1
    refine region_tail 10 (by kernel_rfl) (by kernel_rfl) ?_
    clear e1 e2 e3 e4 e5 e6 e7
    generalize (w1.setCell ⟨G2, 0, none⟩ (.slice (some ⟨g, 0, none⟩) (cur.ds.length + 1) cap)).drew = WF at hsc2 ⊢
    obtain ⟨q0, g0, -, -, -, -, -, -, gB, G2s, Gs, gbs, -⟩ := hsc2.out.see
    obtain ⟨k0, k1, kf0, kf1⟩ := hsc2.out.head
    dsimp only at k0 k1
    simp only [List.take_succ_cons, List.take_zero, List.drop_succ_cons, List.drop_zero]
    repeat still_step
    refine wpStill_nil ?_
    have hsc3 := Lib.hid (hsc2.out.put y)
    go_wp2_with fail
    refine FrIn.mk _ _ _ _ _ _ _ _ _ _ _ _ _ _ _ _ _ _ _ _ _ _ _ _ _ _ _ _ _ _ _ _ _ _ _ _ _ _ _ _ _ _ _ _ _ _ _ _ _ _ _ _ _ _ _ _ _ _ _ _ _ _ _ _ _ _ _ _ _ _ _ _ _ _ _ _ _ _ _ _ _ _ _ _ _ _ _ _ _ _ _ _ _ _ _ _ _ _ _ _ _ _ _ _ _ _ _ _ _ _ _ _ _ _ _ _ _ _ _ _ _ _ _ _ _ _ _ _ _ _ _ _ _ _ _ _ _ _ _ _ _ _ _ _ _ _ _ _ _ _ _ _ _ _ _ _ _ _ _ _ _ _ _ _ _ _ _ _ ⟨wrap64 (S1 + x.size), S2, false, _, _, _, _, rfl, rfl, rfl, hin.out.piece hxy.out hx0 (by simp) hsc3.out rfl rfl rfl ?_, ?_, ?_⟩
    · exact by simp
    · show _ = _
      rw [tgtL_snoc, List.length_append, if_pos rfl, hS.out]; simp
    · have := congrArg List.length hxy.out
      rw [List.length_append, tb_length, tb_length, tb_length] at this
      rw [wtD_cons, wtD_cons]; dsimp only; omega
end Go.Proofs.YtjebgfpcmooniaaGreatDoor

namespace Go.Proofs.YtjebgfpcmooniaaGreatDoor
open Go Go.RowKit

set_option maxRecDepth 100000 in
set_option maxHeartbeats 4000000 in
theorem in_exit_nil {w0 wr : World} {gd : Nat} {tmo cost dist : Int} {th de mar bits W Wd M : Nat} {v dvb dv : Value} {G gb G2 m : Nat} {L : List (Value × P)} {X prec B T T' : List UInt8} {R r : List D} {cur : P} {e : Bool} {S1 S2 : Int} {Ps Qs : List P} {u1 u2 u3 u4 u6 u10 u13 u14 u15 u16 u17 u18 u19 u20 u21 u22 u23 u24 u25 u26 u27 u28 u29 u30 u31 u32 u33 u34 u35 u36 u37 u38 u39 u40 u41 u42 u43 u44 u45 u46 u47 u48 u49 u50 u51 u52 u53 u54 u55 u56 u57 u58 u59 u60 u61 u62 u63 u64 u65 u66 u67 u68 u69 u70 u71 u72 u73 u74 u75 u76 u77 u78 u79 u80 u81 u82 u83 u84 u85 u86 u87 u88 u89 u90 u91 u92 u93 u94 u95 u96 u97 u98 u99 u100 u101 u102 u103 u104 u105 u106 u107 u108 u109 u110 u111 u112 u113 u114 u115 u116 u117 u118 u119 u120 u121 u122 u123 u124 u125 u126 u127 u128 u129 u130 u131 u132 u133 u134 u135 u136 u137 u138 u139 u140 u141 u142 u143 u144 u145 u146 u147 u148 u149 u150 u151 u152 u153 u154 u155 u156 u157 u158 u159 u160 u161 u162 u163 u164 u165 u166 u167 u168 u169 u170 u171 u172 u173 u174 u175 u176 u177 u178 u179 u180 u181 u182 u183 u184 u185 u186 u187 u188 u189 u190 u191 u192 u193 u194 u195 u196 u197 u198 u199 u200 u201 u202 u203 u204 u205 u206 u207 u208 u209 u210 u211 u212 u213 u214 u215 u216 u217 u218 u219 u220 u221 u222 u223 u224 u225 u226 u227 u228 u229 u230 u231 u232 u233 u234 u235 u236 u237 u238 u239 u240 u241 u242 u243 u244 u245 u246 u247 u248 u249 u250 u251 u252 u253 u254 u255 u256 u257 u258 u259 u260 u261 u262 u263 u264 u265 u266 u267 u268 u269 u270 u271 u272 u273 u274 u275 u276 u277 u278 u279 u280 u281 u282 u283 u284 u285 u286 u287 u288 u289 u290 u291 u292 u293 u294 u295 u296 u297 u298 u299 u300 u301 u302 u303 u304 u305 u306 u307 u308 u309 u310 u311 u312 u313 u314 u315 u316 u317 u318 u319 u320 u321 u322 u323 u324 u325 u326 u327 u328 u329 u330 u331 u332 u333 u334 u335 u336 u337 u338 u339 u340 u341 u342 u343 u344 u345 u346 : Value} (hok : Hid (SpOk w0 gd tmo cost dist th de mar bits W Wd M)) (hi : Hid (SpInv M T T' Ps X prec R B Qs)) (hin : Hid (InR w0 wr mar v dvb dv G gb G2 m L X prec R [] cur e)) (hS : Hid (S2 = X.length + (tgtL cur.ds).length)) (hw : wtD R ≤ Wd)  (J : Act → World → Prop) (Q : Exit → Act → World → Prop)
    (hexit : ∀ a w', (FrIn gd bits G G2 u1 u2 u3 u4 u6 u10 u15 u16 u17 u18 u19 u20 u21 u22 u23 u24 u25 u26 u27 u28 u29 u30 u31 u32 u33 u34 u35 u36 u37 u38 u39 u40 u41 u42 u43 u44 u45 u46 u47 u48 u49 u50 u51 u52 u53 u54 u55 u56 u57 u58 u59 u60 u61 u62 u63 u64 u65 u66 u67 u68 u69 u70 u71 u72 u73 u74 u75 u76 u77 u78 u79 u80 u81 u244 u245 u246 u247 u248 u249 u250 u251 u252 u253 u254 u255 u256 u257 u258 u259 u260 u261 u262 u263 u264 u265 u266 u267 u268 u269 u270 u271 u272 u273 u274 u275 u276 u277 u278 u279 u280 u281 u282 u283 u284 u285 u286 u287 u288 u289 u290 u291 u292 u293 u294 u295 u296 u297 u298 u299 u300 u301 u302 u303 u304 u305 u306 u307 u308 u309 u310 u311 u312 u313 u314 u315 u316 u317 u318 u319 u320 u321 u322 u323 u324 u325 u326 u327 u328 u329 u330 u331 u332 u333 u334 u335 u336 u337 u338 u339 u340 u341 u342 u343 u344 u345 u346 (InX w0 mar bits v G gb G2 m L X prec R)) a w' → Q (.exit 4) a w') :
    Code.wp Tryz.prog round4 (Exit.then J Q) { tmps := #[.pointer (some ⟨gd, 0, none⟩), u1, u2, u3, u4, .int .i64 bits, u6, .pointer (some ⟨G, 0, none⟩), .int .i64 S1, .int .i64 S2, u10, .pointer (some ⟨G2, 0, none⟩), .bool e, u13, u14, u15, u16, u17, u18, u19, u20, u21, u22, u23, u24, u25, u26, u27, u28, u29, u30, u31, u32, u33, u34, u35, u36, u37, u38, u39, u40, u41, u42, u43, u44, u45, u46, u47, u48, u49, u50, u51, u52, u53, u54, u55, u56, u57, u58, u59, u60, u61, u62, u63, u64, u65, u66, u67, u68, u69, u70, u71, u72, u73, u74, u75, u76, u77, u78, u79, u80, u81, u82, u83, u84, u85, u86, u87, u88, u89, u90, u91, u92, u93, u94, u95, u96, u97, u98, u99, u100, u101, u102, u103, u104, u105, u106, u107, u108, u109, u110, u111, u112, u113, u114, u115, u116, u117, u118, u119, u120, u121, u122, u123, u124, u125, u126, u127, u128, u129, u130, u131, u132, u133, u134, u135, u136, u137, u138, u139, u140, u141, u142, u143, u144, u145, u146, u147, u148, u149, u150, u151, u152, u153, u154, u155, u156, u157, u158, u159, u160, u161, u162, u163, u164, u165, u166, u167, u168, u169, u170, u171, u172, u173, u174, u175, u176, u177, u178, u179, u180, u181, u182, u183, u184, u185, u186, u187, u188, u189, u190, u191, u192, u193, u194, u195, u196, u197, u198, u199, u200, u201, u202, u203, u204, u205, u206, u207, u208, u209, u210, u211, u212, u213, u214, u215, u216, u217, u218, u219, u220, u221, u222, u223, u224, u225, u226, u227, u228, u229, u230, u231, u232, u233, u234, u235, u236, u237, u238, u239, u240, u241, u242, u243, u244, u245, u246, u247, u248, u249, u250, u251, u252, u253, u254, u255, u256, u257, u258, u259, u260, u261, u262, u263, u264, u265, u266, u267, u268, u269, u270, u271, u272, u273, u274, u275, u276, u277, u278, u279, u280, u281, u282, u283, u284, u285, u286, u287, u288, u289, u290, u291, u292, u293, u294, u295, u296, u297, u298, u299, u300, u301, u302, u303, u304, u305, u306, u307, u308, u309, u310, u311, u312, u313, u314, u315, u316, u317, u318, u319, u320, u321, u322, u323, u324, u325, u326, u327, u328, u329, u330, u331, u332, u333, u334, u335, u336, u337, u338, u339, u340, u341, u342, u343, u344, u345, u346], defers := [] } wr := by
  obtain ⟨a1, a2, b1, b2, hM9⟩ : 1 ≤ mar ∧ mar ≤ 8 ∧ 32 ≤ bits ∧ bits ≤ 62 ∧ M ≤ 900000 := ⟨hok.out.mar1, hok.out.mar8, hok.out.bits1, hok.out.bits2, hok.out.M9⟩

  obtain ⟨A, c, hv, hrr⟩ := hin.out.sc.big.view.rd
  simp only [List.length_nil] at hv
  subst hv
  clear hrr
  obtain ⟨y4, q0, g0, z0, z3, z4, h0, h3, h4, nG, nb, l0, lM, tM, rM, rN, dg, db, d2, gn, gB, G2s, Gs, gbs, cl, hown⟩ := in_view hok.out hi.out hin.out hw
  conv => arg 2; whnf
  go_wp2_with fail
  go_quiet (fail)
  go_wp2_with fail
  exact FrIn.mk _ _ _ _ _ _ _ _ _ _ _ _ _ _ _ _ _ _ _ _ _ _ _ _ _ _ _ _ _ _ _ _ _ _ _ _ _ _ _ _ _ _ _ _ _ _ _ _ _ _ _ _ _ _ _ _ _ _ _ _ _ _ _ _ _ _ _ _ _ _ _ _ _ _ _ _ _ _ _ _ _ _ _ _ _ _ _ _ _ _ _ _ _ _ _ _ _ _ _ _ _ _ _ _ _ _ _ _ _ _ _ _ _ _ _ _ _ _ _ _ _ _ _ _ _ _ _ _ _ _ _ _ _ _ _ _ _ _ _ _ _ _ _ _ _ _ _ _ _ _ _ _ _ _ _ _ _ _ _ _ _ _ _ _ _ _ _ _ ⟨S1, S2, e, _, dv, [], cur, rfl, rfl, rfl, hin.out.drewN nq, hS.out, .inl rfl⟩
set_option maxRecDepth 100000 in
set_option maxHeartbeats 4000000 in
theorem in_exit_len {w0 wr : World} {gd : Nat} {tmo cost dist : Int} {th de mar bits W Wd M : Nat} {v dvb dv : Value} {G gb G2 m : Nat} {L : List (Value × P)} {X prec B T T' : List UInt8} {R r : List D} {cur : P} {e : Bool} {S1 S2 : Int} {Ps Qs : List P} {d : D} {u1 u2 u3 u4 u6 u10 u13 u14 u15 u16 u17 u18 u19 u20 u21 u22 u23 u24 u25 u26 u27 u28 u29 u30 u31 u32 u33 u34 u35 u36 u37 u38 u39 u40 u41 u42 u43 u44 u45 u46 u47 u48 u49 u50 u51 u52 u53 u54 u55 u56 u57 u58 u59 u60 u61 u62 u63 u64 u65 u66 u67 u68 u69 u70 u71 u72 u73 u74 u75 u76 u77 u78 u79 u80 u81 u82 u83 u84 u85 u86 u87 u88 u89 u90 u91 u92 u93 u94 u95 u96 u97 u98 u99 u100 u101 u102 u103 u104 u105 u106 u107 u108 u109 u110 u111 u112 u113 u114 u115 u116 u117 u118 u119 u120 u121 u122 u123 u124 u125 u126 u127 u128 u129 u130 u131 u132 u133 u134 u135 u136 u137 u138 u139 u140 u141 u142 u143 u144 u145 u146 u147 u148 u149 u150 u151 u152 u153 u154 u155 u156 u157 u158 u159 u160 u161 u162 u163 u164 u165 u166 u167 u168 u169 u170 u171 u172 u173 u174 u175 u176 u177 u178 u179 u180 u181 u182 u183 u184 u185 u186 u187 u188 u189 u190 u191 u192 u193 u194 u195 u196 u197 u198 u199 u200 u201 u202 u203 u204 u205 u206 u207 u208 u209 u210 u211 u212 u213 u214 u215 u216 u217 u218 u219 u220 u221 u222 u223 u224 u225 u226 u227 u228 u229 u230 u231 u232 u233 u234 u235 u236 u237 u238 u239 u240 u241 u242 u243 u244 u245 u246 u247 u248 u249 u250 u251 u252 u253 u254 u255 u256 u257 u258 u259 u260 u261 u262 u263 u264 u265 u266 u267 u268 u269 u270 u271 u272 u273 u274 u275 u276 u277 u278 u279 u280 u281 u282 u283 u284 u285 u286 u287 u288 u289 u290 u291 u292 u293 u294 u295 u296 u297 u298 u299 u300 u301 u302 u303 u304 u305 u306 u307 u308 u309 u310 u311 u312 u313 u314 u315 u316 u317 u318 u319 u320 u321 u322 u323 u324 u325 u326 u327 u328 u329 u330 u331 u332 u333 u334 u335 u336 u337 u338 u339 u340 u341 u342 u343 u344 u345 u346 : Value} (hok : Hid (SpOk w0 gd tmo cost dist th de mar bits W Wd M)) (hi : Hid (SpInv M T T' Ps X prec R B Qs)) (hin : Hid (InR w0 wr mar v dvb dv G gb G2 m L X prec R (d :: r) cur e)) (hS : Hid (S2 = X.length + (tgtL cur.ds).length)) (hw : wtD R ≤ Wd) (hlt : (bits : Int) - mar ≤ cur.l1) (J : Act → World → Prop) (Q : Exit → Act → World → Prop)
    (hexit : ∀ a w', (FrIn gd bits G G2 u1 u2 u3 u4 u6 u10 u15 u16 u17 u18 u19 u20 u21 u22 u23 u24 u25 u26 u27 u28 u29 u30 u31 u32 u33 u34 u35 u36 u37 u38 u39 u40 u41 u42 u43 u44 u45 u46 u47 u48 u49 u50 u51 u52 u53 u54 u55 u56 u57 u58 u59 u60 u61 u62 u63 u64 u65 u66 u67 u68 u69 u70 u71 u72 u73 u74 u75 u76 u77 u78 u79 u80 u81 u244 u245 u246 u247 u248 u249 u250 u251 u252 u253 u254 u255 u256 u257 u258 u259 u260 u261 u262 u263 u264 u265 u266 u267 u268 u269 u270 u271 u272 u273 u274 u275 u276 u277 u278 u279 u280 u281 u282 u283 u284 u285 u286 u287 u288 u289 u290 u291 u292 u293 u294 u295 u296 u297 u298 u299 u300 u301 u302 u303 u304 u305 u306 u307 u308 u309 u310 u311 u312 u313 u314 u315 u316 u317 u318 u319 u320 u321 u322 u323 u324 u325 u326 u327 u328 u329 u330 u331 u332 u333 u334 u335 u336 u337 u338 u339 u340 u341 u342 u343 u344 u345 u346 (InX w0 mar bits v G gb G2 m L X prec R)) a w' → Q (.exit 4) a w') :
    Code.wp Tryz.prog round4 (Exit.then J Q) { tmps := #[.pointer (some ⟨gd, 0, none⟩), u1, u2, u3, u4, .int .i64 bits, u6, .pointer (some ⟨G, 0, none⟩), .int .i64 S1, .int .i64 S2, u10, .pointer (some ⟨G2, 0, none⟩), .bool e, u13, u14, u15, u16, u17, u18, u19, u20, u21, u22, u23, u24, u25, u26, u27, u28, u29, u30, u31, u32, u33, u34, u35, u36, u37, u38, u39, u40, u41, u42, u43, u44, u45, u46, u47, u48, u49, u50, u51, u52, u53, u54, u55, u56, u57, u58, u59, u60, u61, u62, u63, u64, u65, u66, u67, u68, u69, u70, u71, u72, u73, u74, u75, u76, u77, u78, u79, u80, u81, u82, u83, u84, u85, u86, u87, u88, u89, u90, u91, u92, u93, u94, u95, u96, u97, u98, u99, u100, u101, u102, u103, u104, u105, u106, u107, u108, u109, u110, u111, u112, u113, u114, u115, u116, u117, u118, u119, u120, u121, u122, u123, u124, u125, u126, u127, u128, u129, u130, u131, u132, u133, u134, u135, u136, u137, u138, u139, u140, u141, u142, u143, u144, u145, u146, u147, u148, u149, u150, u151, u152, u153, u154, u155, u156, u157, u158, u159, u160, u161, u162, u163, u164, u165, u166, u167, u168, u169, u170, u171, u172, u173, u174, u175, u176, u177, u178, u179, u180, u181, u182, u183, u184, u185, u186, u187, u188, u189, u190, u191, u192, u193, u194, u195, u196, u197, u198, u199, u200, u201, u202, u203, u204, u205, u206, u207, u208, u209, u210, u211, u212, u213, u214, u215, u216, u217, u218, u219, u220, u221, u222, u223, u224, u225, u226, u227, u228, u229, u230, u231, u232, u233, u234, u235, u236, u237, u238, u239, u240, u241, u242, u243, u244, u245, u246, u247, u248, u249, u250, u251, u252, u253, u254, u255, u256, u257, u258, u259, u260, u261, u262, u263, u264, u265, u266, u267, u268, u269, u270, u271, u272, u273, u274, u275, u276, u277, u278, u279, u280, u281, u282, u283, u284, u285, u286, u287, u288, u289, u290, u291, u292, u293, u294, u295, u296, u297, u298, u299, u300, u301, u302, u303, u304, u305, u306, u307, u308, u309, u310, u311, u312, u313, u314, u315, u316, u317, u318, u319, u320, u321, u322, u323, u324, u325, u326, u327, u328, u329, u330, u331, u332, u333, u334, u335, u336, u337, u338, u339, u340, u341, u342, u343, u344, u345, u346], defers := [] } wr := by
  obtain ⟨a1, a2, b1, b2, hM9⟩ : 1 ≤ mar ∧ mar ≤ 8 ∧ 32 ≤ bits ∧ bits ≤ 62 ∧ M ≤ 900000 := ⟨hok.out.mar1, hok.out.mar8, hok.out.bits1, hok.out.bits2, hok.out.M9⟩

  obtain ⟨o, c, rfl, hc, k0, k1, kf⟩ := hin.out.sc.big.view.head
  obtain ⟨y4, q0, g0, z0, z3, z4, h0, h3, h4, nG, nb, l0, lM, tM, rM, rN, dg, db, d2, gn, gB, G2s, Gs, gbs, cl, hown⟩ := in_view hok.out hi.out hin.out hw
  clear kf k0 k1
  have hbm : IntKind.i64.wrap ((bits : Int) - (mar : Int)) = (bits : Int) - (mar : Int) := by rw [IntKind.wrap_i64]; omega
  have hne : ((r.length : Int) + 1 != 0) = true := by rw [bne_iff_ne]; omega
  have hlt' : ¬ cur.l1 < (bits : Int) - (mar : Int) := by omega
  conv => arg 2; whnf
  go_wp2_with fail
  go_quiet (fail)
  go_wp2_with fail
  exact FrIn.mk _ _ _ _ _ _ _ _ _ _ _ _ _ _ _ _ _ _ _ _ _ _ _ _ _ _ _ _ _ _ _ _ _ _ _ _ _ _ _ _ _ _ _ _ _ _ _ _ _ _ _ _ _ _ _ _ _ _ _ _ _ _ _ _ _ _ _ _ _ _ _ _ _ _ _ _ _ _ _ _ _ _ _ _ _ _ _ _ _ _ _ _ _ _ _ _ _ _ _ _ _ _ _ _ _ _ _ _ _ _ _ _ _ _ _ _ _ _ _ _ _ _ _ _ _ _ _ _ _ _ _ _ _ _ _ _ _ _ _ _ _ _ _ _ _ _ _ _ _ _ _ _ _ _ _ _ _ _ _ _ _ _ _ _ _ _ _ _ ⟨S1, S2, e, _, dv, d :: r, cur, rfl, rfl, rfl, hin.out.drewN nq, hS.out, .inr hlt⟩
end Go.Proofs.YtjebgfpcmooniaaGreatDoor
