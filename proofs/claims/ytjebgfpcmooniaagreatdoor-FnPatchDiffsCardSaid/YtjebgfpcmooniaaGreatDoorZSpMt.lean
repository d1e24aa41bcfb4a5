/- PatchSplitMax: behind its inner loop. -/
import Derived.Test.YtjebgfpcmooniaaGreatDoorZSpMd
import Derived.Test.YtjebgfpcmooniaaGreatDoorZCtx
import Derived.Deep.RegionHeld3
import Derived.Deep.RegionLaw
import Derived.Deep.CutRange
namespace Go.Proofs.YtjebgfpcmooniaaGreatDoor
open Go Go.RowKit

set_option maxRecDepth 100000 in
set_option maxHeartbeats 4000000 in
theorem mid_tail {w0 W0 wr : World} {gd : Nat} {tmo cost dist : Int} {th de mar bits W Wd M : Nat} {v dvb0 dvb dv : Value} {G gb G2 m : Nat} {pre post : List (Value × P)} {X prec B T T' : List UInt8} {R R' : List D} {cur : P} {e : Bool} {x S1 S2 : Int} {u2 u3 u4 u10 u13 u14 u15 u16 u17 u18 u19 u20 u21 u22 u23 u24 u25 u26 u27 u28 u29 u30 u31 u32 u33 u34 u35 u36 u37 u38 u39 u40 u41 u42 u43 u44 u45 u46 u47 u48 u49 u50 u51 u52 u53 u54 u55 u56 u57 u58 u59 u60 u61 u62 u63 u64 u65 u66 u67 u68 u69 u70 u71 u72 u73 u74 u75 u76 u77 u78 u79 u80 u81 u82 u83 u84 u85 u86 u87 u88 u89 u90 u91 u92 u93 u94 u95 u96 u97 u98 u99 u100 u101 u102 u103 u104 u105 u106 u107 u108 u109 u110 u111 u112 u113 u114 u115 u116 u117 u118 u119 u120 u121 u122 u123 u124 u125 u126 u127 u128 u129 u130 u131 u132 u133 u134 u135 u136 u137 u138 u139 u140 u141 u142 u143 u144 u145 u146 u147 u148 u149 u150 u151 u152 u153 u154 u155 u156 u157 u158 u159 u160 u161 u162 u163 u164 u165 u166 u167 u168 u169 u170 u171 u172 u173 u174 u175 u176 u177 u178 u179 u180 u181 u182 u183 u184 u185 u186 u187 u188 u189 u190 u191 u192 u193 u194 u195 u196 u197 u198 u199 u200 u201 u202 u203 u204 u205 u206 u207 u208 u209 u210 u211 u212 u213 u214 u215 u216 u217 u218 u219 u220 u221 u222 u223 u224 u225 u226 u227 u228 u229 u230 u231 u232 u233 u234 u235 u236 u237 u238 u239 u240 u241 u242 u243 u244 u245 u246 u247 u248 u249 u250 u251 u252 u253 u254 u255 u256 u257 u258 u259 u260 u261 u262 u263 u264 u265 u266 u267 u268 u269 u270 u271 u272 u273 u274 u275 u276 u277 u278 u279 u280 u281 u282 u283 u284 u285 u286 u287 u288 u289 u290 u291 u292 u293 u294 u295 u296 u297 u298 u299 u300 u301 u302 u303 u304 u305 u306 u307 u308 u309 u310 u311 u312 u313 u314 u315 u316 u317 u318 u319 u320 u321 u322 u323 u324 u325 u326 u327 u328 u329 u330 u331 u332 u333 u334 u335 u336 u337 u338 u339 u340 u341 u342 u343 u344 u345 u346 : Value} (hok : Hid (SpOk w0 gd tmo cost dist th de mar bits W Wd M)) (hm : Hid (MidR w0 W0 mar W Wd M v dvb0 G gb pre post X prec R B T T')) (hin : Hid (InR w0 wr mar v dvb dv G gb G2 m (pre ++ post) X prec R R' cur e)) (hS : Hid (S2 = X.length + (tgtL cur.ds).length)) (hx : Hid (x + 1 = pre.length)) (hv : Hid (∃ g, v.ownBlock = some g)) (htk : Hid (wtD R' < wtD R)) (J : Act → World → Prop) (Q : Exit → Act → World → Prop)
    (hJ : ∀ a w', (FrMd gd bits G u2 u3 u4 u16 u17 u18 u19 u20 u21 u22 u23 u24 u25 u26 u27 u28 u29 u30 u31 u32 u33 u34 u35 u36 u37 u38 u39 u40 u41 u42 u43 u44 u45 u46 u47 u48 u49 u50 u346 (MdS w0 mar W Wd M G gb post B T T' (wtD R))) a w' → J a w') :
    Code.wp Tryz.prog tail4 (Exit.inBlock 3 (Exit.then J Q)) { tmps := #[.pointer (some ⟨gd, 0, none⟩), v, u2, u3, u4, .int .i64 bits, .int .i64 x, .pointer (some ⟨G, 0, none⟩), .int .i64 S1, .int .i64 S2, u10, .pointer (some ⟨G2, 0, none⟩), .bool e, u13, u14, u15, u16, u17, u18, u19, u20, u21, u22, u23, u24, u25, u26, u27, u28, u29, u30, u31, u32, u33, u34, u35, u36, u37, u38, u39, u40, u41, u42, u43, u44, u45, u46, u47, u48, u49, u50, u51, u52, u53, u54, u55, u56, u57, u58, u59, u60, u61, u62, u63, u64, u65, u66, u67, u68, u69, u70, u71, u72, u73, u74, u75, u76, u77, u78, u79, u80, u81, u82, u83, u84, u85, u86, u87, u88, u89, u90, u91, u92, u93, u94, u95, u96, u97, u98, u99, u100, u101, u102, u103, u104, u105, u106, u107, u108, u109, u110, u111, u112, u113, u114, u115, u116, u117, u118, u119, u120, u121, u122, u123, u124, u125, u126, u127, u128, u129, u130, u131, u132, u133, u134, u135, u136, u137, u138, u139, u140, u141, u142, u143, u144, u145, u146, u147, u148, u149, u150, u151, u152, u153, u154, u155, u156, u157, u158, u159, u160, u161, u162, u163, u164, u165, u166, u167, u168, u169, u170, u171, u172, u173, u174, u175, u176, u177, u178, u179, u180, u181, u182, u183, u184, u185, u186, u187, u188, u189, u190, u191, u192, u193, u194, u195, u196, u197, u198, u199, u200, u201, u202, u203, u204, u205, u206, u207, u208, u209, u210, u211, u212, u213, u214, u215, u216, u217, u218, u219, u220, u221, u222, u223, u224, u225, u226, u227, u228, u229, u230, u231, u232, u233, u234, u235, u236, u237, u238, u239, u240, u241, u242, u243, u244, u245, u246, u247, u248, u249, u250, u251, u252, u253, u254, u255, u256, u257, u258, u259, u260, u261, u262, u263, u264, u265, u266, u267, u268, u269, u270, u271, u272, u273, u274, u275, u276, u277, u278, u279, u280, u281, u282, u283, u284, u285, u286, u287, u288, u289, u290, u291, u292, u293, u294, u295, u296, u297, u298, u299, u300, u301, u302, u303, u304, u305, u306, u307, u308, u309, u310, u311, u312, u313, u314, u315, u316, u317, u318, u319, u320, u321, u322, u323, u324, u325, u326, u327, u328, u329, u330, u331, u332, u333, u334, u335, u336, u337, u338, u339, u340, u341, u342, u343, u344, u345, u346], defers := [] } wr := by
  obtain ⟨a1, a2, b1, b2, hM9⟩ : 1 ≤ mar ∧ mar ≤ 8 ∧ 32 ≤ bits ∧ bits ≤ 62 ∧ M ≤ 900000 := ⟨hok.out.mar1, hok.out.mar8, hok.out.bits1, hok.out.bits2, hok.out.M9⟩
  refine wp_qp3 ?_
  conv => arg 2; whnf
  obtain ⟨y4, q0, g0, z0, z3, z4, h0, h3, h4, nG, nb, l0, lM, tM, rM, rN, dg, db, d2, gn, gB, G2s, Gs, gbs, cl, hown⟩ := in_view hok.out hm.out.inv hin.out hm.out.wd
  obtain ⟨sm1, sm2, sm3, sm4⟩ := hin.out.small hm.out.inv
  obtain ⟨Av, cv, rfl, hrv⟩ := hown.rd dP_len
  obtain ⟨Ab, cb, rfl, hrb⟩ := hin.out.sc.big.view.rd
  have hwd := hm.out.wd
  have h9 := hok.out.Wd9
  have hRl : R'.length ≤ 200001 := by
    have := hin.out.lt
    have : R'.length ≤ wtD R' := by unfold wtD; omega
    omega
  obtain ⟨tz, htz⟩ : ∃ y : ByteArray, y = ⟨(tgtL cur.ds).toArray⟩ := ⟨_, rfl⟩
  obtain ⟨sz, hsz⟩ : ∃ y : ByteArray, y = ⟨(srcL R').toArray⟩ := ⟨_, rfl⟩
  have htb : tb tz = tgtL cur.ds := by rw [htz]
  have hsb : tb sz = srcL R' := by rw [hsz]
  have htz9 : tz.size ≤ M := by rw [← tb_length, htb]; omega
  have hsz9 : sz.size ≤ M := by rw [← tb_length, hsb]; omega
  have HT2 : Hid (∀ wX : World, Below wr.heap.size wr wX → Calls Tryz.prog 68 #[.pointer (some ⟨gd, 0, none⟩), .slice Av cur.ds.length cv] wX (fun e w' => e = .returned (.string tz) ∧ Below wX.heap.size wX w')) := fun wX hX => by
    refine (text2_any _ _ _ _ cur.ds _ ((hrv.below hX).more hX.size) (by omega) (Lib.hid fun d hd => by have := sm3 d hd; omega)).mono ?_
    rintro e w' ⟨rfl, h⟩
    exact ⟨by rw [htz], h⟩
  have HT1 : Hid (∀ wX : World, Below wr.heap.size wr wX → Calls Tryz.prog 82 #[.pointer (some ⟨gd, 0, none⟩), .slice Ab R'.length cb] wX (fun e w' => e = .returned (.string sz) ∧ Below wX.heap.size wX w')) := fun wX hX => by
    refine (text1_any _ _ _ _ R' _ ((hrb.below hX).more hX.size) (by omega) (Lib.hid fun d hd => by have := (sm4 d hd).1; omega)).mono ?_
    rintro e w' ⟨rfl, h⟩
    exact ⟨by rw [hsz], h⟩
  obtain ⟨z, hz⟩ : ∃ y : ByteArray, y = sz.extract 0 (min mar sz.size) := ⟨_, rfl⟩
  have hzb : Hid (tb z = (srcL R').take mar) := by
    show _ = _
    rw [hz, tb_extract, List.drop_zero, hsb]
    by_cases hc : mar ≤ sz.size
    · rw [Nat.min_eq_left hc]
    · rw [Nat.min_eq_right (by omega), List.take_of_length_le (by rw [← hsb, tb_length]; exact Nat.le_refl _), List.take_of_length_le (by rw [← hsb, tb_length]; omega)]
  have hz8 : z.size ≤ 8 := by rw [← tb_length, hzb.out, List.length_take]; omega
  obtain ⟨p, hp⟩ : ∃ y : ByteArray, tz.extract (tz.size - mar) tz.size = y := ⟨_, rfl⟩
  have hpb : Hid (tgtL cur.ds = (tgtL cur.ds).take (tz.size - mar) ++ tb p) := by
    show _ = _
    rw [← hp, tb_extract, htb, show (tgtL cur.ds).take tz.size = tgtL cur.ds from List.take_of_length_le (by rw [← htb, tb_length]; exact Nat.le_refl _), List.take_append_drop]
  have hp8 : p.size ≤ mar := by rw [← hp, ← tb_length, tb_extract, List.length_drop, List.length_take, tb_length]; omega
  have Hsz := Lib.hid hsb
  have Htz := Lib.hid htb
  clear hrv hrb htz hsz hsb htb sm3 sm4 hown
  go_wp2_with (go_at_call 68; refine Hid.out ?_)
  refine Lib.hid ?_
  refine (HT2.out _ (Below.refl _ _)).mono ?_
  rintro e' wA ⟨rfl, hbA⟩
  have hin := Lib.hid (hin.out.on hbA)
  clear HT2 y4 q0 g0 z0 z3 z4 h0 h3 h4 gB G2s Gs gbs
  obtain ⟨q0, g0, z0, z3, z4, h0, h3, h4, gB, G2s, Gs, gbs, -⟩ := hin.out.sc.see
  have y4 := blk_cell (hok.out.dmp.below hin.out.sc.fw.bel hok.out.gd) 4
  simp at y4
  have gds : gd < w0.heap.size := hok.out.gd
  have gds2 : gd < wA.heap.size := by omega
  have htl : tz.size - mar ≤ tz.size := Nat.sub_le _ _
  go_wp2_with (go_at_call 135; refine (max0_sub tz.size mar _).mono ?_; rintro e'' w' ⟨rfl, rfl⟩)
  have hbAd : Below wr.heap.size wr wA.drew := hbA.drew
  have Gsd : G < wA.drew.heap.size := Gs
  have gdd : gd < wA.drew.heap.size := gds2
  go_region_held3 (fun w' => w'.cell? ⟨G, 0, none⟩ = some (.slice Ab R'.length cb) ∧ w'.cell? ⟨gd, 4, none⟩ = some (.int .i64 mar))
    (first | go_keep | (go_split_ands; exact ⟨(hbB.cell Gsd).trans (by assumption), (hbB.cell gdd).trans (by assumption)⟩))
    (first | (go_at_call 82; refine (HT1.out _ hbAd).mono ?_; rintro e3 wB ⟨rfl, hbB⟩))
  have hbB2 := hbAd.trans (hbB.mono hbAd.size)
  have hin := Lib.hid ((hin.out.on (Below.refl _ _).drew).on hbB)
  clear y4 q0 g0 z0 z3 z4 h0 h3 h4 gB G2s Gs gbs hbAd Gsd gdd hbB gds2
  obtain ⟨q0, g0, z0, z3, z4, h0, h3, h4, gB, G2s, Gs, gbs, -⟩ := hin.out.sc.see
  have y4 := blk_cell (hok.out.dmp.below hin.out.sc.fw.bel hok.out.gd) 4
  simp at y4
  have gds2 : gd < wB.heap.size := by omega
  go_upto_if 267 with fail
  go_cut [15] from 258 to 280 (fun v15 wx => v15 = .string z ∧ Below wB.heap.size wB wx)
  case first =>
    by_cases hc : mar < sz.size
    · have hc' : (mar : Int) < (sz.size : Int) := by omega
      have hze : sz.extract 0 mar = z := by rw [hz, Nat.min_eq_left (by omega)]
      have hml : mar ≤ sz.size := by omega
      have hm0 : (0 : Int) ≤ (mar : Int) := by omega
      clear hz
      go_wp2_with fail
      have hbBd : Below wr.heap.size wr wB.drew := hbB2.drew
      have Gsd : G < wB.drew.heap.size := Gs
      have gdd : gd < wB.drew.heap.size := gds2
      go_region_held3 (fun w' => w'.cell? ⟨G, 0, none⟩ = some (.slice Ab R'.length cb) ∧ w'.cell? ⟨gd, 4, none⟩ = some (.int .i64 mar))
        (first | go_keep | (go_split_ands; exact ⟨(hbC.cell Gsd).trans (by assumption), (hbC.cell gdd).trans (by assumption)⟩))
        (first | (go_at_call 82; refine (HT1.out _ hbBd).mono ?_; rintro e3 wC ⟨rfl, hbC⟩))
      go_wp2_with fail
      go_meet
      exact ⟨rfl, (Below.refl _ _).drew.trans hbC⟩
    · have hc' : ¬ (mar : Int) < (sz.size : Int) := by omega
      have hze : z = sz := by
        apply tb_inj
        rw [hz, Nat.min_eq_right (by omega), tb_extract, List.drop_zero, List.take_of_length_le (by rw [tb_length]; exact Nat.le_refl _)]
      have Hze := Lib.hid hze
      clear hze hz
      go_wp2_with (go_at_call 82; refine Hid.out ?_)
      refine Lib.hid ?_
      refine (HT1.out _ hbB2).mono ?_
      rintro e3 wC ⟨rfl, hbC⟩
      go_wp2_with fail
      go_meet
      exact ⟨by rw [Hze.out], hbC⟩
  case rest =>
    obtain ⟨rfl, hbC⟩ := hcut
    have hin := Lib.hid (hin.out.on hbC)
    clear y4 q0 g0 z0 z3 z4 h0 h3 h4 gB G2s Gs gbs gds2 hbB2 HT1 hbC hz hbA
    obtain ⟨q0, g0, z0, z3, z4, h0, h3, h4, gB, G2s, Gs, gbs, hown⟩ := hin.out.sc.see
    go_upto_if 283 with fail
    go_cut [] from 281 to 330 (fun wx => ∃ (dv2 : Value) (q : P), Hid (SC w0 G gb wx v (.slice Ab R'.length cb) R' (pre ++ post) G2 dv2 q m) ∧ Hid (Took cur.ds X z q))
    case first =>
      have hop : ∀ d ∈ cur.ds, -1 ≤ d.op ∧ d.op ≤ 1 := fun d hd => hin.out.cu.op d (by simp [hd])
      have Hop := Lib.hid hop
      clear hop
      by_cases hz0 : z.size = 0
      · have hz0' : ((z.size : Int) != 0) = false := by rw [hz0]; rfl
        have Hz0 := Lib.hid hz0
        clear hz0
        go_wp2_with fail
        go_meet
        exact ⟨_, cur, hin.out.sc, took_nil Hz0.out Hop.out hin.out.s2 hin.out.l1⟩
      · have hz0' : ((z.size : Int) != 0) = true := by rw [bne_iff_ne]; omega
        have hsc0 := (hin.out.sc.num (cur.l1 + z.size)).2.2.1
        have hsc1 := Lib.hid (hsc0.num (wrap64 (cur.l2 + z.size))).2.2.2
        clear hsc0
        by_cases hC : cur.ds = []
        · have hn0 : ((cur.ds.length : Int) != 0) = false := by rw [hC]; rfl
          clear hC
          have hcl : cur.ds.length < 100000000 := by omega
          go_wp2_with (at_builtin; refine Hid.out ?_)
          refine Lib.hid ?_
          refine wpList_push (P := Tryz.prog) (v := .slice Av cur.ds.length cv) st77 rfl (.tmp 326) (.tmp 329) rfl rfl (hsc1.out.fw.own.alloc _) ⟨0, z⟩ ⟨wc.heap.size, 0, none⟩ 1 (by rfl) dP_len (dP_one _) hcl (le_al (by simpa [World.setCell] using gB)) (cells2_of (heap_alloc_at _ _ _ (by simp [World.setCell]))) ?_
          intro g cap w1 hown1 hg1 hat1
          have hgB := gb_trans (gb_alloc (gb_refl ((wc.setCell ⟨G2, 3, none⟩ (.int .i64 (cur.l1 + z.size))).setCell ⟨G2, 4, none⟩ (.int .i64 (wrap64 (cur.l2 + z.size)))) _) _) hg1 (.inl rfl)
          obtain ⟨e1, e2⟩ := hsc1.out.grows hgB
          have hsc2 := Lib.hid (hsc1.out.turn hgB hown1 (hat_or hat1 (le_al (Nat.le_refl _))))
          clear hat1 hg1 hown1 hgB q0 g0 z0 z3 z4 h0 h3 h4 gB G2s Gs gbs hown hsc1
          go_wp2_with fail
          go_meet
          exact ⟨_, _, hsc2, took_new Hop.out hin.out.s2 hin.out.l1 rfl rfl rfl⟩
        · obtain ⟨r0, d0, hCe⟩ : ∃ r0 d0, cur.ds = r0 ++ [d0] := ⟨_, _, (List.dropLast_concat_getLast hC).symm⟩
          have hln : cur.ds.length = r0.length + 1 := by rw [hCe]; simp
          obtain ⟨gt, ct, hdv, -, -⟩ := hown.shape (by omega)
          injection hdv with hdv1 hdv2 hdv3
          subst hdv1 hdv3
          have hown2 := hown
          rw [hCe] at hown2
          obtain ⟨k0, k1, kf⟩ := ownd_last hown2
          have kf1 := kf (r0.length * 2 + 1)
          have hgt : gt ≠ G2 := fun e => own_block_ty hin.out.sc.fw.own hin.out.sc.fw.bk (by omega) (by rw [← e]; rfl)
          have hgt2 : G2 ≠ gt := fun e => hgt e.symm
          have hn0 : ((cur.ds.length : Int) != 0) = true := by rw [bne_iff_ne]; omega
          have hlen : (cur.ds.length : Int) - 1 = (r0.length : Int) := by omega
          have hlt0 : r0.length < cur.ds.length := by omega
          have hd8 : d0.t.size ≤ M := by
            have := (hin.out.small hm.out.inv).2.2.1 d0 (by rw [hCe]; simp)
            omega
          have HCe := Lib.hid hCe
          clear hCe hC hown2 kf hln hdv2
          by_cases h00 : d0.op = 0
          · rw [h00] at k0
            have hsc2 := Lib.hid (hsc1.out.text (k := r0.length) (d := d0) rfl (by show cur.ds[r0.length]? = _; rw [HCe.out, List.getElem?_append_right (Nat.le_refl _), Nat.sub_self]; rfl) (d0.t ++ z))
            have H00 := Lib.hid h00
            clear h00 hsc1
            go_wp2_with fail
            go_meet
            exact ⟨_, _, hsc2, took_last Hop.out hin.out.s2 hin.out.l1 HCe.out H00.out (x := d0.t ++ z) (by rw [tb_append]) (by show cur.ds.set _ _ = _; rw [HCe.out, set_end, H00.out]) rfl rfl⟩
          · have hb0 : (d0.op == 0) = false := by rw [beq_eq_false_iff_ne]; exact h00
            clear h00
            have hcl : cur.ds.length < 100000000 := by omega
            go_wp2_with (at_builtin; refine Hid.out ?_)
            refine Lib.hid ?_
            refine wpList_push (P := Tryz.prog) (v := .slice (some ⟨gt, 0, none⟩) cur.ds.length cv) st77 rfl (.tmp 326) (.tmp 329) rfl rfl (hsc1.out.fw.own.alloc _) ⟨0, z⟩ ⟨wc.heap.size, 0, none⟩ 1 (by rfl) dP_len (dP_one _) hcl (le_al (by simpa [World.setCell] using gB)) (cells2_of (heap_alloc_at _ _ _ (by simp [World.setCell]))) ?_
            intro g cap w1 hown1 hg1 hat1
            have hgB := gb_trans (gb_alloc (gb_refl ((wc.setCell ⟨G2, 3, none⟩ (.int .i64 (cur.l1 + z.size))).setCell ⟨G2, 4, none⟩ (.int .i64 (wrap64 (cur.l2 + z.size)))) _) _) hg1 (.inl rfl)
            obtain ⟨e1, e2⟩ := hsc1.out.grows hgB
            have hsc2 := Lib.hid (hsc1.out.turn hgB hown1 (hat_or hat1 (le_al (Nat.le_refl _))))
            clear hat1 hg1 hown1 hgB q0 g0 z0 z3 z4 h0 h3 h4 gB G2s Gs gbs hown hsc1
            go_wp2_with fail
            go_meet
            exact ⟨_, _, hsc2, took_new Hop.out hin.out.s2 hin.out.l1 rfl rfl rfl⟩
    case rest =>
      obtain ⟨dv2, q, hsc, hT⟩ := hcut
      have hY : Hid (tgtL cur.ds = (tgtL cur.ds).take (tz.size - mar) ++ tb p) := hpb
      have hS' : Hid (S2 = (X ++ (tgtL cur.ds).take (tz.size - mar)).length + p.size) := by
        show _ = _
        have := congrArg List.length hY.out
        rw [List.length_append, tb_length] at this
        rw [hS.out, List.length_append]
        omega
      have hp9 : (tb p).length ≤ mar := by rw [tb_length]; exact hp8
      clear hpb
      cases e with
      | true =>
        go_wp2_with fail
        exact FrMd.mk _ _ _ _ _ _ _ _ _ _ _ _ _ _ _ _ _ _ _ _ _ _ _ _ _ _ _ _ _ _ _ _ _ _ _ _ _ _ _ _ _ _ _ _ _ _ _ _ _ _ _ _ _ _ _ _ _ _ _ _ _ _ _ _ _ _ _ _ _ _ _ _ _ _ _ _ _ _ _ _ _ _ _ _ _ _ _ _ _ _ _ _ _ _ _ _ _ _ _ _ _ _ _ _ _ _ _ _ _ _ _ _ _ _ _ _ _ _ _ _ _ _ _ _ _ _ _ _ _ _ _ _ _ _ _ _ _ _ _ _ _ _ _ _ _ _ _ _ _ _ _ _ _ _ _ _ _ _ _ _ _ _ _ _ _ _ _ _ _ _ _ _ _ _ _ _ _ _ _ _ _ _ _ _ _ _ _ _ _ _ _ _ _ _ _ _ _ _ _ _ _ _ _ _ _ _ _ _ _ _ _ _ _ _ _ _ _ _ _ _ _ _ _ _ _ _ _ _ _ _ _ _ _ _ _ _ _ _ _ _ _ _ _ _ _ _ _ _ _ _ _ _ _ _ _ _ _ _ _ _ _ _ _ _ _ _ _ _ _ _ _ _ _ _ _ _ _ _ _ _ _ _ _ _ _ _ _ _ _ _ _ _ _ _ _ _ _ _ _ _ _ _ _ _ _ _ ⟨x, S1, S2, p, _, pre, _, R', rfl, rfl, rfl, rfl, hx, hS', hv, hm.out.drop hin.out.cu (hin.out.em rfl) hY.out hp9 htk.out hsc.out.rw hsc.out.fw.bel hsc.out.big, htk.out⟩
      | false =>
        have hx1 : x + 1 = (pre.length : Int) := hx.out
        have hpl : (pre.length : Int) ≤ 10000000 := by have := hm.out.wt; have := hok.out.W9; omega
        have hpol : post.length ≤ 10000000 := by
          have h1 := hm.out.wt
          have h2 := hok.out.W9
          have h3 := wtP_len (post.map (·.2))
          rw [List.length_map] at h3
          omega
        obtain ⟨gv, hgv⟩ := hv.out
        obtain ⟨cvv, hvf, hcn⟩ := own_form hsc.out.fw.pat hgv
        rw [List.length_append] at hvf hcn
        subst hvf
        obtain ⟨A2, c2, rfl, -⟩ := hsc.out.fw.own.rd dP_len
        have zz0 := blk_cell hsc.out.fw.bk 0
        have zz1 := blk_cell hsc.out.fw.bk 1
        have zz2 := blk_cell hsc.out.fw.bk 2
        have zz3 := blk_cell hsc.out.fw.bk 3
        have zz4 := blk_cell hsc.out.fw.bk 4
        simp [pC] at zz0 zz1 zz2 zz3 zz4
        have hWs : w0.heap.size ≤ wc.heap.size := hsc.out.fw.bel.size
        have hlit : Hid (OwnL pvP 114 5 ((wc.alloc (.cells #[Value.slice A2 q.ds.length c2, .int .i64 q.s1, .int .i64 q.s2, .int .i64 q.l1, .int .i64 q.l2] 114)).drew) w0.heap.size (.slice (some ⟨wc.heap.size, 0, none⟩) 1 1) [(Value.slice A2 q.ds.length c2, q)]) :=
          (OwnL.lit1 (f := pvP) (sz := 5) (x := (Value.slice A2 q.ds.length c2, q)) (heap_alloc_new _ _) hWs rfl rfl).drew
        have hpat := Lib.hid (hsc.out.fw.pat.alloc (.cells #[Value.slice A2 q.ds.length c2, .int .i64 q.s1, .int .i64 q.s2, .int .i64 q.l1, .int .i64 q.l2] 114)).drew
        have hpost : Hid (∀ j u, (post.flatMap pvP)[j]? = some u → ((wc.alloc (.cells #[Value.slice A2 q.ds.length c2, .int .i64 q.s1, .int .i64 q.s2, .int .i64 q.l1, .int .i64 q.l2] 114)).drew).cell? ((⟨gv, pre.length * 5, none⟩ : Addr).add j) = some u) := fun j u hu => by
          have := own_post hpat.out j u hu
          rwa [addr_add] at this
        have hone : Hid (∀ u ∈ ((Value.slice A2 q.ds.length c2, q) :: (pre ++ post)).flatMap pvP, u.oneCell' = true) := rows_one (w := wc) (B := w0.heap.size) fun y hy => by
          rcases List.mem_cons.1 hy with rfl | hy
          · exact hsc.out.fw.own
          · exact (hsc.out.fw.each y hy).1
        have hone1 : Hid (∀ u ∈ post.flatMap pvP, u.oneCell' = true) := fun u hu => hone.out u (by simp only [List.flatMap_cons, List.flatMap_append, List.mem_append]; exact .inr (.inr hu))
        have hone2 : Hid (∀ u ∈ ([(Value.slice A2 q.ds.length c2, q)] ++ post).flatMap pvP, u.oneCell' = true) := fun u hu => hone.out u (by
          simp only [List.flatMap_cons, List.flatMap_append, List.mem_append, List.flatMap_nil, List.append_nil] at hu ⊢
          rcases hu with hu | hu
          · exact .inl hu
          · exact .inr (.inr hu))
        have hpos4 : 0 < ([(Value.slice A2 q.ds.length c2, q)] ++ post).length := by simp
        have hb1 : [(Value.slice A2 q.ds.length c2, q)].length + post.length < 1000000000 := by simp; omega
        have hb2 : pre.length + ([(Value.slice A2 q.ds.length c2, q)] ++ post).length < 1000000000 := by simp; omega
        have hWd : w0.heap.size ≤ ((wc.alloc (.cells #[Value.slice A2 q.ds.length c2, .int .i64 q.s1, .int .i64 q.s2, .int .i64 q.l1, .int .i64 q.l2] 114)).drew).heap.size := le_al hWs
        have Hpre : Hid (∀ w4, ((wc.alloc (.cells #[Value.slice A2 q.ds.length c2, .int .i64 q.s1, .int .i64 q.s2, .int .i64 q.l1, .int .i64 q.l2] 114)).drew).grownBy w4 (Value.slice (some ⟨wc.heap.size, 0, none⟩) 1 1).ownBlock → OwnL pvP 114 5 w4 w0.heap.size (.slice (some ⟨gv, 0, none⟩) pre.length cvv) pre ∧ w0.heap.size ≤ w4.heap.size) := fun w4 hg => by
          have hne : gv ≠ wc.heap.size := by have := (hsc.out.fw.pat.lt gv rfl).2; omega
          have k := (hpat.out.kept hg (.inr (by simpa [Value.ownBlock] using hne))).pre pvP_len (x := pre.length) (by simp) (by simp)
          rw [List.take_left'  rfl] at k
          exact ⟨k, Nat.le_trans hWd hg.size⟩
        have hgvs := (hsc.out.fw.pat.lt gv rfl).2
        have hle1 : pre.length ≤ cvv := by omega
        have hle2 : pre.length ≤ pre.length + post.length := Nat.le_add_right _ _
        have hle4 : (pre.length : Int) ≤ (pre.length : Int) + (post.length : Int) := by omega
        have hle3 : pre.length + post.length - pre.length = post.length := by omega
        by_cases hcx : cvv = pre.length
        · obtain rfl : post = [] := List.length_eq_zero_iff.1 (by omega)
          subst hcx
          have hpost : Hid (∀ j u, (([] : List (Value × P)).flatMap pvP)[j]? = some u → ((wc.alloc (.cells #[Value.slice A2 q.ds.length c2, .int .i64 q.s1, .int .i64 q.s2, .int .i64 q.l1, .int .i64 q.l2] 114)).drew).cell? ((⟨gv, 0, none⟩ : Addr).add j) = some u) := fun j u hu => by simp at hu
          clear hle3 hle4
          go_wp2_with fail
          go_region_law (first | (refine step_appendL (v := .slice (some ⟨wc.heap.size, 0, none⟩) 1 1) st73 (by rfl) _ _ (by rfl) (by rfl) hlit.out [] ⟨gv, 0, none⟩ 0 0 (by rfl) rfl hpost.out hone1.out pvP_len hb1 hWd ?_; intro v4 w4 hown4 hg4 hb4; obtain ⟨g4, c4, hv4, -, -⟩ := hown4.shape hpos4; subst hv4; obtain ⟨hp4, hs4⟩ := Hpre.out w4 hg4; generalize hm4 : ([(Value.slice A2 q.ds.length c2, q)] ++ []).length = m4 at hown4 ⊢) | (refine step_appendL (v := .slice (some ⟨gv, 0, none⟩) pre.length pre.length) st73 (by rfl) _ _ (by rfl) (by rfl) hp4 ([(Value.slice A2 q.ds.length c2, q)] ++ []) ⟨g4, 0, none⟩ m4 c4 (by rfl) hm4.symm hown4.at_cells hone2.out pvP_len hb2 hs4 ?_; intro v5 w5 hown5 hg5 hb5))
          have hgW := gb_trans (gb_trans (gb_drew (gb_alloc (gb_refl wc (some gv)) _)) hg4 (.inr fun y e => by
            have : wc.heap.size = y := by simpa [Value.ownBlock] using e
            omega)) hg5 (.inl rfl)
          have hs4' : wc.heap.size ≤ w4.heap.size := Nat.le_trans (le_al (Nat.le_refl _)) hg4.size
          have hbv : v5.ownBlock = some gv ∨ ∀ y, v5.ownBlock = some y → wc.heap.size ≤ y := by
            rcases hb5 with h | h
            · exact .inl h
            · refine .inr fun y e => ?_
              rw [h] at e
              injection e with e
              omega
          obtain ⟨r1, r2, r3⟩ := hsc.out.ins (v' := v5) hgW hown5 hbv
          have hv5 : Hid (∃ g, v5.ownBlock = some g) := by
            obtain ⟨g5, c5, h5, -, -⟩ := hown5.shape (by rw [List.length_append, List.length_append, List.length_singleton]; omega)
            exact ⟨g5, by rw [h5]; rfl⟩
          have HM := Lib.hid (hm.out.emit hin.out.cu hzb.out hY.out hp9 hT.out.src hT.out.tgt hT.out.op hT.out.s2 hT.out.l1 hT.out.len hin.out.wt htk.out r1 r2 r3)
          have hx2 : Hid ((pre.length : Int) + 1 = (pre ++ [(Value.slice A2 q.ds.length c2, q)]).length) := by
            show _ = _
            rw [List.length_append, List.length_singleton]; omega
          clear r1 r2 r3 hbv hgW hown5 hg5 hb5 hown4 hg4 hb4 hp4 hs4 hs4' hlit hpat hpost hone hone1 hone2 Hpre zz0 zz1 zz2 zz3 zz4
          go_wp2_with fail
          exact FrMd.mk _ _ _ _ _ _ _ _ _ _ _ _ _ _ _ _ _ _ _ _ _ _ _ _ _ _ _ _ _ _ _ _ _ _ _ _ _ _ _ _ _ _ _ _ _ _ _ _ _ _ _ _ _ _ _ _ _ _ _ _ _ _ _ _ _ _ _ _ _ _ _ _ _ _ _ _ _ _ _ _ _ _ _ _ _ _ _ _ _ _ _ _ _ _ _ _ _ _ _ _ _ _ _ _ _ _ _ _ _ _ _ _ _ _ _ _ _ _ _ _ _ _ _ _ _ _ _ _ _ _ _ _ _ _ _ _ _ _ _ _ _ _ _ _ _ _ _ _ _ _ _ _ _ _ _ _ _ _ _ _ _ _ _ _ _ _ _ _ _ _ _ _ _ _ _ _ _ _ _ _ _ _ _ _ _ _ _ _ _ _ _ _ _ _ _ _ _ _ _ _ _ _ _ _ _ _ _ _ _ _ _ _ _ _ _ _ _ _ _ _ _ _ _ _ _ _ _ _ _ _ _ _ _ _ _ _ _ _ _ _ _ _ _ _ _ _ _ _ _ _ _ _ _ _ _ _ _ _ _ _ _ _ _ _ _ _ _ _ _ _ _ _ _ _ _ _ _ _ _ _ _ _ _ _ _ _ _ _ _ _ _ _ _ _ _ _ _ _ _ _ _ _ _ _ _ _ ⟨(pre.length : Int), S1, S2, p, _, pre ++ [(Value.slice A2 q.ds.length c2, q)], _, R', rfl, rfl, rfl, rfl, hx2, hS', hv5, HM, htk.out⟩
        · go_wp2_with fail
          go_region_law (first | (refine step_appendL (v := .slice (some ⟨wc.heap.size, 0, none⟩) 1 1) st73 (by rfl) _ _ (by rfl) (by rfl) hlit.out post ⟨gv, pre.length * 5, none⟩ post.length (cvv - pre.length) (by rfl) rfl hpost.out hone1.out pvP_len hb1 hWd ?_; intro v4 w4 hown4 hg4 hb4; obtain ⟨g4, c4, hv4, -, -⟩ := hown4.shape hpos4; subst hv4; obtain ⟨hp4, hs4⟩ := Hpre.out w4 hg4; generalize hm4 : ([(Value.slice A2 q.ds.length c2, q)] ++ post).length = m4 at hown4 ⊢) | (refine step_appendL (v := .slice (some ⟨gv, 0, none⟩) pre.length cvv) st73 (by rfl) _ _ (by rfl) (by rfl) hp4 ([(Value.slice A2 q.ds.length c2, q)] ++ post) ⟨g4, 0, none⟩ m4 c4 (by rfl) hm4.symm hown4.at_cells hone2.out pvP_len hb2 hs4 ?_; intro v5 w5 hown5 hg5 hb5))
          have hgW := gb_trans (gb_trans (gb_drew (gb_alloc (gb_refl wc (some gv)) _)) hg4 (.inr fun y e => by
            have : wc.heap.size = y := by simpa [Value.ownBlock] using e
            omega)) hg5 (.inl rfl)
          have hs4' : wc.heap.size ≤ w4.heap.size := Nat.le_trans (le_al (Nat.le_refl _)) hg4.size
          have hbv : v5.ownBlock = some gv ∨ ∀ y, v5.ownBlock = some y → wc.heap.size ≤ y := by
            rcases hb5 with h | h
            · exact .inl h
            · refine .inr fun y e => ?_
              rw [h] at e
              injection e with e
              omega
          obtain ⟨r1, r2, r3⟩ := hsc.out.ins (v' := v5) hgW hown5 hbv
          have hv5 : Hid (∃ g, v5.ownBlock = some g) := by
            obtain ⟨g5, c5, h5, -, -⟩ := hown5.shape (by rw [List.length_append, List.length_append, List.length_singleton]; omega)
            exact ⟨g5, by rw [h5]; rfl⟩
          have HM := Lib.hid (hm.out.emit hin.out.cu hzb.out hY.out hp9 hT.out.src hT.out.tgt hT.out.op hT.out.s2 hT.out.l1 hT.out.len hin.out.wt htk.out r1 r2 r3)
          have hx2 : Hid ((pre.length : Int) + 1 = (pre ++ [(Value.slice A2 q.ds.length c2, q)]).length) := by
            show _ = _
            rw [List.length_append, List.length_singleton]; omega
          clear r1 r2 r3 hbv hgW hown5 hg5 hb5 hown4 hg4 hb4 hp4 hs4 hs4' hlit hpat hpost hone hone1 hone2 Hpre zz0 zz1 zz2 zz3 zz4
          go_wp2_with fail
          exact FrMd.mk _ _ _ _ _ _ _ _ _ _ _ _ _ _ _ _ _ _ _ _ _ _ _ _ _ _ _ _ _ _ _ _ _ _ _ _ _ _ _ _ _ _ _ _ _ _ _ _ _ _ _ _ _ _ _ _ _ _ _ _ _ _ _ _ _ _ _ _ _ _ _ _ _ _ _ _ _ _ _ _ _ _ _ _ _ _ _ _ _ _ _ _ _ _ _ _ _ _ _ _ _ _ _ _ _ _ _ _ _ _ _ _ _ _ _ _ _ _ _ _ _ _ _ _ _ _ _ _ _ _ _ _ _ _ _ _ _ _ _ _ _ _ _ _ _ _ _ _ _ _ _ _ _ _ _ _ _ _ _ _ _ _ _ _ _ _ _ _ _ _ _ _ _ _ _ _ _ _ _ _ _ _ _ _ _ _ _ _ _ _ _ _ _ _ _ _ _ _ _ _ _ _ _ _ _ _ _ _ _ _ _ _ _ _ _ _ _ _ _ _ _ _ _ _ _ _ _ _ _ _ _ _ _ _ _ _ _ _ _ _ _ _ _ _ _ _ _ _ _ _ _ _ _ _ _ _ _ _ _ _ _ _ _ _ _ _ _ _ _ _ _ _ _ _ _ _ _ _ _ _ _ _ _ _ _ _ _ _ _ _ _ _ _ _ _ _ _ _ _ _ _ _ _ _ _ _ ⟨(pre.length : Int), S1, S2, p, _, pre ++ [(Value.slice A2 q.ds.length c2, q)], _, R', rfl, rfl, rfl, rfl, hx2, hS', hv5, HM, htk.out⟩
end Go.Proofs.YtjebgfpcmooniaaGreatDoor
