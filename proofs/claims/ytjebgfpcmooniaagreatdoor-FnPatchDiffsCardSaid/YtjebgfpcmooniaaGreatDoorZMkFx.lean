/- patchMake2: cases of a round. -/
import Derived.Test.YtjebgfpcmooniaaGreatDoorZMkBase
namespace Go.Proofs.YtjebgfpcmooniaaGreatDoor
open Go Go.RowKit

set_option maxRecDepth 100000 in
set_option maxHeartbeats 2000000 in
theorem mk2_F11 {φ : UInt8 → Prop} {N mar : Nat} {l : List D} {w wr : World} {gd : Nat} {A : Option Addr} {n c : Nat} {tmo cost dist bits : Int} {th de : Nat} {t : ByteArray} {k c1 c2 : Nat} {T1 T2 : ByteArray} {dv : Value} {cur : P} {L : List (Value × P)} {m : Nat} {u7 u13 u14 u26 u27 u28 u29 u30 u31 u32 u33 u34 u35 u36 u37 u38 u39 u40 u41 u42 u43 u44 u45 u46 u47 u48 u49 u50 u51 u52 u53 u54 u55 u56 u57 u58 u59 u60 u61 u62 u63 u64 u65 u66 u67 u68 u69 u70 u71 u72 u73 u74 u75 u76 u77 u78 u79 u80 u81 u82 u83 u84 u85 u86 u87 u88 u89 u90 u91 u92 u93 u94 u95 u96 u97 u98 u99 u100 u101 u102 u103 u104 u105 u106 u107 u108 u109 u110 u111 u112 u113 u114 u115 u116 u117 u118 u119 u120 u121 u122 u123 u124 u125 u126 u127 u128 u129 u130 u131 u132 u133 u134 u135 u136 u137 u138 u139 u140 u141 u142 u143 u144 u145 u146 u147 u148 u149 u150 u151 u152 u153 u154 u155 u156 u157 u158 u159 u160 u161 u162 u163 u164 u165 u166 u167 u168 u169 u170 u171 u172 u173 u174 u175 u176 u177 u178 u179 u180 : Value} (hok : Hid (MkOk φ N mar l w gd A n tmo cost dist bits th de)) (hpw : PW w wr u7 dv cur L m none) (hinv : Hid (MkInv φ N mar l (srcL l) (k < l.length) k (L.map (·.2)) cur c1 c2 (tb T1) (tb T2))) (hlt : k < n) (tx : ByteArray) (hd : l[k]? = some ⟨0, tx⟩) (hc : cur.ds ≠ []) (h3 : tx.size = 2 * mar) (hk : ¬ k + 1 = n) (J K : Act → World → Prop) (Qp : Ending → World → Prop)
    (hJ : ∀ (x7 x9 x10 x11 x12 x25 x13 x14 x26 x27 x28 x29 x30 x31 x32 x33 x34 x35 x36 x37 x38 x39 x40 x41 x42 x43 x44 x45 x46 x47 x48 x49 x50 x51 x52 x53 x54 x55 x56 x57 x58 x59 x60 x61 x62 x63 x64 x65 x66 x67 x68 x69 x70 x71 x72 x73 x74 x75 x76 x77 x78 x79 x80 x81 x82 x83 x84 x85 x86 x87 x88 x89 x90 x91 x92 x93 x94 x95 x96 x97 x98 x99 x100 x101 x102 x103 x104 x105 x106 x107 x108 x109 x110 x111 x112 x113 x114 x115 x116 x117 x118 x119 x120 x121 x122 x123 x124 x125 x126 x127 x128 x129 x130 x131 x132 x133 x134 x135 x136 x137 x138 x139 x140 x141 x142 x143 x144 x145 x146 x147 x148 x149 x150 x151 x152 x153 x154 x155 x156 x157 x158 x159 x160 x161 x162 x163 x164 x165 x166 x167 x168 x169 x170 x171 x172 x173 x174 x175 x176 x177 x178 x179 x180 : Value) (w' : World), MkS φ N mar l (srcL l) w x7 x9 x10 x11 x12 x25 w' → n - (intOf x25).toNat < n - (intOf (.int .i64 k)).toNat → J { tmps := #[.pointer (some ⟨gd, 0, none⟩), .string t, .slice A n c, undef, undef, undef, .slice none 0 0, x7, .pointer (some ⟨w.heap.size + 1, 0, none⟩), x9, x10, x11, x12, x13, x14, .slice (some ⟨w.heap.size, 0, none⟩) 0 0, .slice A n c, .int .i64 n, .bool false, undef, .agg #[.slice none 0 0, .int .i64 0, .int .i64 0, .int .i64 0, .int .i64 0], .string t, .string t, .slice A n c, .int .i64 n, x25, x26, x27, x28, x29, x30, x31, x32, x33, x34, x35, x36, x37, x38, x39, x40, x41, x42, x43, x44, x45, x46, x47, x48, x49, x50, x51, x52, x53, x54, x55, x56, x57, x58, x59, x60, x61, x62, x63, x64, x65, x66, x67, x68, x69, x70, x71, x72, x73, x74, x75, x76, x77, x78, x79, x80, x81, x82, x83, x84, x85, x86, x87, x88, x89, x90, x91, x92, x93, x94, x95, x96, x97, x98, x99, x100, x101, x102, x103, x104, x105, x106, x107, x108, x109, x110, x111, x112, x113, x114, x115, x116, x117, x118, x119, x120, x121, x122, x123, x124, x125, x126, x127, x128, x129, x130, x131, x132, x133, x134, x135, x136, x137, x138, x139, x140, x141, x142, x143, x144, x145, x146, x147, x148, x149, x150, x151, x152, x153, x154, x155, x156, x157, x158, x159, x160, x161, x162, x163, x164, x165, x166, x167, x168, x169, x170, x171, x172, x173, x174, x175, x176, x177, x178, x179, x180, undef, undef, undef, undef, undef, undef, undef, undef, undef, undef, undef, undef, undef], defers := [] } w') :
    Code.wp Tryz.prog round86 (Exit.then J (Exit.inBlock 0 (Exit.then K (bodyPost Tryz.prog Tryz.f86 Qp)))) { tmps := #[.pointer (some ⟨gd, 0, none⟩), .string t, .slice A n c, undef, undef, undef, .slice none 0 0, u7, .pointer (some ⟨w.heap.size + 1, 0, none⟩), .int .i64 c1, .int .i64 c2, .string T1, .string T2, u13, u14, .slice (some ⟨w.heap.size, 0, none⟩) 0 0, .slice A n c, .int .i64 n, .bool false, undef, .agg #[.slice none 0 0, .int .i64 0, .int .i64 0, .int .i64 0, .int .i64 0], .string t, .string t, .slice A n c, .int .i64 n, .int .i64 k, u26, u27, u28, u29, u30, u31, u32, u33, u34, u35, u36, u37, u38, u39, u40, u41, u42, u43, u44, u45, u46, u47, u48, u49, u50, u51, u52, u53, u54, u55, u56, u57, u58, u59, u60, u61, u62, u63, u64, u65, u66, u67, u68, u69, u70, u71, u72, u73, u74, u75, u76, u77, u78, u79, u80, u81, u82, u83, u84, u85, u86, u87, u88, u89, u90, u91, u92, u93, u94, u95, u96, u97, u98, u99, u100, u101, u102, u103, u104, u105, u106, u107, u108, u109, u110, u111, u112, u113, u114, u115, u116, u117, u118, u119, u120, u121, u122, u123, u124, u125, u126, u127, u128, u129, u130, u131, u132, u133, u134, u135, u136, u137, u138, u139, u140, u141, u142, u143, u144, u145, u146, u147, u148, u149, u150, u151, u152, u153, u154, u155, u156, u157, u158, u159, u160, u161, u162, u163, u164, u165, u166, u167, u168, u169, u170, u171, u172, u173, u174, u175, u176, u177, u178, u179, u180, undef, undef, undef, undef, undef, undef, undef, undef, undef, undef, undef, undef, undef], defers := [] } wr := by
  obtain ⟨hmar0, hmar1, hb0, hb1, hN, hn1, hL0, hr, hgd, hdmp⟩ := hok.out
  have hL := Lib.hid hL0
  clear hL0 hok
  conv => arg 2; whnf
  have hln := hr.1
  obtain ⟨ad, d, rfl, hab, hd', y0, y1⟩ := rd_dP (hr.below hpw.bel) hlt
  rw [hd] at hd'
  injection hd' with hd'
  subst hd'
  obtain ⟨z2, z3, z4, z5, z6, z7, z8, z9, z10, z11⟩ := mk_bounds hL.out hinv.out
  have z1 := mk_c1 hL.out hinv.out (by omega)
  rw [tb_length] at z2 z3 z4 z11
  have hdz := hL.out.sz _ (List.mem_of_getElem? hd)
  have Hd := Lib.hid hd
  have hpe := hpw.enter ⟨0, tx⟩
  simp only at y0 y1 hdz
  clear hd
  have ke : k < l.length := by omega
  have hsz := hpw.sz
  have x0' := fun o => blk_cell (hpw.alloc o).bk 0
  have f1' := fun o => blk_frozen (hpw.alloc o).bk 1
  have f2' := fun o => blk_frozen (hpw.alloc o).bk 2
  have x1' := fun o => blk_cell (hpw.alloc o).bk 1
  have x2' := fun o => blk_cell (hpw.alloc o).bk 2
  simp [pC] at x0' x1' x2'
  have hcn := List.length_pos_iff.2 hc
  obtain ⟨g0, c0, hdv, _, _⟩ := hpw.own.shape hcn
  have eL : ((cur.ds.length : Int) == 0) = false := by rw [beq_eq_false_iff_ne]; omega
  have eM : ((cur.ds.length : Int) != 0) = true := by rw [bne_iff_ne]; omega
  have Hs := Lib.hid h3
  have dA : decide ((tx.size : Int) ≤ 2 * (mar : Int)) = true := by simp; omega
  have dB : decide ((tx.size : Int) ≥ 2 * (mar : Int)) = true := by simp; omega
  have pA : ((tx.size : Int) ≤ 2 * (mar : Int)) = True := by simp; omega
  have pB : ((tx.size : Int) ≥ 2 * (mar : Int)) = True := by simp; omega
  clear h3
  have dK : ((k : Int) != (n : Int) - 1) = true := by rw [bne_iff_ne]; omega
  subst hdv
  go_upto_if 38 with (fail)
  go_cut [] (fun wx => PW w wx u7 (.slice (some ⟨g0, 0, none⟩) cur.ds.length c0) cur L m (some (wr.heap.size, ⟨0, tx⟩)))
  case first =>
    go_wp2_with fail
    go_meet
    exact hpe
  case rest =>
    clear x0' x1' x2' f1' f2' hpe hpw hsz y0 y1 hab hr
    have m4 := blk_cell (hdmp.below hcut.bel hgd) 4
    have t0 := blk_cell (hcut.ext _ _ rfl).1 0
    have t1 := blk_cell (hcut.ext _ _ rfl).1 1
    have x0 := blk_cell hcut.bk 0
    simp [pC] at m4 t0 t1 x0
    go_wp2_with fail
    go_quiet (fail)
    have hV := hcut.drewN nq
    clear m4 t0 t1 x0 hcut
    generalize wc.drewN nq = wv at hV ⊢
    have hI := mk_app (live' := False) hinv.out ke Hd.out rfl hc
    have HI := Lib.hid hI
    clear hI
    have x0 := blk_cell hV.bk 0
    have t0 := blk_cell (hV.ext _ _ rfl).1 0
    have t1 := blk_cell (hV.ext _ _ rfl).1 1
    simp [pC] at x0 t0 t1
    go_wp2_with (at_builtin; refine Hid.out ?_)
    refine Lib.hid ?_
    have hsz := hV.size
    refine wpList_push (P := Tryz.prog) st77 rfl (.tmp 121) (.tmp 123) rfl rfl (hV.own.alloc _) ⟨0, tx⟩ ⟨wv.heap.size, 0, none⟩ 1 (by rfl) dP_len (dP_one _) (by omega) (le_al hsz) (cells2_of (heap_alloc_new _ _)) ?_
    intro g cap w1 hown1 hg1 hat1
    have hg := gb_trans (gb_alloc (gb_refl _ _) _) hg1 (.inl rfl)
    obtain ⟨b1, k1⟩ := hV.after hg
    have hT := hV.turn hg hown1 (by simp) (new_at hat1 (by simp))
    have x0 := blk_cell b1 0
    have x3 := blk_cell b1 3
    have x4 := blk_cell b1 4
    have f0 := blk_frozen b1 0
    have f3 := blk_frozen b1 3
    have f4 := blk_frozen b1 4
    have t0 := blk_cell k1 0
    have t1 := blk_cell k1 1
    simp [pC] at x0 x3 x4 t0 t1
    generalize hn0e : cur.ds.length + 1 = n0 at hT ⊢
    have m4 := blk_cell (hdmp.below hT.bel hgd) 4
    simp at m4
    go_wp2_with fail
    have hU : PW w _ _ _ (app cur ⟨0, tx⟩) _ _ _ := (hT.n3 (cur.l1 + (tx.size : Nat))).n4 (cur.l2 + (tx.size : Nat))
    clear x0 x3 x4 f0 f3 f4 t0 t1 hT b1 k1 hg hown1 hg1 hat1 hV m4
    generalize ((w1.setCell ⟨w.heap.size + 1, 0, none⟩ (.slice (some ⟨g, 0, none⟩) n0 cap)).setCell ⟨w.heap.size + 1, 3, none⟩ (.int .i64 (cur.l1 + (tx.size : Nat)))).setCell ⟨w.heap.size + 1, 4, none⟩ (.int .i64 (cur.l2 + (tx.size : Nat))) = wu at hU ⊢
    have m4 := blk_cell (hdmp.below hU.bel hgd) 4
    have t1 := blk_cell (hU.ext _ _ rfl).1 1
    simp at m4 t1
    go_wp2_with fail
    go_quiet (fail)
    have hX := hU.drewN nq
    clear m4 t1 hU
    generalize wu.drewN nq = wx at hX ⊢
    have hcn : (app cur ⟨0, tx⟩).ds ≠ [] := by simp [app]
    have hn0 : 0 < n0 := by omega
    generalize hcue : app cur ⟨0, tx⟩ = cu at hX HI hcn
    clear hcue
    have eN : ((n0 : Int) != 0) = true := by rw [bne_iff_ne]; omega
    obtain ⟨q1, q2, q3, q4, q5, q6, q7, q8, q9, q10⟩ := mk_bounds hL.out HI.out
    have q11 : n0 ≤ 100000 := by have := hX.own.len; omega
    rw [tb_length] at q3 q10
    obtain ⟨ds0, s1, s2, l1, l2⟩ := cu
    simp only at q4 q6 q7 q8 q9 q10 hcn hn0
    obtain ⟨s2, rfl⟩ : ∃ s2' : Nat, s2 = s2' := ⟨s2.toNat, by omega⟩
    obtain ⟨l1, rfl⟩ : ∃ l1' : Nat, l1 = l1' := ⟨l1.toNat, by omega⟩
    have x0 := blk_cell hX.bk 0
    have x1 := blk_cell hX.bk 1
    have x2 := blk_cell hX.bk 2
    have x3 := blk_cell hX.bk 3
    have x4 := blk_cell hX.bk 4
    have fx0 := blk_frozen hX.bk 0
    have fx1 := blk_frozen hX.bk 1
    have fx2 := blk_frozen hX.bk 2
    have fx3 := blk_frozen hX.bk 3
    have fx4 := blk_frozen hX.bk 4
    simp [pC] at x0 x1 x2 x3 x4
    go_wp2_with (go_at_call 128; refine Hid.out ?_)
    refine Lib.hid ?_
    refine (ctx_all wx gd g n0 cap ds0 s1 l2 s2 l1 T1 tmo cost dist bits mar th de hmar0 hmar1 hb0 hb1 (by omega) (by omega) (by omega) (by omega) (by omega) (by omega) hn0 q11 (hdmp.below hX.bel hgd) (hX.own.base_le (Nat.zero_le _))).mono ?_
    rintro e w1 ⟨g1, n1, c1', q, pre, suf, rfl, hco, hcg, hcb, hq, hpre, hsuf⟩
    have hZ := hX.ctx hcb (cur' := ctxP ⟨ds0, s1, s2, l1, l2⟩ pre suf) hco (ctx_ne hcn) hcg
    have hI2 := fun live' => mk_close (live' := live') hL.out HI.out hcn hmar0 hq rfl rfl hpre hsuf
    have HI2 := Lib.hid hI2
    have b1 := gb_heap hcb (i := w.heap.size + 1) hX.sz (fun e => own_block_ty hX.own hX.bk (by omega) e.symm) hX.bk
    clear x0 fx0 x1 fx1 x2 fx2 x3 fx3 x4 fx4
    clear hI2 hco hcg hcb hpre hsuf HI
    have x0 := blk_cell b1 0
    have x1 := blk_cell b1 1
    have x2 := blk_cell b1 2
    have x3 := blk_cell b1 3
    have x4 := blk_cell b1 4
    have fx0 := blk_frozen b1 0
    have fx1 := blk_frozen b1 1
    have fx2 := blk_frozen b1 2
    have fx3 := blk_frozen b1 3
    have fx4 := blk_frozen b1 4
    simp [pC] at x0 x1 x2 x3 x4
    go_wp2_with (at_builtin; refine Hid.out ?_)
    refine Lib.hid ?_
    have hY := hZ.alloc (.cells (pC (.slice (some ⟨g1, 0, none⟩) n1 c1') (ctxP ⟨ds0, s1, s2, l1, l2⟩ pre suf)) 114)
    refine wpList_push (P := Tryz.prog) st73 rfl (.tmp 157) (.tmp 159) rfl rfl hY.pat (.slice (some ⟨g1, 0, none⟩) n1 c1', ctxP ⟨ds0, s1, s2, l1, l2⟩ pre suf) ⟨w1.heap.size, 0, none⟩ 1 (by rfl) pvP_len (pvP_one _ _ _ _) (by rw [List.length_map] at q5; omega) hY.size (cells5_of (heap_alloc_at _ _ _ (by simp [World.setCell]))) ?_
    intro g3 c3 w3 hown3 hg3 hat3
    have hW := hY.close hg3 hown3 (new_at hat3 (Nat.le_refl _))
    have b3 := gb_heap hg3 (i := w.heap.size + 1) hY.sz (fun e => hY.pne e.symm) hY.bk
    have k3 := gb_heap hg3 (Array.getElem?_eq_some_iff.1 (hY.ext _ _ rfl).1).1 (fun e => own_block_ty hY.pat (hY.ext _ _ rfl).1 (by omega) e.symm) (hY.ext _ _ rfl).1
    clear hY hZ b1 hown3 hg3 hat3
    clear x0 fx0 x1 fx1 x2 fx2 x3 fx3 x4 fx4
    have x0 := blk_cell b3 0
    have x1 := blk_cell b3 1
    have x2 := blk_cell b3 2
    have x3 := blk_cell b3 3
    have x4 := blk_cell b3 4
    have fx0 := blk_frozen b3 0
    have fx1 := blk_frozen b3 1
    have fx2 := blk_frozen b3 2
    have fx3 := blk_frozen b3 3
    have fx4 := blk_frozen b3 4
    simp [pC] at x0 x1 x2 x3 x4
    have hkb : wr.heap.size ≠ w.heap.size + 1 := by have := (hX.ext _ _ rfl).2.2; omega
    have s0 : ∀ (x : World) (i : Nat) (v : Value), (x.setCell ⟨w.heap.size + 1, i, none⟩ v).cell? ⟨wr.heap.size, 0, none⟩ = x.cell? ⟨wr.heap.size, 0, none⟩ := fun x i v => cell_far x hkb
    have s1 : ∀ (x : World) (i : Nat) (v : Value), (x.setCell ⟨w.heap.size + 1, i, none⟩ v).cell? ⟨wr.heap.size, 1, none⟩ = x.cell? ⟨wr.heap.size, 1, none⟩ := fun x i v => cell_far x hkb
    have t0 := blk_cell k3 0
    have t1 := blk_cell k3 1
    simp at t0 t1
    clear k3 b3 hX
    go_wp2_with fail
    exact hJ _ _ _ _ _ _ _ _ _ _ _ _ _ _ _ _ _ _ _ _ _ _ _ _ _ _ _ _ _ _ _ _ _ _ _ _ _ _ _ _ _ _ _ _ _ _ _ _ _ _ _ _ _ _ _ _ _ _ _ _ _ _ _ _ _ _ _ _ _ _ _ _ _ _ _ _ _ _ _ _ _ _ _ _ _ _ _ _ _ _ _ _ _ _ _ _ _ _ _ _ _ _ _ _ _ _ _ _ _ _ _ _ _ _ _ _ _ _ _ _ _ _ _ _ _ _ _ _ _ _ _ _ _ _ _ _ _ _ _ _ _ _ _ _ _ _ _ _ _ _ _ _ _ _ _ _ _ _ _ _ _ _ _ _ ⟨k + 1, c2 + tx.size, c2 + tx.size, T2, T2, _, noP, _, _, by go_num, by simp, by simp, rfl, rfl, hW.drop, by show MkInv _ _ _ _ _ _ _ _ _ _ _ _ _; rw [List.map_append]; exact HI2.out _⟩ (by simp [intOf]; omega)

end Go.Proofs.YtjebgfpcmooniaaGreatDoor
