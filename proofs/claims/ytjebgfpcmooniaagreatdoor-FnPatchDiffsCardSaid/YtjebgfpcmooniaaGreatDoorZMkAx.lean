/- patchMake2: cases of a round. -/
import Derived.Test.YtjebgfpcmooniaaGreatDoorZMkBase
namespace Go.Proofs.YtjebgfpcmooniaaGreatDoor
open Go Go.RowKit

set_option maxRecDepth 100000 in
set_option maxHeartbeats 2000000 in
theorem mk2_EI {φ : UInt8 → Prop} {N mar : Nat} {l : List D} {w wr : World} {gd : Nat} {A : Option Addr} {n c : Nat} {tmo cost dist bits : Int} {th de : Nat} {t : ByteArray} {k c1 c2 : Nat} {T1 T2 : ByteArray} {dv : Value} {cur : P} {L : List (Value × P)} {m : Nat} {u7 u13 u14 u26 u27 u28 u29 u30 u31 u32 u33 u34 u35 u36 u37 u38 u39 u40 u41 u42 u43 u44 u45 u46 u47 u48 u49 u50 u51 u52 u53 u54 u55 u56 u57 u58 u59 u60 u61 u62 u63 u64 u65 u66 u67 u68 u69 u70 u71 u72 u73 u74 u75 u76 u77 u78 u79 u80 u81 u82 u83 u84 u85 u86 u87 u88 u89 u90 u91 u92 u93 u94 u95 u96 u97 u98 u99 u100 u101 u102 u103 u104 u105 u106 u107 u108 u109 u110 u111 u112 u113 u114 u115 u116 u117 u118 u119 u120 u121 u122 u123 u124 u125 u126 u127 u128 u129 u130 u131 u132 u133 u134 u135 u136 u137 u138 u139 u140 u141 u142 u143 u144 u145 u146 u147 u148 u149 u150 u151 u152 u153 u154 u155 u156 u157 u158 u159 u160 u161 u162 u163 u164 u165 u166 u167 u168 u169 u170 u171 u172 u173 u174 u175 u176 u177 u178 u179 u180 : Value} (hok : Hid (MkOk φ N mar l w gd A n tmo cost dist bits th de)) (hpw : PW w wr u7 dv cur L m none) (hinv : Hid (MkInv φ N mar l (srcL l) (k < l.length) k (L.map (·.2)) cur c1 c2 (tb T1) (tb T2))) (hlt : k < n) (tx : ByteArray) (hd : l[k]? = some ⟨1, tx⟩) (hc : cur.ds = []) (J K : Act → World → Prop) (Qp : Ending → World → Prop)
    (hJ : ∀ (x7 x9 x10 x11 x12 x25 x13 x14 x26 x27 x28 x29 x30 x31 x32 x33 x34 x35 x36 x37 x38 x39 x40 x41 x42 x43 x44 x45 x46 x47 x48 x49 x50 x51 x52 x53 x54 x55 x56 x57 x58 x59 x60 x61 x62 x63 x64 x65 x66 x67 x68 x69 x70 x71 x72 x73 x74 x75 x76 x77 x78 x79 x80 x81 x82 x83 x84 x85 x86 x87 x88 x89 x90 x91 x92 x93 x94 x95 x96 x97 x98 x99 x100 x101 x102 x103 x104 x105 x106 x107 x108 x109 x110 x111 x112 x113 x114 x115 x116 x117 x118 x119 x120 x121 x122 x123 x124 x125 x126 x127 x128 x129 x130 x131 x132 x133 x134 x135 x136 x137 x138 x139 x140 x141 x142 x143 x144 x145 x146 x147 x148 x149 x150 x151 x152 x153 x154 x155 x156 x157 x158 x159 x160 x161 x162 x163 x164 x165 x166 x167 x168 x169 x170 x171 x172 x173 x174 x175 x176 x177 x178 x179 x180 : Value) (w' : World), MkS φ N mar l (srcL l) w x7 x9 x10 x11 x12 x25 w' → n - (intOf x25).toNat < n - (intOf (.int .i64 k)).toNat → J { tmps := #[.pointer (some ⟨gd, 0, none⟩), .string t, .slice A n c, undef, undef, undef, .slice none 0 0, x7, .pointer (some ⟨w.heap.size + 1, 0, none⟩), x9, x10, x11, x12, x13, x14, .slice (some ⟨w.heap.size, 0, none⟩) 0 0, .slice A n c, .int .i64 n, .bool false, undef, .agg #[.slice none 0 0, .int .i64 0, .int .i64 0, .int .i64 0, .int .i64 0], .string t, .string t, .slice A n c, .int .i64 n, x25, x26, x27, x28, x29, x30, x31, x32, x33, x34, x35, x36, x37, x38, x39, x40, x41, x42, x43, x44, x45, x46, x47, x48, x49, x50, x51, x52, x53, x54, x55, x56, x57, x58, x59, x60, x61, x62, x63, x64, x65, x66, x67, x68, x69, x70, x71, x72, x73, x74, x75, x76, x77, x78, x79, x80, x81, x82, x83, x84, x85, x86, x87, x88, x89, x90, x91, x92, x93, x94, x95, x96, x97, x98, x99, x100, x101, x102, x103, x104, x105, x106, x107, x108, x109, x110, x111, x112, x113, x114, x115, x116, x117, x118, x119, x120, x121, x122, x123, x124, x125, x126, x127, x128, x129, x130, x131, x132, x133, x134, x135, x136, x137, x138, x139, x140, x141, x142, x143, x144, x145, x146, x147, x148, x149, x150, x151, x152, x153, x154, x155, x156, x157, x158, x159, x160, x161, x162, x163, x164, x165, x166, x167, x168, x169, x170, x171, x172, x173, x174, x175, x176, x177, x178, x179, x180, undef, undef, undef, undef, undef, undef, undef, undef, undef, undef, undef, undef, undef], defers := [] } w') :
    Code.wp Tryz.prog round86 (Exit.then J (Exit.inBlock 0 (Exit.then K (bodyPost Tryz.prog Tryz.f86 Qp)))) { tmps := #[.pointer (some ⟨gd, 0, none⟩), .string t, .slice A n c, undef, undef, undef, .slice none 0 0, u7, .pointer (some ⟨w.heap.size + 1, 0, none⟩), .int .i64 c1, .int .i64 c2, .string T1, .string T2, u13, u14, .slice (some ⟨w.heap.size, 0, none⟩) 0 0, .slice A n c, .int .i64 n, .bool false, undef, .agg #[.slice none 0 0, .int .i64 0, .int .i64 0, .int .i64 0, .int .i64 0], .string t, .string t, .slice A n c, .int .i64 n, .int .i64 k, u26, u27, u28, u29, u30, u31, u32, u33, u34, u35, u36, u37, u38, u39, u40, u41, u42, u43, u44, u45, u46, u47, u48, u49, u50, u51, u52, u53, u54, u55, u56, u57, u58, u59, u60, u61, u62, u63, u64, u65, u66, u67, u68, u69, u70, u71, u72, u73, u74, u75, u76, u77, u78, u79, u80, u81, u82, u83, u84, u85, u86, u87, u88, u89, u90, u91, u92, u93, u94, u95, u96, u97, u98, u99, u100, u101, u102, u103, u104, u105, u106, u107, u108, u109, u110, u111, u112, u113, u114, u115, u116, u117, u118, u119, u120, u121, u122, u123, u124, u125, u126, u127, u128, u129, u130, u131, u132, u133, u134, u135, u136, u137, u138, u139, u140, u141, u142, u143, u144, u145, u146, u147, u148, u149, u150, u151, u152, u153, u154, u155, u156, u157, u158, u159, u160, u161, u162, u163, u164, u165, u166, u167, u168, u169, u170, u171, u172, u173, u174, u175, u176, u177, u178, u179, u180, undef, undef, undef, undef, undef, undef, undef, undef, undef, undef, undef, undef, undef], defers := [] } wr := by
  obtain ⟨hmar0, hmar1, hb0, hb1, hN, hn1, hL0, hr, hgd, hdmp⟩ := hok.out
  have hL := Lib.hid hL0
  clear hL0 hok
  conv => arg 2; whnf
  have hln := hr.1
  obtain ⟨ad, d, rfl, hab, hd', y0, y1⟩ := rd_dP (hr.below hpw.bel) hlt
  rw [hd] at hd'
  injection hd' with hd'
  subst hd'
  obtain ⟨z2, z3, z4, z5, z6, z7, z8, z9, z10, z11⟩ := mk_bounds hL.out hinv.out
  have z1 := mk_c1 hL.out hinv.out (by omega)
  rw [tb_length] at z2 z3 z4 z11
  have hdz := hL.out.sz _ (List.mem_of_getElem? hd)
  have Hd := Lib.hid hd
  have hpe := hpw.enter ⟨1, tx⟩
  simp only at y0 y1 hdz
  clear hd
  have ke : k < l.length := by omega
  have hsz := hpw.sz
  have x0' := fun o => blk_cell (hpw.alloc o).bk 0
  have f1' := fun o => blk_frozen (hpw.alloc o).bk 1
  have f2' := fun o => blk_frozen (hpw.alloc o).bk 2
  have x1' := fun o => blk_cell (hpw.alloc o).bk 1
  have x2' := fun o => blk_cell (hpw.alloc o).bk 2
  simp [pC] at x0' x1' x2'
  have hdv := hpw.nil_ hc
  subst hdv
  have Hc := Lib.hid hc
  clear hc
  go_upto_if 38 with (fail)
  go_cut [] (fun wx => PW w wx u7 (.slice none 0 0) (begun cur 1 c1 c2) L m (some (wr.heap.size, ⟨1, tx⟩)))
  case first =>
    have hf2 := fun o => blk_frozen ((hpw.n1 c1).alloc o).bk 2
    have hx2 := blk_cell hpw.bk 2
    simp [pC] at hx2
    go_wp2_with fail
    go_meet
    rw [begun, if_pos ⟨Hc.out, by omega⟩]
    exact ((hpw.n1 c1).n2 c2).enter' ⟨1, tx⟩ (by simp [World.setCell])
  case rest =>
    obtain ⟨dv, Hdv⟩ : ∃ dv, Hid (dv = Value.slice none 0 0) := ⟨_, rfl⟩
    rw [← Hdv.out] at hcut
    clear x0' x1' x2' f1' f2' hpe hpw hsz y0 y1 hab hr
    have hI := mk_ins (live' := k + 1 < l.length) hinv.out ke Hd.out
    have hds := begun_ds cur 1 c1 c2
    have hl1 := begun_l1 cur 1 c1 c2
    have hl2 := begun_l2 cur 1 c1 c2
    have HI := Lib.hid hI
    clear hI hinv
    generalize begun cur 1 c1 c2 = cb at hcut hds hl1 hl2 HI
    rw [← hds] at z5
    rw [← hl1] at z9
    rw [← hl2] at z10
    clear hds hl1 hl2 z7 z8 z11
    have x0 := blk_cell hcut.bk 0
    have t0 := blk_cell (hcut.ext _ _ rfl).1 0
    have t1 := blk_cell (hcut.ext _ _ rfl).1 1
    simp [pC] at x0 t0 t1
    go_wp2_with (at_builtin; refine Hid.out ?_)
    refine Lib.hid ?_
    have hsz := hcut.size
    refine wpList_push (P := Tryz.prog) st77 rfl (.tmp 48) (.tmp 50) rfl rfl (hcut.own.alloc _) ⟨1, tx⟩ ⟨wc.heap.size, 0, none⟩ 1 (by rfl) dP_len (dP_one _) (by omega) (le_al hsz) (cells2_of (heap_alloc_new _ _)) ?_
    intro g cap w1 hown1 hg1 hat1
    have hg := gb_trans (gb_alloc (gb_refl _ _) _) hg1 (.inl rfl)
    obtain ⟨b1, k1⟩ := hcut.after hg
    have hT := hcut.turn hg hown1 (by simp) (new_at hat1 (by simp))
    have x0 := blk_cell b1 0
    have x4 := blk_cell b1 4
    have f0 := blk_frozen b1 0
    have f4 := blk_frozen b1 4
    have t0 := blk_cell k1 0
    have t1 := blk_cell k1 1
    simp [pC] at x0 x4 t0 t1
    go_wp2_with fail
    have hU := hT.n4 (cb.l2 + (tx.size : Nat))
    clear x0 x4 f0 f4 t0 t1 hT b1 k1 hg hown1 hg1 hat1 hcut
    generalize (w1.setCell ⟨w.heap.size + 1, 0, none⟩ (.slice (some ⟨g, 0, none⟩) (cb.ds.length + 1) cap)).setCell ⟨w.heap.size + 1, 4, none⟩ (.int .i64 (cb.l2 + (tx.size : Nat))) = wu at hU ⊢
    have t1 := blk_cell (hU.ext _ _ rfl).1 1
    simp at t1
    go_quiet (fail)
    have hV := hU.drewN nq
    clear hU t1
    generalize wu.drewN nq = wv at hV ⊢
    have t0 := blk_cell (hV.ext _ _ rfl).1 0
    have t1 := blk_cell (hV.ext _ _ rfl).1 1
    simp at t0 t1
    go_wp2_with fail
    exact hJ _ _ _ _ _ _ _ _ _ _ _ _ _ _ _ _ _ _ _ _ _ _ _ _ _ _ _ _ _ _ _ _ _ _ _ _ _ _ _ _ _ _ _ _ _ _ _ _ _ _ _ _ _ _ _ _ _ _ _ _ _ _ _ _ _ _ _ _ _ _ _ _ _ _ _ _ _ _ _ _ _ _ _ _ _ _ _ _ _ _ _ _ _ _ _ _ _ _ _ _ _ _ _ _ _ _ _ _ _ _ _ _ _ _ _ _ _ _ _ _ _ _ _ _ _ _ _ _ _ _ _ _ _ _ _ _ _ _ _ _ _ _ _ _ _ _ _ _ _ _ _ _ _ _ _ _ _ _ _ _ _ _ _ _ ⟨k + 1, c1, c2 + tx.size, T1, _, _, _, L, m, by go_num, rfl, by simp, rfl, rfl, hV.drop, HI.out⟩ (by simp [intOf]; omega)


set_option maxRecDepth 100000 in
set_option maxHeartbeats 2000000 in
theorem mk2_ED {φ : UInt8 → Prop} {N mar : Nat} {l : List D} {w wr : World} {gd : Nat} {A : Option Addr} {n c : Nat} {tmo cost dist bits : Int} {th de : Nat} {t : ByteArray} {k c1 c2 : Nat} {T1 T2 : ByteArray} {dv : Value} {cur : P} {L : List (Value × P)} {m : Nat} {u7 u13 u14 u26 u27 u28 u29 u30 u31 u32 u33 u34 u35 u36 u37 u38 u39 u40 u41 u42 u43 u44 u45 u46 u47 u48 u49 u50 u51 u52 u53 u54 u55 u56 u57 u58 u59 u60 u61 u62 u63 u64 u65 u66 u67 u68 u69 u70 u71 u72 u73 u74 u75 u76 u77 u78 u79 u80 u81 u82 u83 u84 u85 u86 u87 u88 u89 u90 u91 u92 u93 u94 u95 u96 u97 u98 u99 u100 u101 u102 u103 u104 u105 u106 u107 u108 u109 u110 u111 u112 u113 u114 u115 u116 u117 u118 u119 u120 u121 u122 u123 u124 u125 u126 u127 u128 u129 u130 u131 u132 u133 u134 u135 u136 u137 u138 u139 u140 u141 u142 u143 u144 u145 u146 u147 u148 u149 u150 u151 u152 u153 u154 u155 u156 u157 u158 u159 u160 u161 u162 u163 u164 u165 u166 u167 u168 u169 u170 u171 u172 u173 u174 u175 u176 u177 u178 u179 u180 : Value} (hok : Hid (MkOk φ N mar l w gd A n tmo cost dist bits th de)) (hpw : PW w wr u7 dv cur L m none) (hinv : Hid (MkInv φ N mar l (srcL l) (k < l.length) k (L.map (·.2)) cur c1 c2 (tb T1) (tb T2))) (hlt : k < n) (tx : ByteArray) (hd : l[k]? = some ⟨-1, tx⟩) (hc : cur.ds = []) (J K : Act → World → Prop) (Qp : Ending → World → Prop)
    (hJ : ∀ (x7 x9 x10 x11 x12 x25 x13 x14 x26 x27 x28 x29 x30 x31 x32 x33 x34 x35 x36 x37 x38 x39 x40 x41 x42 x43 x44 x45 x46 x47 x48 x49 x50 x51 x52 x53 x54 x55 x56 x57 x58 x59 x60 x61 x62 x63 x64 x65 x66 x67 x68 x69 x70 x71 x72 x73 x74 x75 x76 x77 x78 x79 x80 x81 x82 x83 x84 x85 x86 x87 x88 x89 x90 x91 x92 x93 x94 x95 x96 x97 x98 x99 x100 x101 x102 x103 x104 x105 x106 x107 x108 x109 x110 x111 x112 x113 x114 x115 x116 x117 x118 x119 x120 x121 x122 x123 x124 x125 x126 x127 x128 x129 x130 x131 x132 x133 x134 x135 x136 x137 x138 x139 x140 x141 x142 x143 x144 x145 x146 x147 x148 x149 x150 x151 x152 x153 x154 x155 x156 x157 x158 x159 x160 x161 x162 x163 x164 x165 x166 x167 x168 x169 x170 x171 x172 x173 x174 x175 x176 x177 x178 x179 x180 : Value) (w' : World), MkS φ N mar l (srcL l) w x7 x9 x10 x11 x12 x25 w' → n - (intOf x25).toNat < n - (intOf (.int .i64 k)).toNat → J { tmps := #[.pointer (some ⟨gd, 0, none⟩), .string t, .slice A n c, undef, undef, undef, .slice none 0 0, x7, .pointer (some ⟨w.heap.size + 1, 0, none⟩), x9, x10, x11, x12, x13, x14, .slice (some ⟨w.heap.size, 0, none⟩) 0 0, .slice A n c, .int .i64 n, .bool false, undef, .agg #[.slice none 0 0, .int .i64 0, .int .i64 0, .int .i64 0, .int .i64 0], .string t, .string t, .slice A n c, .int .i64 n, x25, x26, x27, x28, x29, x30, x31, x32, x33, x34, x35, x36, x37, x38, x39, x40, x41, x42, x43, x44, x45, x46, x47, x48, x49, x50, x51, x52, x53, x54, x55, x56, x57, x58, x59, x60, x61, x62, x63, x64, x65, x66, x67, x68, x69, x70, x71, x72, x73, x74, x75, x76, x77, x78, x79, x80, x81, x82, x83, x84, x85, x86, x87, x88, x89, x90, x91, x92, x93, x94, x95, x96, x97, x98, x99, x100, x101, x102, x103, x104, x105, x106, x107, x108, x109, x110, x111, x112, x113, x114, x115, x116, x117, x118, x119, x120, x121, x122, x123, x124, x125, x126, x127, x128, x129, x130, x131, x132, x133, x134, x135, x136, x137, x138, x139, x140, x141, x142, x143, x144, x145, x146, x147, x148, x149, x150, x151, x152, x153, x154, x155, x156, x157, x158, x159, x160, x161, x162, x163, x164, x165, x166, x167, x168, x169, x170, x171, x172, x173, x174, x175, x176, x177, x178, x179, x180, undef, undef, undef, undef, undef, undef, undef, undef, undef, undef, undef, undef, undef], defers := [] } w') :
    Code.wp Tryz.prog round86 (Exit.then J (Exit.inBlock 0 (Exit.then K (bodyPost Tryz.prog Tryz.f86 Qp)))) { tmps := #[.pointer (some ⟨gd, 0, none⟩), .string t, .slice A n c, undef, undef, undef, .slice none 0 0, u7, .pointer (some ⟨w.heap.size + 1, 0, none⟩), .int .i64 c1, .int .i64 c2, .string T1, .string T2, u13, u14, .slice (some ⟨w.heap.size, 0, none⟩) 0 0, .slice A n c, .int .i64 n, .bool false, undef, .agg #[.slice none 0 0, .int .i64 0, .int .i64 0, .int .i64 0, .int .i64 0], .string t, .string t, .slice A n c, .int .i64 n, .int .i64 k, u26, u27, u28, u29, u30, u31, u32, u33, u34, u35, u36, u37, u38, u39, u40, u41, u42, u43, u44, u45, u46, u47, u48, u49, u50, u51, u52, u53, u54, u55, u56, u57, u58, u59, u60, u61, u62, u63, u64, u65, u66, u67, u68, u69, u70, u71, u72, u73, u74, u75, u76, u77, u78, u79, u80, u81, u82, u83, u84, u85, u86, u87, u88, u89, u90, u91, u92, u93, u94, u95, u96, u97, u98, u99, u100, u101, u102, u103, u104, u105, u106, u107, u108, u109, u110, u111, u112, u113, u114, u115, u116, u117, u118, u119, u120, u121, u122, u123, u124, u125, u126, u127, u128, u129, u130, u131, u132, u133, u134, u135, u136, u137, u138, u139, u140, u141, u142, u143, u144, u145, u146, u147, u148, u149, u150, u151, u152, u153, u154, u155, u156, u157, u158, u159, u160, u161, u162, u163, u164, u165, u166, u167, u168, u169, u170, u171, u172, u173, u174, u175, u176, u177, u178, u179, u180, undef, undef, undef, undef, undef, undef, undef, undef, undef, undef, undef, undef, undef], defers := [] } wr := by
  obtain ⟨hmar0, hmar1, hb0, hb1, hN, hn1, hL0, hr, hgd, hdmp⟩ := hok.out
  have hL := Lib.hid hL0
  clear hL0 hok
  conv => arg 2; whnf
  have hln := hr.1
  obtain ⟨ad, d, rfl, hab, hd', y0, y1⟩ := rd_dP (hr.below hpw.bel) hlt
  rw [hd] at hd'
  injection hd' with hd'
  subst hd'
  obtain ⟨z2, z3, z4, z5, z6, z7, z8, z9, z10, z11⟩ := mk_bounds hL.out hinv.out
  have z1 := mk_c1 hL.out hinv.out (by omega)
  rw [tb_length] at z2 z3 z4 z11
  have hdz := hL.out.sz _ (List.mem_of_getElem? hd)
  have Hd := Lib.hid hd
  have hpe := hpw.enter ⟨-1, tx⟩
  simp only at y0 y1 hdz
  clear hd
  have ke : k < l.length := by omega
  have hsz := hpw.sz
  have x0' := fun o => blk_cell (hpw.alloc o).bk 0
  have f1' := fun o => blk_frozen (hpw.alloc o).bk 1
  have f2' := fun o => blk_frozen (hpw.alloc o).bk 2
  have x1' := fun o => blk_cell (hpw.alloc o).bk 1
  have x2' := fun o => blk_cell (hpw.alloc o).bk 2
  simp [pC] at x0' x1' x2'
  have hdv := hpw.nil_ hc
  subst hdv
  have Hc := Lib.hid hc
  clear hc
  go_upto_if 38 with (fail)
  go_cut [] (fun wx => PW w wx u7 (.slice none 0 0) (begun cur (-1) c1 c2) L m (some (wr.heap.size, ⟨-1, tx⟩)))
  case first =>
    have hf2 := fun o => blk_frozen ((hpw.n1 c1).alloc o).bk 2
    have hx2 := blk_cell hpw.bk 2
    simp [pC] at hx2
    go_wp2_with fail
    go_meet
    rw [begun, if_pos ⟨Hc.out, by omega⟩]
    exact ((hpw.n1 c1).n2 c2).enter' ⟨-1, tx⟩ (by simp [World.setCell])
  case rest =>
    obtain ⟨dv, Hdv⟩ : ∃ dv, Hid (dv = Value.slice none 0 0) := ⟨_, rfl⟩
    rw [← Hdv.out] at hcut
    clear x0' x1' x2' f1' f2' hpe hpw hsz y0 y1 hab hr
    obtain ⟨hI, hcl⟩ := mk_del (live' := k + 1 < l.length) hinv.out ke Hd.out
    have hds := begun_ds cur (-1) c1 c2
    have hl1 := begun_l1 cur (-1) c1 c2
    have hl2 := begun_l2 cur (-1) c1 c2
    have HI := Lib.hid hI
    clear hI hinv
    generalize begun cur (-1) c1 c2 = cb at hcut hds hl1 hl2 HI
    rw [← hds] at z5
    rw [← hl1] at z9
    rw [← hl2] at z10
    clear hds hl1 hl2 z7 z8 z11
    have x0 := blk_cell hcut.bk 0
    have x3 := blk_cell hcut.bk 3
    have f3 := blk_frozen hcut.bk 3
    have t0 := blk_cell (hcut.ext _ _ rfl).1 0
    have t1 := blk_cell (hcut.ext _ _ rfl).1 1
    simp [pC] at x0 x3 t0 t1
    go_wp2_with (at_builtin; refine Hid.out ?_)
    refine Lib.hid ?_
    have hcu := hcut.n3 (cb.l1 + (tx.size : Nat))
    have hsz := hcu.size
    refine wpList_push (P := Tryz.prog) st77 rfl (.tmp 80) (.tmp 82) rfl rfl (hcu.own.alloc _) ⟨-1, tx⟩ ⟨wc.heap.size, 0, none⟩ 1 (by rfl) dP_len (dP_one _) (by show cb.ds.length < _; omega) (le_al hsz) (cells2_of (heap_alloc_at _ _ _ (by simp [World.setCell]))) ?_
    intro g cap w1 hown1 hg1 hat1
    have hg := gb_trans (gb_alloc (gb_refl _ _) _) hg1 (.inl rfl)
    obtain ⟨b1, k1⟩ := hcu.after hg
    have hT := hcu.turn hg hown1 (by simp) (new_at hat1 (by simp))
    have x0 := blk_cell b1 0
    have f0 := blk_frozen b1 0
    have t0 := blk_cell k1 0
    have t1 := blk_cell k1 1
    simp [pC] at x0 t0 t1
    go_wp2_with fail
    clear x0 f0 t0 t1 b1 k1 hg hown1 hg1 hat1 hcut hcu
    generalize w1.setCell ⟨w.heap.size + 1, 0, none⟩ (.slice (some ⟨g, 0, none⟩) (cb.ds.length + 1) cap) = wu at hT ⊢
    have t1 := blk_cell (hT.ext _ _ rfl).1 1
    simp at t1
    go_quiet (fail)
    have hV := hT.drewN nq
    clear hT t1
    generalize wu.drewN nq = wv at hV ⊢
    have t0 := blk_cell (hV.ext _ _ rfl).1 0
    have t1 := blk_cell (hV.ext _ _ rfl).1 1
    simp at t0 t1
    go_wp2_with fail
    exact hJ _ _ _ _ _ _ _ _ _ _ _ _ _ _ _ _ _ _ _ _ _ _ _ _ _ _ _ _ _ _ _ _ _ _ _ _ _ _ _ _ _ _ _ _ _ _ _ _ _ _ _ _ _ _ _ _ _ _ _ _ _ _ _ _ _ _ _ _ _ _ _ _ _ _ _ _ _ _ _ _ _ _ _ _ _ _ _ _ _ _ _ _ _ _ _ _ _ _ _ _ _ _ _ _ _ _ _ _ _ _ _ _ _ _ _ _ _ _ _ _ _ _ _ _ _ _ _ _ _ _ _ _ _ _ _ _ _ _ _ _ _ _ _ _ _ _ _ _ _ _ _ _ _ _ _ _ _ _ _ _ _ _ _ _ ⟨k + 1, c1 + tx.size, c2, T1, _, _, _, L, m, by go_num, by simp, rfl, rfl, rfl, hV.drop, HI.out⟩ (by simp [intOf]; omega)

end Go.Proofs.YtjebgfpcmooniaaGreatDoor
