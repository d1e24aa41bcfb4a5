/- patchMake2: the whole walk. -/
import Derived.Test.YtjebgfpcmooniaaGreatDoorZMkAx
import Derived.Test.YtjebgfpcmooniaaGreatDoorZMkBx
import Derived.Test.YtjebgfpcmooniaaGreatDoorZMkCx
import Derived.Test.YtjebgfpcmooniaaGreatDoorZMkDx
import Derived.Test.YtjebgfpcmooniaaGreatDoorZMkEx
import Derived.Test.YtjebgfpcmooniaaGreatDoorZMkFx
namespace Go.Proofs.YtjebgfpcmooniaaGreatDoor
open Go Go.RowKit

theorem mk2_round {φ : UInt8 → Prop} {N mar : Nat} {l : List D} {w wr : World} {gd : Nat} {A : Option Addr} {n c : Nat} {tmo cost dist bits : Int} {th de : Nat} {t : ByteArray} {k c1 c2 : Nat} {T1 T2 : ByteArray} {dv : Value} {cur : P} {L : List (Value × P)} {m : Nat} {u7 u13 u14 u26 u27 u28 u29 u30 u31 u32 u33 u34 u35 u36 u37 u38 u39 u40 u41 u42 u43 u44 u45 u46 u47 u48 u49 u50 u51 u52 u53 u54 u55 u56 u57 u58 u59 u60 u61 u62 u63 u64 u65 u66 u67 u68 u69 u70 u71 u72 u73 u74 u75 u76 u77 u78 u79 u80 u81 u82 u83 u84 u85 u86 u87 u88 u89 u90 u91 u92 u93 u94 u95 u96 u97 u98 u99 u100 u101 u102 u103 u104 u105 u106 u107 u108 u109 u110 u111 u112 u113 u114 u115 u116 u117 u118 u119 u120 u121 u122 u123 u124 u125 u126 u127 u128 u129 u130 u131 u132 u133 u134 u135 u136 u137 u138 u139 u140 u141 u142 u143 u144 u145 u146 u147 u148 u149 u150 u151 u152 u153 u154 u155 u156 u157 u158 u159 u160 u161 u162 u163 u164 u165 u166 u167 u168 u169 u170 u171 u172 u173 u174 u175 u176 u177 u178 u179 u180 : Value} (hok : Hid (MkOk φ N mar l w gd A n tmo cost dist bits th de)) (hpw : PW w wr u7 dv cur L m none) (hinv : Hid (MkInv φ N mar l (srcL l) (k < l.length) k (L.map (·.2)) cur c1 c2 (tb T1) (tb T2))) (hlt : k < n) (J K : Act → World → Prop) (Qp : Ending → World → Prop)
    (hJ : ∀ (x7 x9 x10 x11 x12 x25 x13 x14 x26 x27 x28 x29 x30 x31 x32 x33 x34 x35 x36 x37 x38 x39 x40 x41 x42 x43 x44 x45 x46 x47 x48 x49 x50 x51 x52 x53 x54 x55 x56 x57 x58 x59 x60 x61 x62 x63 x64 x65 x66 x67 x68 x69 x70 x71 x72 x73 x74 x75 x76 x77 x78 x79 x80 x81 x82 x83 x84 x85 x86 x87 x88 x89 x90 x91 x92 x93 x94 x95 x96 x97 x98 x99 x100 x101 x102 x103 x104 x105 x106 x107 x108 x109 x110 x111 x112 x113 x114 x115 x116 x117 x118 x119 x120 x121 x122 x123 x124 x125 x126 x127 x128 x129 x130 x131 x132 x133 x134 x135 x136 x137 x138 x139 x140 x141 x142 x143 x144 x145 x146 x147 x148 x149 x150 x151 x152 x153 x154 x155 x156 x157 x158 x159 x160 x161 x162 x163 x164 x165 x166 x167 x168 x169 x170 x171 x172 x173 x174 x175 x176 x177 x178 x179 x180 : Value) (w' : World), MkS φ N mar l (srcL l) w x7 x9 x10 x11 x12 x25 w' → n - (intOf x25).toNat < n - (intOf (.int .i64 k)).toNat → J { tmps := #[.pointer (some ⟨gd, 0, none⟩), .string t, .slice A n c, undef, undef, undef, .slice none 0 0, x7, .pointer (some ⟨w.heap.size + 1, 0, none⟩), x9, x10, x11, x12, x13, x14, .slice (some ⟨w.heap.size, 0, none⟩) 0 0, .slice A n c, .int .i64 n, .bool false, undef, .agg #[.slice none 0 0, .int .i64 0, .int .i64 0, .int .i64 0, .int .i64 0], .string t, .string t, .slice A n c, .int .i64 n, x25, x26, x27, x28, x29, x30, x31, x32, x33, x34, x35, x36, x37, x38, x39, x40, x41, x42, x43, x44, x45, x46, x47, x48, x49, x50, x51, x52, x53, x54, x55, x56, x57, x58, x59, x60, x61, x62, x63, x64, x65, x66, x67, x68, x69, x70, x71, x72, x73, x74, x75, x76, x77, x78, x79, x80, x81, x82, x83, x84, x85, x86, x87, x88, x89, x90, x91, x92, x93, x94, x95, x96, x97, x98, x99, x100, x101, x102, x103, x104, x105, x106, x107, x108, x109, x110, x111, x112, x113, x114, x115, x116, x117, x118, x119, x120, x121, x122, x123, x124, x125, x126, x127, x128, x129, x130, x131, x132, x133, x134, x135, x136, x137, x138, x139, x140, x141, x142, x143, x144, x145, x146, x147, x148, x149, x150, x151, x152, x153, x154, x155, x156, x157, x158, x159, x160, x161, x162, x163, x164, x165, x166, x167, x168, x169, x170, x171, x172, x173, x174, x175, x176, x177, x178, x179, x180, undef, undef, undef, undef, undef, undef, undef, undef, undef, undef, undef, undef, undef], defers := [] } w') :
    Code.wp Tryz.prog round86 (Exit.then J (Exit.inBlock 0 (Exit.then K (bodyPost Tryz.prog Tryz.f86 Qp)))) { tmps := #[.pointer (some ⟨gd, 0, none⟩), .string t, .slice A n c, undef, undef, undef, .slice none 0 0, u7, .pointer (some ⟨w.heap.size + 1, 0, none⟩), .int .i64 c1, .int .i64 c2, .string T1, .string T2, u13, u14, .slice (some ⟨w.heap.size, 0, none⟩) 0 0, .slice A n c, .int .i64 n, .bool false, undef, .agg #[.slice none 0 0, .int .i64 0, .int .i64 0, .int .i64 0, .int .i64 0], .string t, .string t, .slice A n c, .int .i64 n, .int .i64 k, u26, u27, u28, u29, u30, u31, u32, u33, u34, u35, u36, u37, u38, u39, u40, u41, u42, u43, u44, u45, u46, u47, u48, u49, u50, u51, u52, u53, u54, u55, u56, u57, u58, u59, u60, u61, u62, u63, u64, u65, u66, u67, u68, u69, u70, u71, u72, u73, u74, u75, u76, u77, u78, u79, u80, u81, u82, u83, u84, u85, u86, u87, u88, u89, u90, u91, u92, u93, u94, u95, u96, u97, u98, u99, u100, u101, u102, u103, u104, u105, u106, u107, u108, u109, u110, u111, u112, u113, u114, u115, u116, u117, u118, u119, u120, u121, u122, u123, u124, u125, u126, u127, u128, u129, u130, u131, u132, u133, u134, u135, u136, u137, u138, u139, u140, u141, u142, u143, u144, u145, u146, u147, u148, u149, u150, u151, u152, u153, u154, u155, u156, u157, u158, u159, u160, u161, u162, u163, u164, u165, u166, u167, u168, u169, u170, u171, u172, u173, u174, u175, u176, u177, u178, u179, u180, undef, undef, undef, undef, undef, undef, undef, undef, undef, undef, undef, undef, undef], defers := [] } wr := by
  have hln := hok.out.hr.1
  obtain ⟨⟨op, tx⟩, hd⟩ : ∃ d, l[k]? = some d := ⟨_, List.getElem?_eq_getElem (by omega)⟩
  have hdo := hok.out.hL.op _ (List.mem_of_getElem? hd)
  simp only at hdo
  have hcase : op = 1 ∨ op = -1 ∨ op = 0 := by omega
  by_cases hc : cur.ds = []
  · rcases hcase with rfl | rfl | rfl
    · exact mk2_EI hok hpw hinv hlt tx hd hc J K Qp hJ
    · exact mk2_ED hok hpw hinv hlt tx hd hc J K Qp hJ
    · rcases Nat.lt_trichotomy tx.size (2 * mar) with h3 | h3 | h3
      · exact mk2_Q0 hok hpw hinv hlt tx hd hc h3 J K Qp hJ
      · exact mk2_Q1 hok hpw hinv hlt tx hd hc h3 J K Qp hJ
      · exact mk2_Q2 hok hpw hinv hlt tx hd hc h3 J K Qp hJ
  · rcases hcase with rfl | rfl | rfl
    · exact mk2_NI hok hpw hinv hlt tx hd hc J K Qp hJ
    · exact mk2_ND hok hpw hinv hlt tx hd hc J K Qp hJ
    · rcases Nat.lt_trichotomy tx.size (2 * mar) with h3 | h3 | h3
      · by_cases hk : k + 1 = n
        · exact mk2_F00 hok hpw hinv hlt tx hd hc h3 hk J K Qp hJ
        · exact mk2_F01 hok hpw hinv hlt tx hd hc h3 hk J K Qp hJ
      · by_cases hk : k + 1 = n
        · exact mk2_F10 hok hpw hinv hlt tx hd hc h3 hk J K Qp hJ
        · exact mk2_F11 hok hpw hinv hlt tx hd hc h3 hk J K Qp hJ
      · exact mk2_F2 hok hpw hinv hlt tx hd hc h3 J K Qp hJ

set_option maxRecDepth 100000 in
set_option maxHeartbeats 8000000 in
theorem mk2_any (φ : UInt8 → Prop) (N : Nat) (w : World) (gd : Nat) (t : ByteArray) (A : Option Addr) (n c : Nat) (l : List D) (tmo cost dist bits : Int) (mar : Nat) (th de : Nat)
    (hmar0 : 1 ≤ mar) (hmar1 : mar ≤ 8) (hb0 : 32 ≤ bits) (hb1 : bits ≤ 62) (hN : N ≤ 1000000) (hn1 : n ≤ 10000) (hn : 0 < n)
    (hL : Hid (OkL φ l N)) (ht : Hid (tb t = srcL l)) (hr : RdL dP 2 w w.heap.size A n l) (hgd : gd < w.heap.size)
    (hdmp : DmpAt w gd tmo cost dist mar bits th de) :
    Calls Tryz.prog 86 #[.pointer (some ⟨gd, 0, none⟩), .string t, .slice A n c] w (MkPost φ N mar l (srcL l) w) := by
  have e0 : ((n : Int) == 0) = false := by rw [beq_eq_false_iff_ne]; omega
  go_enter Tryz.func86, Tryz.ntmps86
  go_wp2_with fail
  go_loopw [7, 9, 10, 11, 12, 25] (MkS φ N mar l (srcL l) w) (fun _ _ _ _ _ i _ => n - (intOf i).toNat)
  case atStart =>
    refine ⟨0, 0, 0, t, t, .slice none 0 0, noP, [], 0, rfl, rfl, rfl, rfl, rfl, ⟨?_, OwnL.nil _ _, ?_, ?_, by simp, fun g e => by simp [Value.ownBlock] at e, fun _ => rfl, Nat.zero_le _, ?_, by simp, fun _ _ e => by cases e⟩, ?_⟩
    · exact heap_alloc_at _ _ _ (by simp)
    · refine ⟨by simp, .inr ⟨w.heap.size, 0, #[], rfl, Nat.le_refl _, ?_, Nat.le_refl _, by simp, by simp, by simp⟩⟩
      exact (Below.heap_alloc _ _ _ (by simp)).trans (heap_alloc_new _ _)
    · simp [Value.ownBlock]
    · exact ((Below.refl _ _).alloc (Nat.le_refl _) _).alloc (by simp) _
    · show MkInv _ _ _ _ _ _ _ _ _ _ _ _ _
      rw [ht.out]
      exact mk_start mar _ hL.out
  case round =>
    obtain ⟨k, c1, c2, T1, T2, dv, cur, L, m, rfl, rfl, rfl, rfl, rfl, hpw, hinv⟩ := hrel
    have hln := hr.1
    have hkn : k ≤ n := by have := hinv.out.il; omega
    by_cases hlt : k < n
    · refine mk2_round (Lib.hid ⟨hmar0, hmar1, hb0, hb1, hN, hn1, hL.out, hr, hgd, hdmp⟩) hpw hinv hlt _ _ _ ?_
      intro x7 x9 x10 x11 x12 x25 x13 x14 x26 x27 x28 x29 x30 x31 x32 x33 x34 x35 x36 x37 x38 x39 x40 x41 x42 x43 x44 x45 x46 x47 x48 x49 x50 x51 x52 x53 x54 x55 x56 x57 x58 x59 x60 x61 x62 x63 x64 x65 x66 x67 x68 x69 x70 x71 x72 x73 x74 x75 x76 x77 x78 x79 x80 x81 x82 x83 x84 x85 x86 x87 x88 x89 x90 x91 x92 x93 x94 x95 x96 x97 x98 x99 x100 x101 x102 x103 x104 x105 x106 x107 x108 x109 x110 x111 x112 x113 x114 x115 x116 x117 x118 x119 x120 x121 x122 x123 x124 x125 x126 x127 x128 x129 x130 x131 x132 x133 x134 x135 x136 x137 x138 x139 x140 x141 x142 x143 x144 x145 x146 x147 x148 x149 x150 x151 x152 x153 x154 x155 x156 x157 x158 x159 x160 x161 x162 x163 x164 x165 x166 x167 x168 x169 x170 x171 x172 x173 x174 x175 x176 x177 x178 x179 x180 w' h1 h2
      go_roundw
      case rel => first | exact ⟨x7, x9, x10, x11, x12, x13, x14, x25, x26, x27, x28, x29, x30, x31, x32, x33, x34, x35, x36, x37, x38, x39, x40, x41, x42, x43, x44, x45, x46, x47, x48, x49, x50, x51, x52, x53, x54, x55, x56, x57, x58, x59, x60, x61, x62, x63, x64, x65, x66, x67, x68, x69, x70, x71, x72, x73, x74, x75, x76, x77, x78, x79, x80, x81, x82, x83, x84, x85, x86, x87, x88, x89, x90, x91, x92, x93, x94, x95, x96, x97, x98, x99, x100, x101, x102, x103, x104, x105, x106, x107, x108, x109, x110, x111, x112, x113, x114, x115, x116, x117, x118, x119, x120, x121, x122, x123, x124, x125, x126, x127, x128, x129, x130, x131, x132, x133, x134, x135, x136, x137, x138, x139, x140, x141, x142, x143, x144, x145, x146, x147, x148, x149, x150, x151, x152, x153, x154, x155, x156, x157, x158, x159, x160, x161, x162, x163, x164, x165, x166, x167, x168, x169, x170, x171, x172, x173, x174, x175, x176, x177, x178, x179, x180, rfl, h1⟩ | exact ⟨x7, x9, x10, x11, x12, x13, x14, x25, x26, x27, x28, x29, x30, x31, x32, x33, x34, x35, x36, x37, x38, x39, x40, x41, x42, x43, x44, x45, x46, x47, x48, x49, x50, x51, x52, x53, x54, x55, x56, x57, x58, x59, x60, x61, x62, x63, x64, x65, x66, x67, x68, x69, x70, x71, x72, x73, x74, x75, x76, x77, x78, x79, x80, x81, x82, x83, x84, x85, x86, x87, x88, x89, x90, x91, x92, x93, x94, x95, x96, x97, x98, x99, x100, x101, x102, x103, x104, x105, x106, x107, x108, x109, x110, x111, x112, x113, x114, x115, x116, x117, x118, x119, x120, x121, x122, x123, x124, x125, x126, x127, x128, x129, x130, x131, x132, x133, x134, x135, x136, x137, x138, x139, x140, x141, x142, x143, x144, x145, x146, x147, x148, x149, x150, x151, x152, x153, x154, x155, x156, x157, x158, x159, x160, x161, x162, x163, x164, x165, x166, x167, x168, x169, x170, x171, x172, x173, x174, x175, x176, x177, x178, x179, x180, h1, rfl⟩
      case measure => exact h2
    · have hkn2 : k = l.length := by omega
      have Hkn := Lib.hid hkn2
      clear hkn2
      obtain ⟨z2, z3, z4, z5, z6, z7, z8, z9, z10, z11⟩ := mk_bounds hL.out hinv.out
      by_cases hc : cur.ds = []
      · have hdv := hpw.nil_ hc
        subst hdv
        have HE := Lib.hid (mk_end' hinv.out Hkn.out hc)
        have x0 := blk_cell hpw.bk 0
        simp [pC] at x0
        clear hinv z2 z3 z4 z5 z6 z7 z8 z9 z10 z11 hc
        go_wp2_with fail
        go_ret
        obtain ⟨a1, a2, a3, a4⟩ := HE.out
        exact ⟨u7, L, rfl, hpw.pat, fun x hx => (hpw.each x hx).1, hpw.bel, a1, fun x hx => a2 x.2 (List.mem_map_of_mem hx), by simpa using a3, by simpa using a4⟩
      · have hcn' := List.length_pos_iff.2 hc
        obtain ⟨g0, c0, hdv, _, _⟩ := hpw.own.shape hcn'
        subst hdv
        have eM : ((cur.ds.length : Int) != 0) = true := by rw [bne_iff_ne]; omega
        obtain ⟨n0, en⟩ : ∃ n0, n0 = cur.ds.length := ⟨_, rfl⟩
        rw [← en] at hpw eM
        have hn0 : 0 < n0 := by omega
        have HI := Lib.hid hinv.out
        clear hinv z2 z3 z4 z5 z6 z7 z8 z9 z10 z11
        generalize hcue : cur = cu at hpw HI hc en
        clear hcue hcn' en
        have hcn := hc
        obtain ⟨q1, q2, q3, q4, q5, q6, q7, q8, q9, q10⟩ := mk_bounds hL.out HI.out
        have q11 : n0 ≤ 100000 := by have := hpw.own.len; omega
        rw [tb_length] at q3 q10
        obtain ⟨ds0, s1, s2, l1, l2⟩ := cu
        simp only at q4 q6 q7 q8 q9 q10 hcn hn0
        obtain ⟨s2, rfl⟩ : ∃ s2' : Nat, s2 = s2' := ⟨s2.toNat, by omega⟩
        obtain ⟨l1, rfl⟩ : ∃ l1' : Nat, l1 = l1' := ⟨l1.toNat, by omega⟩
        have x0 := blk_cell hpw.bk 0
        have x1 := blk_cell hpw.bk 1
        have x2 := blk_cell hpw.bk 2
        have x3 := blk_cell hpw.bk 3
        have x4 := blk_cell hpw.bk 4
        have fx0 := blk_frozen hpw.bk 0
        have fx1 := blk_frozen hpw.bk 1
        have fx2 := blk_frozen hpw.bk 2
        have fx3 := blk_frozen hpw.bk 3
        have fx4 := blk_frozen hpw.bk 4
        simp [pC] at x0 x1 x2 x3 x4
        go_wp2_with (go_at_call 128; refine Hid.out ?_)
        refine Lib.hid ?_
        refine (ctx_all wr gd g0 n0 c0 ds0 s1 l2 s2 l1 T1 tmo cost dist bits mar th de hmar0 hmar1 hb0 hb1 (by omega) (by omega) (by omega) (by omega) (by omega) (by omega) hn0 q11 (hdmp.below hpw.bel hgd) (hpw.own.base_le (Nat.zero_le _))).mono ?_
        rintro e w1 ⟨g1, n1, c1', q, pre, suf, rfl, hco, hcg, hcb, hq, hpre, hsuf⟩
        have hZ := hpw.ctx hcb (cur' := ctxP ⟨ds0, s1, s2, l1, l2⟩ pre suf) hco (ctx_ne hcn) hcg
        have hI2 := fun live' => mk_close (live' := live') hL.out HI.out hcn hmar0 hq rfl rfl hpre hsuf
        have HI2 := Lib.hid hI2
        have b1 := gb_heap hcb (i := w.heap.size + 1) hpw.sz (fun e => own_block_ty hpw.own hpw.bk (by omega) e.symm) hpw.bk
        clear x0 fx0 x1 fx1 x2 fx2 x3 fx3 x4 fx4
        clear hI2 hco hcg hcb hpre hsuf HI
        have x0 := blk_cell b1 0
        have x1 := blk_cell b1 1
        have x2 := blk_cell b1 2
        have x3 := blk_cell b1 3
        have x4 := blk_cell b1 4
        have fx0 := blk_frozen b1 0
        have fx1 := blk_frozen b1 1
        have fx2 := blk_frozen b1 2
        have fx3 := blk_frozen b1 3
        have fx4 := blk_frozen b1 4
        simp [pC] at x0 x1 x2 x3 x4
        go_wp2_with (at_builtin; refine Hid.out ?_)
        refine Lib.hid ?_
        have hY := hZ.alloc (.cells (pC (.slice (some ⟨g1, 0, none⟩) n1 c1') (ctxP ⟨ds0, s1, s2, l1, l2⟩ pre suf)) 114)
        refine wpList_push (P := Tryz.prog) st73 rfl (.tmp 189) (.tmp 191) rfl rfl hY.pat (.slice (some ⟨g1, 0, none⟩) n1 c1', ctxP ⟨ds0, s1, s2, l1, l2⟩ pre suf) ⟨w1.heap.size, 0, none⟩ 1 (by rfl) pvP_len (pvP_one _ _ _ _) (by rw [List.length_map] at q5; omega) hY.size (cells5_of (heap_alloc_at _ _ _ (by simp [World.setCell]))) ?_
        intro g3 c3 w3 hown3 hg3 hat3
        obtain ⟨hW1, hW2⟩ := hY.last hg3
        clear hY hZ b1 hg3 hat3 hpw
        clear x0 fx0 x1 fx1 x2 fx2 x3 fx3 x4 fx4
        go_wp2_with fail
        go_ret
        obtain ⟨a1, a2, a3, a4⟩ := mk_end' (HI2.out False) Hkn.out rfl
        refine ⟨_, _, rfl, hown3, hW1, hW2, ?_, ?_, ?_, ?_⟩
        · rw [List.map_append]; exact a1
        · intro x hx
          refine a2 x.2 ?_
          have := List.mem_map_of_mem (f := fun y : Value × P => y.2) hx
          rw [List.map_append] at this
          exact this
        · simpa using a3
        · simpa using a4
end Go.Proofs.YtjebgfpcmooniaaGreatDoor
