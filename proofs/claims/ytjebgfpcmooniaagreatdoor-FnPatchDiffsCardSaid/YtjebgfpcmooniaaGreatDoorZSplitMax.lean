/- PatchSplitMax: its outer loop: a patch that is too long. PatchSplitMax: its outer loop: a patch that is too long. PatchSplitMax: patches that are too long are divided. -/
import Derived.Test.YtjebgfpcmooniaaGreatDoorZSpOa
namespace Go.Proofs.YtjebgfpcmooniaaGreatDoor
open Go Go.RowKit

set_option maxRecDepth 100000 in
set_option maxHeartbeats 4000000 in
theorem out_big0 {w0 wr : World} {gd : Nat} {tmo cost dist : Int} {th de mar bits W Wd M : Nat} {A : Option Addr} {n c x : Nat} {pre post : List (Value × P)} {T T' : List UInt8} {p0 : Value × P} {u2 u3 u4 u7 u8 u9 u10 u11 u12 u13 u14 u15 u16 u17 u18 u19 u20 u21 u22 u23 u24 u25 u26 u27 u28 u29 u30 u31 u32 u33 u34 u35 u36 u37 u38 u39 u40 u41 u42 u43 u44 u45 u46 u47 u48 u49 u50 u51 u52 u53 u54 u55 u56 u57 u58 u59 u60 u61 u62 u63 u64 u65 u66 u67 u68 u69 u70 u71 u72 u73 u74 u75 u76 u77 u78 u79 u80 u81 u82 u83 u84 u85 u86 u87 u88 u89 u90 u91 u92 u93 u94 u95 u96 u97 u98 u99 u100 u101 u102 u103 u104 u105 u106 u107 u108 u109 u110 u111 u112 u113 u114 u115 u116 u117 u118 u119 u120 u121 u122 u123 u124 u125 u126 u127 u128 u129 u130 u131 u132 u133 u134 u135 u136 u137 u138 u139 u140 u141 u142 u143 u144 u145 u146 u147 u148 u149 u150 u151 u152 u153 u154 u155 u156 u157 u158 u159 u160 u161 u162 u163 u164 u165 u166 u167 u168 u169 u170 u171 u172 u173 u174 u175 u176 u177 u178 u179 u180 u181 u182 u183 u184 u185 u186 u187 u188 u189 u190 u191 u192 u193 u194 u195 u196 u197 u198 u199 u200 u201 u202 u203 u204 u205 u206 u207 u208 u209 u210 u211 u212 u213 u214 u215 u216 u217 u218 u219 u220 u221 u222 u223 u224 u225 u226 u227 u228 u229 u230 u231 u232 u233 u234 u235 u236 u237 u238 u239 u240 u241 u242 u243 u244 u245 u246 u247 u248 u249 u250 u251 u252 u253 u254 u255 u256 u257 u258 u259 u260 u261 u262 u263 u264 u265 u266 u267 u268 u269 u270 u271 u272 u273 u274 u275 u276 u277 u278 u279 u280 u281 u282 u283 u284 u285 u286 u287 u288 u289 u290 u291 u292 u293 u294 u295 u296 u297 u298 u299 u300 u301 u302 u303 u304 u305 u306 u307 u308 u309 u310 u311 u312 u313 u314 u315 u316 u317 u318 u319 u320 u321 u322 u323 u324 u325 u326 u327 u328 u329 u330 u331 u332 u333 u334 u335 u336 u337 u338 u339 u340 u341 u342 u343 u344 u345 u346 : Value} (hok : Hid (SpOk w0 gd tmo cost dist th de mar bits W Wd M)) (hk : Hid (x = pre.length ∧ n = pre.length + (p0 :: post).length)) (ho : Hid (OutR w0 wr W Wd M (.slice A n c) pre (p0 :: post) T T')) (hbl : (bits : Int) < p0.2.l1) (hcx : c = x + 1) (J : Act → World → Prop) (Q : Exit → Act → World → Prop) (hJ : ∀ a w', (FrOu gd bits u2 u3 u4 u16 u17 u18 u19 u346 (OuS w0 W Wd M T T' (p0 :: post).length)) a w' → J a w') :
    Code.wp Tryz.prog round0 (Exit.then J Q) { tmps := #[.pointer (some ⟨gd, 0, none⟩), .slice A n c, u2, u3, u4, .int .i64 bits, .int .i64 x, u7, u8, u9, u10, u11, u12, u13, u14, u15, u16, u17, u18, u19, u20, u21, u22, u23, u24, u25, u26, u27, u28, u29, u30, u31, u32, u33, u34, u35, u36, u37, u38, u39, u40, u41, u42, u43, u44, u45, u46, u47, u48, u49, u50, u51, u52, u53, u54, u55, u56, u57, u58, u59, u60, u61, u62, u63, u64, u65, u66, u67, u68, u69, u70, u71, u72, u73, u74, u75, u76, u77, u78, u79, u80, u81, u82, u83, u84, u85, u86, u87, u88, u89, u90, u91, u92, u93, u94, u95, u96, u97, u98, u99, u100, u101, u102, u103, u104, u105, u106, u107, u108, u109, u110, u111, u112, u113, u114, u115, u116, u117, u118, u119, u120, u121, u122, u123, u124, u125, u126, u127, u128, u129, u130, u131, u132, u133, u134, u135, u136, u137, u138, u139, u140, u141, u142, u143, u144, u145, u146, u147, u148, u149, u150, u151, u152, u153, u154, u155, u156, u157, u158, u159, u160, u161, u162, u163, u164, u165, u166, u167, u168, u169, u170, u171, u172, u173, u174, u175, u176, u177, u178, u179, u180, u181, u182, u183, u184, u185, u186, u187, u188, u189, u190, u191, u192, u193, u194, u195, u196, u197, u198, u199, u200, u201, u202, u203, u204, u205, u206, u207, u208, u209, u210, u211, u212, u213, u214, u215, u216, u217, u218, u219, u220, u221, u222, u223, u224, u225, u226, u227, u228, u229, u230, u231, u232, u233, u234, u235, u236, u237, u238, u239, u240, u241, u242, u243, u244, u245, u246, u247, u248, u249, u250, u251, u252, u253, u254, u255, u256, u257, u258, u259, u260, u261, u262, u263, u264, u265, u266, u267, u268, u269, u270, u271, u272, u273, u274, u275, u276, u277, u278, u279, u280, u281, u282, u283, u284, u285, u286, u287, u288, u289, u290, u291, u292, u293, u294, u295, u296, u297, u298, u299, u300, u301, u302, u303, u304, u305, u306, u307, u308, u309, u310, u311, u312, u313, u314, u315, u316, u317, u318, u319, u320, u321, u322, u323, u324, u325, u326, u327, u328, u329, u330, u331, u332, u333, u334, u335, u336, u337, u338, u339, u340, u341, u342, u343, u344, u345, u346], defers := [] } wr := by
  obtain ⟨a1, a2, b1, b2, hM9⟩ : 1 ≤ mar ∧ mar ≤ 8 ∧ 32 ≤ bits ∧ bits ≤ 62 ∧ M ≤ 900000 := ⟨hok.out.mar1, hok.out.mar8, hok.out.bits1, hok.out.bits2, hok.out.M9⟩
  have hn9 : n ≤ 10000000 := by
    have h1 := ho.out.wt
    have h2 := hok.out.W9
    have h3 := wtP_len ((p0 :: post).map (·.2))
    rw [List.length_map] at h3
    have := hk.out.2
    omega

  have hxn : x < n := by have := hk.out; simp only [List.length_cons] at this; omega
  have hxn1 : (x : Int) < (n : Int) := by omega
  have hat : (pre ++ p0 :: post)[x]? = some p0 := by rw [hk.out.1, List.getElem?_append_right (Nat.le_refl _), Nat.sub_self]; rfl
  obtain ⟨g0, cc, hv, hgl, -⟩ := ho.out.row.pat.shape (by simp; omega)
  injection hv with hv1 hv2 hv3
  subst hv1 hv3
  obtain ⟨c0, c1, c2, c3, c4, -, -, -, -, -⟩ := ho.out.row.cellsA hat
  obtain ⟨hl0, hl1⟩ := ho.out.l1
  have hm0 : p0 ∈ pre ++ p0 :: post := by simp
  obtain ⟨A2, q2, hxv, -⟩ := (ho.out.row.each p0 hm0).rd dP_len
  obtain ⟨xv, ds0, s10, s20, l10, l20⟩ := p0
  simp only at hxv hl0 hl1 hbl c0 c1 c2 c3 c4
  subst hxv
  rw [addr_add] at c0 c1 c2 c3 c4
  simp only at c0 c1 c2 c3 c4
  have y5 := blk_cell (hok.out.dmp.below ho.out.bel hok.out.gd) 5
  simp at y5
  clear hat hm0 hv2

  have hdne : Hid (ds0 ≠ []) := fun e => by
    obtain ⟨Z, h1, h2⟩ := ho.out.ex
    rw [List.map_cons] at h2
    obtain ⟨-, -, -, h3⟩ := h2.step
    rw [e] at h3
    simp only [srcL_nil, List.length_nil] at h3
    omega
  have hbl' : ¬ l10 ≤ (bits : Int) := by omega
  obtain ⟨x1, hx1⟩ : ∃ x1 : Nat, (x : Int) + 1 = (x1 : Int) := ⟨x + 1, by omega⟩
  obtain ⟨cap, hform, hnc⟩ := own_form ho.out.row.pat rfl
  have hcap : c = cap := by
    injection hform with _ _ h
  clear hform
  subst hcap
  have hnl : n = pre.length + (post.length + 1) := by have := hk.out.2; simpa using this
  have hxl := hk.out.1
  have hnc2 : n ≤ c := by rw [List.length_append, List.length_cons] at hnc; omega
  have hx1n : x1 ≤ n := by omega
  have hx1c : x1 ≤ c := by omega
  have hx1i : (x1 : Int) ≤ (n : Int) := by omega
  have hxc : x ≤ c := by omega
  have hxn2 : x ≤ n := by omega
  have hnx : n - x1 = post.length := by omega
  have hwx : IntKind.i64.wrap (x1 : Int) = (x1 : Int) := by rw [IntKind.wrap_i64]; omega
  have hpl : post.length ≤ 10000000 := by omega
  have hown := Lib.hid (ho.out.row.pat.alloc (.cells #[.slice A2 ds0.length q2, .int .i64 s10, .int .i64 s20, .int .i64 l10, .int .i64 l20] 114)).drew
  have hpre : Hid (OwnL pvP 114 5 ((wr.alloc (.cells #[.slice A2 ds0.length q2, .int .i64 s10, .int .i64 s20, .int .i64 l10, .int .i64 l20] 114)).drew) w0.heap.size (.slice (some ⟨g0, 0, none⟩) x c) pre) := by
    have k := hown.out.pre pvP_len (x := x) (by simp; omega) (by simp)
    rwa [hxl, List.take_left' rfl, ← hxl] at k
  have hpost : Hid (∀ j u, (post.flatMap pvP)[j]? = some u → ((wr.alloc (.cells #[.slice A2 ds0.length q2, .int .i64 s10, .int .i64 s20, .int .i64 l10, .int .i64 l20] 114)).drew).cell? ((⟨g0, x1 * 5, none⟩ : Addr).add j) = some u) := fun j u hu => by
    have k := own_post (pre := pre ++ [(Value.slice A2 ds0.length q2, (⟨ds0, s10, s20, l10, l20⟩ : P))]) (post := post) (by rw [List.append_assoc]; exact hown.out) j u hu
    rwa [addr_add, List.length_append, List.length_singleton, show pre.length + 1 = x1 by omega] at k
  have hone : Hid (∀ u ∈ post.flatMap pvP, u.oneCell' = true) := rows_one (w := wr) (B := w0.heap.size) fun y hy => ho.out.row.each y (by simp [hy])
  have hB : w0.heap.size ≤ ((wr.alloc (.cells #[.slice A2 ds0.length q2, .int .i64 s10, .int .i64 s20, .int .i64 l10, .int .i64 l20] 114)).drew).heap.size := le_al ho.out.bel.size
  have hbb : pre.length + post.length < 1000000000 := by omega
  have Hxl := Lib.hid hxl
  clear hnl hxl hnc
  refine wp_qp ?_
  conv => arg 2; whnf
  obtain rfl : post = [] := List.length_eq_zero_iff.1 (by omega)
  have e1 : x1 = c := by omega
  subst e1
  have e2 : x1 = n := by omega
  clear hcx
  subst e2
  have hpost : Hid (∀ j u, (([] : List (Value × P)).flatMap pvP)[j]? = some u → ((wr.alloc (.cells #[.slice A2 ds0.length q2, .int .i64 s10, .int .i64 s20, .int .i64 l10, .int .i64 l20] 114)).drew).cell? ((⟨g0, 0, none⟩ : Addr).add j) = some u) := fun j u hu => by simp at hu
  clear hnx
  go_wp2_with fail
  refine region_tail 7 (by kernel_rfl) (by kernel_rfl) ?_
  simp only [List.take_succ_cons, List.take_zero, List.drop_succ_cons, List.drop_zero]
  repeat still_step
  refine wpStill_nil ?_
  refine wpList_appendL (v := .slice (some ⟨g0, 0, none⟩) x x1) st73 rfl (.tmp 39) (.tmp 43) rfl rfl hpre.out [] ⟨g0, 0, none⟩ 0 0 rfl rfl hpost.out hone.out pvP_len hbb hB ?_
  intro v1 w1 hown1 hg1 hb1
  have hGc : ((wr.alloc (.cells #[.slice A2 ds0.length q2, .int .i64 s10, .int .i64 s20, .int .i64 l10, .int .i64 l20] 114)).drew).heap[wr.heap.size]? = some (.cells (pC (.slice A2 ds0.length q2) ⟨ds0, s10, s20, l10, l20⟩) 114 (0, 0)) := heap_alloc_new _ _
  have hGv : (Value.slice (some ⟨g0, 0, none⟩) x1 x1).ownBlock ≠ some wr.heap.size := fun e => by
    have : g0 = wr.heap.size := by simpa [Value.ownBlock] using e
    omega
  have hGs : wr.heap.size < ((wr.alloc (.cells #[.slice A2 ds0.length q2, .int .i64 s10, .int .i64 s20, .int .i64 l10, .int .i64 l20] 114)).drew).heap.size := (Array.getElem?_eq_some_iff.1 hGc).1
  have hG1 := gb_heap hg1 hGs (fun e => hGv e.symm) hGc
  have hb1' : v1.ownBlock = (Value.slice (some ⟨g0, 0, none⟩) x1 x1).ownBlock ∨ v1.ownBlock = some ((wr.alloc (.cells #[.slice A2 ds0.length q2, .int .i64 s10, .int .i64 s20, .int .i64 l10, .int .i64 l20] 114)).drew).heap.size := hb1
  obtain ⟨gb, X, B, hatX, HM⟩ := (ho.out.on (((Below.refl wr.heap.size wr).alloc (Nat.le_refl _) (.cells #[.slice A2 ds0.length q2, .int .i64 s10, .int .i64 s20, .int .i64 l10, .int .i64 l20] 114)).drew)).big hdne.out hGc ho.out.bel.size hGv hg1 hown1 hb1' (mar := mar)
  have hv1 : Hid (∃ g, v1.ownBlock = some g) := by
    rcases hb1 with h | h
    · exact ⟨g0, h⟩
    · exact ⟨_, h⟩
  have hs2 : Hid (s20 = X.length + (⟨#[]⟩ : ByteArray).size) := by
    show _ = _
    have := hatX.s2
    simp only at this
    rw [this]; rfl
  have HM2 := Lib.hid HM
  clear HM
  have hx0 : Hid ((x : Int) - 1 + 1 = (pre.length : Int)) := by
    show _ = _
    rw [Hxl.out]; omega
  have d1 := blk_cell hG1 1
  have d2 := blk_cell hG1 2
  simp [pC] at d1 d2
  clear hGc hGv hGs hG1 hb1' hb1 hown1 hg1 hown hpre hpost hone c0 c1 c2 c3 c4 hatX y5 hwx hx1
  go_wp2_with fail
  rename_i K hK
  refine mid_loop hok HM2 hs2 hx0 hv1 _ ?_
  intro a w' h
  cases h with
  | mk x1 x6 x8 x9 x10 x11 x12 x13 x14 x15 x51 x52 x53 x54 x55 x56 x57 x58 x59 x60 x61 x62 x63 x64 x65 x66 x67 x68 x69 x70 x71 x72 x73 x74 x75 x76 x77 x78 x79 x80 x81 x82 x83 x84 x85 x86 x87 x88 x89 x90 x91 x92 x93 x94 x95 x96 x97 x98 x99 x100 x101 x102 x103 x104 x105 x106 x107 x108 x109 x110 x111 x112 x113 x114 x115 x116 x117 x118 x119 x120 x121 x122 x123 x124 x125 x126 x127 x128 x129 x130 x131 x132 x133 x134 x135 x136 x137 x138 x139 x140 x141 x142 x143 x144 x145 x146 x147 x148 x149 x150 x151 x152 x153 x154 x155 x156 x157 x158 x159 x160 x161 x162 x163 x164 x165 x166 x167 x168 x169 x170 x171 x172 x173 x174 x175 x176 x177 x178 x179 x180 x181 x182 x183 x184 x185 x186 x187 x188 x189 x190 x191 x192 x193 x194 x195 x196 x197 x198 x199 x200 x201 x202 x203 x204 x205 x206 x207 x208 x209 x210 x211 x212 x213 x214 x215 x216 x217 x218 x219 x220 x221 x222 x223 x224 x225 x226 x227 x228 x229 x230 x231 x232 x233 x234 x235 x236 x237 x238 x239 x240 x241 x242 x243 x244 x245 x246 x247 x248 x249 x250 x251 x252 x253 x254 x255 x256 x257 x258 x259 x260 x261 x262 x263 x264 x265 x266 x267 x268 x269 x270 x271 x272 x273 x274 x275 x276 x277 x278 x279 x280 x281 x282 x283 x284 x285 x286 x287 x288 x289 x290 x291 x292 x293 x294 x295 x296 x297 x298 x299 x300 x301 x302 x303 x304 x305 x306 x307 x308 x309 x310 x311 x312 x313 x314 x315 x316 x317 x318 x319 x320 x321 x322 x323 x324 x325 x326 x327 x328 x329 x330 x331 x332 x333 x334 x335 x336 x337 x338 x339 x340 x341 x342 x343 x344 x345 w' h =>
    obtain ⟨x', pre', rfl, hx', HO'⟩ := h
    obtain ⟨A', c', hv', -⟩ := HO'.out.row.pat.rd pvP_len
    obtain ⟨x2, hx2⟩ : ∃ x2 : Nat, x' + 1 = (x2 : Int) := ⟨pre'.length, hx'.out⟩
    have hk2 : Hid (x2 = pre'.length ∧ (pre' ++ []).length = pre'.length + ([] : List (Value × P)).length) := by
      have := hx'.out
      exact ⟨by omega, List.length_append⟩
    have Hv' := Lib.hid hv'
    have hxb : x' ≤ 20000000 := by
      have h1 := HO'.out.wt
      have h2 := hok.out.W9
      have := hx'.out
      omega
    have hxb2 : -1 ≤ x' := by have := hx'.out; omega
    clear hv' hx' HM2 hs2 hx0 hv1
    refine hK _ _ ?_
    go_wp2_with fail
    exact FrOu.mk _ _ _ _ _ _ _ _ _ _ _ _ _ _ _ _ _ _ _ _ _ _ _ _ _ _ _ _ _ _ _ _ _ _ _ _ _ _ _ _ _ _ _ _ _ _ _ _ _ _ _ _ _ _ _ _ _ _ _ _ _ _ _ _ _ _ _ _ _ _ _ _ _ _ _ _ _ _ _ _ _ _ _ _ _ _ _ _ _ _ _ _ _ _ _ _ _ _ _ _ _ _ _ _ _ _ _ _ _ _ _ _ _ _ _ _ _ _ _ _ _ _ _ _ _ _ _ _ _ _ _ _ _ _ _ _ _ _ _ _ _ _ _ _ _ _ _ _ _ _ _ _ _ _ _ _ _ _ _ _ _ _ _ _ _ _ _ _ _ _ _ _ _ _ _ _ _ _ _ _ _ _ _ _ _ _ _ _ _ _ _ _ _ _ _ _ _ _ _ _ _ _ _ _ _ _ _ _ _ _ _ _ _ _ _ _ _ _ _ _ _ _ _ _ _ _ _ _ _ _ _ _ _ _ _ _ _ _ _ _ _ _ _ _ _ _ _ _ _ _ _ _ _ _ _ _ _ _ _ _ _ _ _ _ _ _ _ _ _ _ _ _ _ _ _ _ _ _ _ _ _ _ _ _ _ _ _ _ _ _ _ _ _ _ _ _ _ _ _ _ _ _ _ _ _ _ _ _ _ _ _ _ _ _ _ _ _ _ _ _ _ _ _ _ _ _ _ _ _ _ _ _ _ _ _ _ _ _ ⟨A', _, c', x2, pre', [], Hv'.out, rfl, hk2, by rw [← Hv'.out]; exact HO', by simp⟩
end Go.Proofs.YtjebgfpcmooniaaGreatDoor

namespace Go.Proofs.YtjebgfpcmooniaaGreatDoor
open Go Go.RowKit

set_option maxRecDepth 100000 in
set_option maxHeartbeats 4000000 in
theorem out_big1 {w0 wr : World} {gd : Nat} {tmo cost dist : Int} {th de mar bits W Wd M : Nat} {A : Option Addr} {n c x : Nat} {pre post : List (Value × P)} {T T' : List UInt8} {p0 : Value × P} {u2 u3 u4 u7 u8 u9 u10 u11 u12 u13 u14 u15 u16 u17 u18 u19 u20 u21 u22 u23 u24 u25 u26 u27 u28 u29 u30 u31 u32 u33 u34 u35 u36 u37 u38 u39 u40 u41 u42 u43 u44 u45 u46 u47 u48 u49 u50 u51 u52 u53 u54 u55 u56 u57 u58 u59 u60 u61 u62 u63 u64 u65 u66 u67 u68 u69 u70 u71 u72 u73 u74 u75 u76 u77 u78 u79 u80 u81 u82 u83 u84 u85 u86 u87 u88 u89 u90 u91 u92 u93 u94 u95 u96 u97 u98 u99 u100 u101 u102 u103 u104 u105 u106 u107 u108 u109 u110 u111 u112 u113 u114 u115 u116 u117 u118 u119 u120 u121 u122 u123 u124 u125 u126 u127 u128 u129 u130 u131 u132 u133 u134 u135 u136 u137 u138 u139 u140 u141 u142 u143 u144 u145 u146 u147 u148 u149 u150 u151 u152 u153 u154 u155 u156 u157 u158 u159 u160 u161 u162 u163 u164 u165 u166 u167 u168 u169 u170 u171 u172 u173 u174 u175 u176 u177 u178 u179 u180 u181 u182 u183 u184 u185 u186 u187 u188 u189 u190 u191 u192 u193 u194 u195 u196 u197 u198 u199 u200 u201 u202 u203 u204 u205 u206 u207 u208 u209 u210 u211 u212 u213 u214 u215 u216 u217 u218 u219 u220 u221 u222 u223 u224 u225 u226 u227 u228 u229 u230 u231 u232 u233 u234 u235 u236 u237 u238 u239 u240 u241 u242 u243 u244 u245 u246 u247 u248 u249 u250 u251 u252 u253 u254 u255 u256 u257 u258 u259 u260 u261 u262 u263 u264 u265 u266 u267 u268 u269 u270 u271 u272 u273 u274 u275 u276 u277 u278 u279 u280 u281 u282 u283 u284 u285 u286 u287 u288 u289 u290 u291 u292 u293 u294 u295 u296 u297 u298 u299 u300 u301 u302 u303 u304 u305 u306 u307 u308 u309 u310 u311 u312 u313 u314 u315 u316 u317 u318 u319 u320 u321 u322 u323 u324 u325 u326 u327 u328 u329 u330 u331 u332 u333 u334 u335 u336 u337 u338 u339 u340 u341 u342 u343 u344 u345 u346 : Value} (hok : Hid (SpOk w0 gd tmo cost dist th de mar bits W Wd M)) (hk : Hid (x = pre.length ∧ n = pre.length + (p0 :: post).length)) (ho : Hid (OutR w0 wr W Wd M (.slice A n c) pre (p0 :: post) T T')) (hbl : (bits : Int) < p0.2.l1) (hcx : c ≠ x + 1) (J : Act → World → Prop) (Q : Exit → Act → World → Prop) (hJ : ∀ a w', (FrOu gd bits u2 u3 u4 u16 u17 u18 u19 u346 (OuS w0 W Wd M T T' (p0 :: post).length)) a w' → J a w') :
    Code.wp Tryz.prog round0 (Exit.then J Q) { tmps := #[.pointer (some ⟨gd, 0, none⟩), .slice A n c, u2, u3, u4, .int .i64 bits, .int .i64 x, u7, u8, u9, u10, u11, u12, u13, u14, u15, u16, u17, u18, u19, u20, u21, u22, u23, u24, u25, u26, u27, u28, u29, u30, u31, u32, u33, u34, u35, u36, u37, u38, u39, u40, u41, u42, u43, u44, u45, u46, u47, u48, u49, u50, u51, u52, u53, u54, u55, u56, u57, u58, u59, u60, u61, u62, u63, u64, u65, u66, u67, u68, u69, u70, u71, u72, u73, u74, u75, u76, u77, u78, u79, u80, u81, u82, u83, u84, u85, u86, u87, u88, u89, u90, u91, u92, u93, u94, u95, u96, u97, u98, u99, u100, u101, u102, u103, u104, u105, u106, u107, u108, u109, u110, u111, u112, u113, u114, u115, u116, u117, u118, u119, u120, u121, u122, u123, u124, u125, u126, u127, u128, u129, u130, u131, u132, u133, u134, u135, u136, u137, u138, u139, u140, u141, u142, u143, u144, u145, u146, u147, u148, u149, u150, u151, u152, u153, u154, u155, u156, u157, u158, u159, u160, u161, u162, u163, u164, u165, u166, u167, u168, u169, u170, u171, u172, u173, u174, u175, u176, u177, u178, u179, u180, u181, u182, u183, u184, u185, u186, u187, u188, u189, u190, u191, u192, u193, u194, u195, u196, u197, u198, u199, u200, u201, u202, u203, u204, u205, u206, u207, u208, u209, u210, u211, u212, u213, u214, u215, u216, u217, u218, u219, u220, u221, u222, u223, u224, u225, u226, u227, u228, u229, u230, u231, u232, u233, u234, u235, u236, u237, u238, u239, u240, u241, u242, u243, u244, u245, u246, u247, u248, u249, u250, u251, u252, u253, u254, u255, u256, u257, u258, u259, u260, u261, u262, u263, u264, u265, u266, u267, u268, u269, u270, u271, u272, u273, u274, u275, u276, u277, u278, u279, u280, u281, u282, u283, u284, u285, u286, u287, u288, u289, u290, u291, u292, u293, u294, u295, u296, u297, u298, u299, u300, u301, u302, u303, u304, u305, u306, u307, u308, u309, u310, u311, u312, u313, u314, u315, u316, u317, u318, u319, u320, u321, u322, u323, u324, u325, u326, u327, u328, u329, u330, u331, u332, u333, u334, u335, u336, u337, u338, u339, u340, u341, u342, u343, u344, u345, u346], defers := [] } wr := by
  obtain ⟨a1, a2, b1, b2, hM9⟩ : 1 ≤ mar ∧ mar ≤ 8 ∧ 32 ≤ bits ∧ bits ≤ 62 ∧ M ≤ 900000 := ⟨hok.out.mar1, hok.out.mar8, hok.out.bits1, hok.out.bits2, hok.out.M9⟩
  have hn9 : n ≤ 10000000 := by
    have h1 := ho.out.wt
    have h2 := hok.out.W9
    have h3 := wtP_len ((p0 :: post).map (·.2))
    rw [List.length_map] at h3
    have := hk.out.2
    omega

  have hxn : x < n := by have := hk.out; simp only [List.length_cons] at this; omega
  have hxn1 : (x : Int) < (n : Int) := by omega
  have hat : (pre ++ p0 :: post)[x]? = some p0 := by rw [hk.out.1, List.getElem?_append_right (Nat.le_refl _), Nat.sub_self]; rfl
  obtain ⟨g0, cc, hv, hgl, -⟩ := ho.out.row.pat.shape (by simp; omega)
  injection hv with hv1 hv2 hv3
  subst hv1 hv3
  obtain ⟨c0, c1, c2, c3, c4, -, -, -, -, -⟩ := ho.out.row.cellsA hat
  obtain ⟨hl0, hl1⟩ := ho.out.l1
  have hm0 : p0 ∈ pre ++ p0 :: post := by simp
  obtain ⟨A2, q2, hxv, -⟩ := (ho.out.row.each p0 hm0).rd dP_len
  obtain ⟨xv, ds0, s10, s20, l10, l20⟩ := p0
  simp only at hxv hl0 hl1 hbl c0 c1 c2 c3 c4
  subst hxv
  rw [addr_add] at c0 c1 c2 c3 c4
  simp only at c0 c1 c2 c3 c4
  have y5 := blk_cell (hok.out.dmp.below ho.out.bel hok.out.gd) 5
  simp at y5
  clear hat hm0 hv2

  have hdne : Hid (ds0 ≠ []) := fun e => by
    obtain ⟨Z, h1, h2⟩ := ho.out.ex
    rw [List.map_cons] at h2
    obtain ⟨-, -, -, h3⟩ := h2.step
    rw [e] at h3
    simp only [srcL_nil, List.length_nil] at h3
    omega
  have hbl' : ¬ l10 ≤ (bits : Int) := by omega
  obtain ⟨x1, hx1⟩ : ∃ x1 : Nat, (x : Int) + 1 = (x1 : Int) := ⟨x + 1, by omega⟩
  obtain ⟨cap, hform, hnc⟩ := own_form ho.out.row.pat rfl
  have hcap : c = cap := by
    injection hform with _ _ h
  clear hform
  subst hcap
  have hnl : n = pre.length + (post.length + 1) := by have := hk.out.2; simpa using this
  have hxl := hk.out.1
  have hnc2 : n ≤ c := by rw [List.length_append, List.length_cons] at hnc; omega
  have hx1n : x1 ≤ n := by omega
  have hx1c : x1 ≤ c := by omega
  have hx1i : (x1 : Int) ≤ (n : Int) := by omega
  have hxc : x ≤ c := by omega
  have hxn2 : x ≤ n := by omega
  have hnx : n - x1 = post.length := by omega
  have hwx : IntKind.i64.wrap (x1 : Int) = (x1 : Int) := by rw [IntKind.wrap_i64]; omega
  have hpl : post.length ≤ 10000000 := by omega
  have hown := Lib.hid (ho.out.row.pat.alloc (.cells #[.slice A2 ds0.length q2, .int .i64 s10, .int .i64 s20, .int .i64 l10, .int .i64 l20] 114)).drew
  have hpre : Hid (OwnL pvP 114 5 ((wr.alloc (.cells #[.slice A2 ds0.length q2, .int .i64 s10, .int .i64 s20, .int .i64 l10, .int .i64 l20] 114)).drew) w0.heap.size (.slice (some ⟨g0, 0, none⟩) x c) pre) := by
    have k := hown.out.pre pvP_len (x := x) (by simp; omega) (by simp)
    rwa [hxl, List.take_left' rfl, ← hxl] at k
  have hpost : Hid (∀ j u, (post.flatMap pvP)[j]? = some u → ((wr.alloc (.cells #[.slice A2 ds0.length q2, .int .i64 s10, .int .i64 s20, .int .i64 l10, .int .i64 l20] 114)).drew).cell? ((⟨g0, x1 * 5, none⟩ : Addr).add j) = some u) := fun j u hu => by
    have k := own_post (pre := pre ++ [(Value.slice A2 ds0.length q2, (⟨ds0, s10, s20, l10, l20⟩ : P))]) (post := post) (by rw [List.append_assoc]; exact hown.out) j u hu
    rwa [addr_add, List.length_append, List.length_singleton, show pre.length + 1 = x1 by omega] at k
  have hone : Hid (∀ u ∈ post.flatMap pvP, u.oneCell' = true) := rows_one (w := wr) (B := w0.heap.size) fun y hy => ho.out.row.each y (by simp [hy])
  have hB : w0.heap.size ≤ ((wr.alloc (.cells #[.slice A2 ds0.length q2, .int .i64 s10, .int .i64 s20, .int .i64 l10, .int .i64 l20] 114)).drew).heap.size := le_al ho.out.bel.size
  have hbb : pre.length + post.length < 1000000000 := by omega
  have Hxl := Lib.hid hxl
  clear hnl hxl hnc
  refine wp_qp ?_
  conv => arg 2; whnf
  have hcx : ¬ c = x1 := by omega
  go_wp2_with fail
  refine region_tail 7 (by kernel_rfl) (by kernel_rfl) ?_
  simp only [List.take_succ_cons, List.take_zero, List.drop_succ_cons, List.drop_zero]
  repeat still_step
  refine wpStill_nil ?_
  refine wpList_appendL (v := .slice (some ⟨g0, 0, none⟩) x c) st73 rfl (.tmp 39) (.tmp 43) rfl rfl hpre.out post ⟨g0, x1 * 5, none⟩ post.length (c - x1) rfl rfl hpost.out hone.out pvP_len hbb hB ?_
  intro v1 w1 hown1 hg1 hb1
  have hGc : ((wr.alloc (.cells #[.slice A2 ds0.length q2, .int .i64 s10, .int .i64 s20, .int .i64 l10, .int .i64 l20] 114)).drew).heap[wr.heap.size]? = some (.cells (pC (.slice A2 ds0.length q2) ⟨ds0, s10, s20, l10, l20⟩) 114 (0, 0)) := heap_alloc_new _ _
  have hGv : (Value.slice (some ⟨g0, 0, none⟩) n c).ownBlock ≠ some wr.heap.size := fun e => by
    have : g0 = wr.heap.size := by simpa [Value.ownBlock] using e
    omega
  have hGs : wr.heap.size < ((wr.alloc (.cells #[.slice A2 ds0.length q2, .int .i64 s10, .int .i64 s20, .int .i64 l10, .int .i64 l20] 114)).drew).heap.size := (Array.getElem?_eq_some_iff.1 hGc).1
  have hG1 := gb_heap hg1 hGs (fun e => hGv e.symm) hGc
  have hb1' : v1.ownBlock = (Value.slice (some ⟨g0, 0, none⟩) n c).ownBlock ∨ v1.ownBlock = some ((wr.alloc (.cells #[.slice A2 ds0.length q2, .int .i64 s10, .int .i64 s20, .int .i64 l10, .int .i64 l20] 114)).drew).heap.size := hb1
  obtain ⟨gb, X, B, hatX, HM⟩ := (ho.out.on (((Below.refl wr.heap.size wr).alloc (Nat.le_refl _) (.cells #[.slice A2 ds0.length q2, .int .i64 s10, .int .i64 s20, .int .i64 l10, .int .i64 l20] 114)).drew)).big hdne.out hGc ho.out.bel.size hGv hg1 hown1 hb1' (mar := mar)
  have hv1 : Hid (∃ g, v1.ownBlock = some g) := by
    rcases hb1 with h | h
    · exact ⟨g0, h⟩
    · exact ⟨_, h⟩
  have hs2 : Hid (s20 = X.length + (⟨#[]⟩ : ByteArray).size) := by
    show _ = _
    have := hatX.s2
    simp only at this
    rw [this]; rfl
  have HM2 := Lib.hid HM
  clear HM
  have hx0 : Hid ((x : Int) - 1 + 1 = (pre.length : Int)) := by
    show _ = _
    rw [Hxl.out]; omega
  have d1 := blk_cell hG1 1
  have d2 := blk_cell hG1 2
  simp [pC] at d1 d2
  clear hGc hGv hGs hG1 hb1' hb1 hown1 hg1 hown hpre hpost hone c0 c1 c2 c3 c4 hatX y5 hwx hx1
  go_wp2_with fail
  rename_i K hK
  refine mid_loop hok HM2 hs2 hx0 hv1 _ ?_
  intro a w' h
  cases h with
  | mk x1 x6 x8 x9 x10 x11 x12 x13 x14 x15 x51 x52 x53 x54 x55 x56 x57 x58 x59 x60 x61 x62 x63 x64 x65 x66 x67 x68 x69 x70 x71 x72 x73 x74 x75 x76 x77 x78 x79 x80 x81 x82 x83 x84 x85 x86 x87 x88 x89 x90 x91 x92 x93 x94 x95 x96 x97 x98 x99 x100 x101 x102 x103 x104 x105 x106 x107 x108 x109 x110 x111 x112 x113 x114 x115 x116 x117 x118 x119 x120 x121 x122 x123 x124 x125 x126 x127 x128 x129 x130 x131 x132 x133 x134 x135 x136 x137 x138 x139 x140 x141 x142 x143 x144 x145 x146 x147 x148 x149 x150 x151 x152 x153 x154 x155 x156 x157 x158 x159 x160 x161 x162 x163 x164 x165 x166 x167 x168 x169 x170 x171 x172 x173 x174 x175 x176 x177 x178 x179 x180 x181 x182 x183 x184 x185 x186 x187 x188 x189 x190 x191 x192 x193 x194 x195 x196 x197 x198 x199 x200 x201 x202 x203 x204 x205 x206 x207 x208 x209 x210 x211 x212 x213 x214 x215 x216 x217 x218 x219 x220 x221 x222 x223 x224 x225 x226 x227 x228 x229 x230 x231 x232 x233 x234 x235 x236 x237 x238 x239 x240 x241 x242 x243 x244 x245 x246 x247 x248 x249 x250 x251 x252 x253 x254 x255 x256 x257 x258 x259 x260 x261 x262 x263 x264 x265 x266 x267 x268 x269 x270 x271 x272 x273 x274 x275 x276 x277 x278 x279 x280 x281 x282 x283 x284 x285 x286 x287 x288 x289 x290 x291 x292 x293 x294 x295 x296 x297 x298 x299 x300 x301 x302 x303 x304 x305 x306 x307 x308 x309 x310 x311 x312 x313 x314 x315 x316 x317 x318 x319 x320 x321 x322 x323 x324 x325 x326 x327 x328 x329 x330 x331 x332 x333 x334 x335 x336 x337 x338 x339 x340 x341 x342 x343 x344 x345 w' h =>
    obtain ⟨x', pre', rfl, hx', HO'⟩ := h
    obtain ⟨A', c', hv', -⟩ := HO'.out.row.pat.rd pvP_len
    obtain ⟨x2, hx2⟩ : ∃ x2 : Nat, x' + 1 = (x2 : Int) := ⟨pre'.length, hx'.out⟩
    have hk2 : Hid (x2 = pre'.length ∧ (pre' ++ post).length = pre'.length + post.length) := by
      have := hx'.out
      exact ⟨by omega, List.length_append⟩
    have Hv' := Lib.hid hv'
    have hxb : x' ≤ 20000000 := by
      have h1 := HO'.out.wt
      have h2 := hok.out.W9
      have := hx'.out
      omega
    have hxb2 : -1 ≤ x' := by have := hx'.out; omega
    clear hv' hx' HM2 hs2 hx0 hv1
    refine hK _ _ ?_
    go_wp2_with fail
    exact FrOu.mk _ _ _ _ _ _ _ _ _ _ _ _ _ _ _ _ _ _ _ _ _ _ _ _ _ _ _ _ _ _ _ _ _ _ _ _ _ _ _ _ _ _ _ _ _ _ _ _ _ _ _ _ _ _ _ _ _ _ _ _ _ _ _ _ _ _ _ _ _ _ _ _ _ _ _ _ _ _ _ _ _ _ _ _ _ _ _ _ _ _ _ _ _ _ _ _ _ _ _ _ _ _ _ _ _ _ _ _ _ _ _ _ _ _ _ _ _ _ _ _ _ _ _ _ _ _ _ _ _ _ _ _ _ _ _ _ _ _ _ _ _ _ _ _ _ _ _ _ _ _ _ _ _ _ _ _ _ _ _ _ _ _ _ _ _ _ _ _ _ _ _ _ _ _ _ _ _ _ _ _ _ _ _ _ _ _ _ _ _ _ _ _ _ _ _ _ _ _ _ _ _ _ _ _ _ _ _ _ _ _ _ _ _ _ _ _ _ _ _ _ _ _ _ _ _ _ _ _ _ _ _ _ _ _ _ _ _ _ _ _ _ _ _ _ _ _ _ _ _ _ _ _ _ _ _ _ _ _ _ _ _ _ _ _ _ _ _ _ _ _ _ _ _ _ _ _ _ _ _ _ _ _ _ _ _ _ _ _ _ _ _ _ _ _ _ _ _ _ _ _ _ _ _ _ _ _ _ _ _ _ _ _ _ _ _ _ _ _ _ _ _ _ _ _ _ _ _ _ _ _ _ _ _ _ _ _ _ _ ⟨A', _, c', x2, pre', post, Hv'.out, rfl, hk2, by rw [← Hv'.out]; exact HO', by simp⟩
end Go.Proofs.YtjebgfpcmooniaaGreatDoor

namespace Go.Proofs.YtjebgfpcmooniaaGreatDoor
open Go Go.RowKit

set_option maxRecDepth 100000 in
set_option maxHeartbeats 4000000 in
theorem out_loop {w0 wr : World} {gd : Nat} {tmo cost dist : Int} {th de mar bits W Wd M : Nat} {A : Option Addr} {n c x : Nat} {pre post : List (Value × P)} {T T' : List UInt8} {u2 u3 u4 u7 u8 u9 u10 u11 u12 u13 u14 u15 u16 u17 u18 u19 u20 u21 u22 u23 u24 u25 u26 u27 u28 u29 u30 u31 u32 u33 u34 u35 u36 u37 u38 u39 u40 u41 u42 u43 u44 u45 u46 u47 u48 u49 u50 u51 u52 u53 u54 u55 u56 u57 u58 u59 u60 u61 u62 u63 u64 u65 u66 u67 u68 u69 u70 u71 u72 u73 u74 u75 u76 u77 u78 u79 u80 u81 u82 u83 u84 u85 u86 u87 u88 u89 u90 u91 u92 u93 u94 u95 u96 u97 u98 u99 u100 u101 u102 u103 u104 u105 u106 u107 u108 u109 u110 u111 u112 u113 u114 u115 u116 u117 u118 u119 u120 u121 u122 u123 u124 u125 u126 u127 u128 u129 u130 u131 u132 u133 u134 u135 u136 u137 u138 u139 u140 u141 u142 u143 u144 u145 u146 u147 u148 u149 u150 u151 u152 u153 u154 u155 u156 u157 u158 u159 u160 u161 u162 u163 u164 u165 u166 u167 u168 u169 u170 u171 u172 u173 u174 u175 u176 u177 u178 u179 u180 u181 u182 u183 u184 u185 u186 u187 u188 u189 u190 u191 u192 u193 u194 u195 u196 u197 u198 u199 u200 u201 u202 u203 u204 u205 u206 u207 u208 u209 u210 u211 u212 u213 u214 u215 u216 u217 u218 u219 u220 u221 u222 u223 u224 u225 u226 u227 u228 u229 u230 u231 u232 u233 u234 u235 u236 u237 u238 u239 u240 u241 u242 u243 u244 u245 u246 u247 u248 u249 u250 u251 u252 u253 u254 u255 u256 u257 u258 u259 u260 u261 u262 u263 u264 u265 u266 u267 u268 u269 u270 u271 u272 u273 u274 u275 u276 u277 u278 u279 u280 u281 u282 u283 u284 u285 u286 u287 u288 u289 u290 u291 u292 u293 u294 u295 u296 u297 u298 u299 u300 u301 u302 u303 u304 u305 u306 u307 u308 u309 u310 u311 u312 u313 u314 u315 u316 u317 u318 u319 u320 u321 u322 u323 u324 u325 u326 u327 u328 u329 u330 u331 u332 u333 u334 u335 u336 u337 u338 u339 u340 u341 u342 u343 u344 u345 u346 : Value} (hok : Hid (SpOk w0 gd tmo cost dist th de mar bits W Wd M)) (hk : Hid (x = pre.length ∧ n = pre.length + (post).length)) (ho : Hid (OutR w0 wr W Wd M (.slice A n c) pre (post) T T')) (Q : Exit → Act → World → Prop) (hexit : ∀ a w', (FrOu gd bits u2 u3 u4 u16 u17 u18 u19 u346 (OuX w0 W Wd M T T')) a w' → Q (.exit 0) a w') :
    Code.wp Tryz.prog (.loop round0) Q { tmps := #[.pointer (some ⟨gd, 0, none⟩), .slice A n c, u2, u3, u4, .int .i64 bits, .int .i64 x, u7, u8, u9, u10, u11, u12, u13, u14, u15, u16, u17, u18, u19, u20, u21, u22, u23, u24, u25, u26, u27, u28, u29, u30, u31, u32, u33, u34, u35, u36, u37, u38, u39, u40, u41, u42, u43, u44, u45, u46, u47, u48, u49, u50, u51, u52, u53, u54, u55, u56, u57, u58, u59, u60, u61, u62, u63, u64, u65, u66, u67, u68, u69, u70, u71, u72, u73, u74, u75, u76, u77, u78, u79, u80, u81, u82, u83, u84, u85, u86, u87, u88, u89, u90, u91, u92, u93, u94, u95, u96, u97, u98, u99, u100, u101, u102, u103, u104, u105, u106, u107, u108, u109, u110, u111, u112, u113, u114, u115, u116, u117, u118, u119, u120, u121, u122, u123, u124, u125, u126, u127, u128, u129, u130, u131, u132, u133, u134, u135, u136, u137, u138, u139, u140, u141, u142, u143, u144, u145, u146, u147, u148, u149, u150, u151, u152, u153, u154, u155, u156, u157, u158, u159, u160, u161, u162, u163, u164, u165, u166, u167, u168, u169, u170, u171, u172, u173, u174, u175, u176, u177, u178, u179, u180, u181, u182, u183, u184, u185, u186, u187, u188, u189, u190, u191, u192, u193, u194, u195, u196, u197, u198, u199, u200, u201, u202, u203, u204, u205, u206, u207, u208, u209, u210, u211, u212, u213, u214, u215, u216, u217, u218, u219, u220, u221, u222, u223, u224, u225, u226, u227, u228, u229, u230, u231, u232, u233, u234, u235, u236, u237, u238, u239, u240, u241, u242, u243, u244, u245, u246, u247, u248, u249, u250, u251, u252, u253, u254, u255, u256, u257, u258, u259, u260, u261, u262, u263, u264, u265, u266, u267, u268, u269, u270, u271, u272, u273, u274, u275, u276, u277, u278, u279, u280, u281, u282, u283, u284, u285, u286, u287, u288, u289, u290, u291, u292, u293, u294, u295, u296, u297, u298, u299, u300, u301, u302, u303, u304, u305, u306, u307, u308, u309, u310, u311, u312, u313, u314, u315, u316, u317, u318, u319, u320, u321, u322, u323, u324, u325, u326, u327, u328, u329, u330, u331, u332, u333, u334, u335, u336, u337, u338, u339, u340, u341, u342, u343, u344, u345, u346], defers := [] } wr := by
  refine wp_loop_ghost (fun m a w' => (FrOu gd bits u2 u3 u4 u16 u17 u18 u19 u346 (OuS w0 W Wd M T T' m)) a w') (post.length + 1) ?_ ?_
  · exact FrOu.mk (.slice A n c) (.int .i64 x) u7 u8 u9 u10 u11 u12 u13 u14 u15 u20 u21 u22 u23 u24 u25 u26 u27 u28 u29 u30 u31 u32 u33 u34 u35 u36 u37 u38 u39 u40 u41 u42 u43 u44 u45 u46 u47 u48 u49 u50 u51 u52 u53 u54 u55 u56 u57 u58 u59 u60 u61 u62 u63 u64 u65 u66 u67 u68 u69 u70 u71 u72 u73 u74 u75 u76 u77 u78 u79 u80 u81 u82 u83 u84 u85 u86 u87 u88 u89 u90 u91 u92 u93 u94 u95 u96 u97 u98 u99 u100 u101 u102 u103 u104 u105 u106 u107 u108 u109 u110 u111 u112 u113 u114 u115 u116 u117 u118 u119 u120 u121 u122 u123 u124 u125 u126 u127 u128 u129 u130 u131 u132 u133 u134 u135 u136 u137 u138 u139 u140 u141 u142 u143 u144 u145 u146 u147 u148 u149 u150 u151 u152 u153 u154 u155 u156 u157 u158 u159 u160 u161 u162 u163 u164 u165 u166 u167 u168 u169 u170 u171 u172 u173 u174 u175 u176 u177 u178 u179 u180 u181 u182 u183 u184 u185 u186 u187 u188 u189 u190 u191 u192 u193 u194 u195 u196 u197 u198 u199 u200 u201 u202 u203 u204 u205 u206 u207 u208 u209 u210 u211 u212 u213 u214 u215 u216 u217 u218 u219 u220 u221 u222 u223 u224 u225 u226 u227 u228 u229 u230 u231 u232 u233 u234 u235 u236 u237 u238 u239 u240 u241 u242 u243 u244 u245 u246 u247 u248 u249 u250 u251 u252 u253 u254 u255 u256 u257 u258 u259 u260 u261 u262 u263 u264 u265 u266 u267 u268 u269 u270 u271 u272 u273 u274 u275 u276 u277 u278 u279 u280 u281 u282 u283 u284 u285 u286 u287 u288 u289 u290 u291 u292 u293 u294 u295 u296 u297 u298 u299 u300 u301 u302 u303 u304 u305 u306 u307 u308 u309 u310 u311 u312 u313 u314 u315 u316 u317 u318 u319 u320 u321 u322 u323 u324 u325 u326 u327 u328 u329 u330 u331 u332 u333 u334 u335 u336 u337 u338 u339 u340 u341 u342 u343 u344 u345 _ ⟨A, n, c, x, pre, post, rfl, rfl, hk, ho, Nat.lt_succ_self _⟩
  · intro m a w' h
    cases h with
    | mk x1 x6 x7 x8 x9 x10 x11 x12 x13 x14 x15 x20 x21 x22 x23 x24 x25 x26 x27 x28 x29 x30 x31 x32 x33 x34 x35 x36 x37 x38 x39 x40 x41 x42 x43 x44 x45 x46 x47 x48 x49 x50 x51 x52 x53 x54 x55 x56 x57 x58 x59 x60 x61 x62 x63 x64 x65 x66 x67 x68 x69 x70 x71 x72 x73 x74 x75 x76 x77 x78 x79 x80 x81 x82 x83 x84 x85 x86 x87 x88 x89 x90 x91 x92 x93 x94 x95 x96 x97 x98 x99 x100 x101 x102 x103 x104 x105 x106 x107 x108 x109 x110 x111 x112 x113 x114 x115 x116 x117 x118 x119 x120 x121 x122 x123 x124 x125 x126 x127 x128 x129 x130 x131 x132 x133 x134 x135 x136 x137 x138 x139 x140 x141 x142 x143 x144 x145 x146 x147 x148 x149 x150 x151 x152 x153 x154 x155 x156 x157 x158 x159 x160 x161 x162 x163 x164 x165 x166 x167 x168 x169 x170 x171 x172 x173 x174 x175 x176 x177 x178 x179 x180 x181 x182 x183 x184 x185 x186 x187 x188 x189 x190 x191 x192 x193 x194 x195 x196 x197 x198 x199 x200 x201 x202 x203 x204 x205 x206 x207 x208 x209 x210 x211 x212 x213 x214 x215 x216 x217 x218 x219 x220 x221 x222 x223 x224 x225 x226 x227 x228 x229 x230 x231 x232 x233 x234 x235 x236 x237 x238 x239 x240 x241 x242 x243 x244 x245 x246 x247 x248 x249 x250 x251 x252 x253 x254 x255 x256 x257 x258 x259 x260 x261 x262 x263 x264 x265 x266 x267 x268 x269 x270 x271 x272 x273 x274 x275 x276 x277 x278 x279 x280 x281 x282 x283 x284 x285 x286 x287 x288 x289 x290 x291 x292 x293 x294 x295 x296 x297 x298 x299 x300 x301 x302 x303 x304 x305 x306 x307 x308 x309 x310 x311 x312 x313 x314 x315 x316 x317 x318 x319 x320 x321 x322 x323 x324 x325 x326 x327 x328 x329 x330 x331 x332 x333 x334 x335 x336 x337 x338 x339 x340 x341 x342 x343 x344 x345 w' h =>
      obtain ⟨A, n, c, x, pre, post, rfl, rfl, hk, ho, hlt⟩ := h
      cases post with
      | nil => exact out_exit (post := []) (p0 := (.slice none 0 0, noP)) hok hk ho _ Q hexit
      | cons p0 post =>
        by_cases hbl : p0.2.l1 ≤ (bits : Int)
        · exact out_skip hok hk ho hbl _ Q (fun a w'' k => ⟨_, hlt, k⟩)
        · by_cases hcx : c = x + 1
          · exact out_big0 hok hk ho (by omega) hcx _ Q (fun a w'' k => ⟨_, hlt, k⟩)
          · exact out_big1 hok hk ho (by omega) hcx _ Q (fun a w'' k => ⟨_, hlt, k⟩)

set_option maxRecDepth 100000 in
set_option maxHeartbeats 4000000 in
theorem split_max {w0 w : World} {gd : Nat} {tmo cost dist : Int} {th de mar bits W Wd M : Nat} {A : Option Addr} {n c : Nat} {L : List (Value × P)} {T T' : List UInt8} (h : Hid (SmIn w0 w gd tmo cost dist th de mar bits W Wd M (.slice A n c) L T T')) :
    Calls Tryz.prog 97 #[.pointer (some ⟨gd, 0, none⟩), .slice A n c] w (SmPost w0 W Wd M T T') := by
  have hdm : DmpAt w0 gd tmo cost dist mar bits th de := by
    have k := h.out.dmp
    unfold DmpAt at k ⊢
    rw [← h.out.bel.block gd h.out.gd]
    exact k
  have hok : Hid (SpOk w0 gd tmo cost dist th de mar bits W Wd M) := ⟨hdm, h.out.gd, h.out.mar1, h.out.mar8, h.out.bits1, h.out.bits2, h.out.W9, h.out.Wd9, h.out.M9⟩
  have hk : Hid ((0 : Nat) = ([] : List (Value × P)).length ∧ n = ([] : List (Value × P)).length + L.length) := ⟨rfl, by have := h.out.row.pat.len2; simp [this]⟩
  have ho : Hid (OutR w0 w W Wd M (.slice A n c) [] L T T') := ⟨h.out.row, h.out.bel, ⟨T, .nil h.out.ex.small, h.out.ex⟩, by simpa using h.out.wt, fun x hx => (h.out.sm x hx).2, fun x hx => (h.out.sm x hx).1⟩
  have y5 := blk_cell h.out.dmp 5
  simp at y5
  clear hdm
  go_enter Tryz.func97, Tryz.ntmps97
  go_wp2
  refine out_loop (x := 0) hok hk ho _ ?_
  intro a w' hx
  cases hx with
  | mk x1 x6 x7 x8 x9 x10 x11 x12 x13 x14 x15 x20 x21 x22 x23 x24 x25 x26 x27 x28 x29 x30 x31 x32 x33 x34 x35 x36 x37 x38 x39 x40 x41 x42 x43 x44 x45 x46 x47 x48 x49 x50 x51 x52 x53 x54 x55 x56 x57 x58 x59 x60 x61 x62 x63 x64 x65 x66 x67 x68 x69 x70 x71 x72 x73 x74 x75 x76 x77 x78 x79 x80 x81 x82 x83 x84 x85 x86 x87 x88 x89 x90 x91 x92 x93 x94 x95 x96 x97 x98 x99 x100 x101 x102 x103 x104 x105 x106 x107 x108 x109 x110 x111 x112 x113 x114 x115 x116 x117 x118 x119 x120 x121 x122 x123 x124 x125 x126 x127 x128 x129 x130 x131 x132 x133 x134 x135 x136 x137 x138 x139 x140 x141 x142 x143 x144 x145 x146 x147 x148 x149 x150 x151 x152 x153 x154 x155 x156 x157 x158 x159 x160 x161 x162 x163 x164 x165 x166 x167 x168 x169 x170 x171 x172 x173 x174 x175 x176 x177 x178 x179 x180 x181 x182 x183 x184 x185 x186 x187 x188 x189 x190 x191 x192 x193 x194 x195 x196 x197 x198 x199 x200 x201 x202 x203 x204 x205 x206 x207 x208 x209 x210 x211 x212 x213 x214 x215 x216 x217 x218 x219 x220 x221 x222 x223 x224 x225 x226 x227 x228 x229 x230 x231 x232 x233 x234 x235 x236 x237 x238 x239 x240 x241 x242 x243 x244 x245 x246 x247 x248 x249 x250 x251 x252 x253 x254 x255 x256 x257 x258 x259 x260 x261 x262 x263 x264 x265 x266 x267 x268 x269 x270 x271 x272 x273 x274 x275 x276 x277 x278 x279 x280 x281 x282 x283 x284 x285 x286 x287 x288 x289 x290 x291 x292 x293 x294 x295 x296 x297 x298 x299 x300 x301 x302 x303 x304 x305 x306 x307 x308 x309 x310 x311 x312 x313 x314 x315 x316 x317 x318 x319 x320 x321 x322 x323 x324 x325 x326 x327 x328 x329 x330 x331 x332 x333 x334 x335 x336 x337 x338 x339 x340 x341 x342 x343 x344 x345 w' hx =>
    obtain ⟨pre, HD⟩ := hx
    go_wp2_with fail
    go_ret
    obtain ⟨d1, d2, d3, d4, d5⟩ := HD.out
    exact ⟨_, pre, rfl, d1, d2, d3, d4, d5⟩
end Go.Proofs.YtjebgfpcmooniaaGreatDoor
