/- PatchSplitMax: its inner loop, whole. PatchSplitMax: the middle loop: what it hands on. -/
import Derived.Test.YtjebgfpcmooniaaGreatDoorZSpInC
import Derived.Test.YtjebgfpcmooniaaGreatDoorZSpInX
import Derived.Test.YtjebgfpcmooniaaGreatDoorZSpBase
namespace Go.Proofs.YtjebgfpcmooniaaGreatDoor
open Go Go.RowKit

set_option maxRecDepth 100000 in
set_option maxHeartbeats 4000000 in
theorem in_loop {w0 wr : World} {gd : Nat} {tmo cost dist : Int} {th de mar bits W Wd M : Nat} {v dvb dv : Value} {G gb G2 m : Nat} {L : List (Value × P)} {X prec B T T' : List UInt8} {R : List D} {cur : P} {e : Bool} {S1 S2 : Int} {Ps Qs : List P} {u1 u2 u3 u4 u6 u10 u13 u14 u15 u16 u17 u18 u19 u20 u21 u22 u23 u24 u25 u26 u27 u28 u29 u30 u31 u32 u33 u34 u35 u36 u37 u38 u39 u40 u41 u42 u43 u44 u45 u46 u47 u48 u49 u50 u51 u52 u53 u54 u55 u56 u57 u58 u59 u60 u61 u62 u63 u64 u65 u66 u67 u68 u69 u70 u71 u72 u73 u74 u75 u76 u77 u78 u79 u80 u81 u82 u83 u84 u85 u86 u87 u88 u89 u90 u91 u92 u93 u94 u95 u96 u97 u98 u99 u100 u101 u102 u103 u104 u105 u106 u107 u108 u109 u110 u111 u112 u113 u114 u115 u116 u117 u118 u119 u120 u121 u122 u123 u124 u125 u126 u127 u128 u129 u130 u131 u132 u133 u134 u135 u136 u137 u138 u139 u140 u141 u142 u143 u144 u145 u146 u147 u148 u149 u150 u151 u152 u153 u154 u155 u156 u157 u158 u159 u160 u161 u162 u163 u164 u165 u166 u167 u168 u169 u170 u171 u172 u173 u174 u175 u176 u177 u178 u179 u180 u181 u182 u183 u184 u185 u186 u187 u188 u189 u190 u191 u192 u193 u194 u195 u196 u197 u198 u199 u200 u201 u202 u203 u204 u205 u206 u207 u208 u209 u210 u211 u212 u213 u214 u215 u216 u217 u218 u219 u220 u221 u222 u223 u224 u225 u226 u227 u228 u229 u230 u231 u232 u233 u234 u235 u236 u237 u238 u239 u240 u241 u242 u243 u244 u245 u246 u247 u248 u249 u250 u251 u252 u253 u254 u255 u256 u257 u258 u259 u260 u261 u262 u263 u264 u265 u266 u267 u268 u269 u270 u271 u272 u273 u274 u275 u276 u277 u278 u279 u280 u281 u282 u283 u284 u285 u286 u287 u288 u289 u290 u291 u292 u293 u294 u295 u296 u297 u298 u299 u300 u301 u302 u303 u304 u305 u306 u307 u308 u309 u310 u311 u312 u313 u314 u315 u316 u317 u318 u319 u320 u321 u322 u323 u324 u325 u326 u327 u328 u329 u330 u331 u332 u333 u334 u335 u336 u337 u338 u339 u340 u341 u342 u343 u344 u345 u346 : Value} (hok : Hid (SpOk w0 gd tmo cost dist th de mar bits W Wd M)) (hi : Hid (SpInv M T T' Ps X prec R B Qs)) (hin : Hid (InR w0 wr mar v dvb dv G gb G2 m L X prec R R cur e)) (hS : Hid (S2 = X.length + (tgtL cur.ds).length)) (hw : wtD R ≤ Wd) (Q : Exit → Act → World → Prop)
    (hexit : ∀ a w', (FrIn gd bits G G2 u1 u2 u3 u4 u6 u10 u15 u16 u17 u18 u19 u20 u21 u22 u23 u24 u25 u26 u27 u28 u29 u30 u31 u32 u33 u34 u35 u36 u37 u38 u39 u40 u41 u42 u43 u44 u45 u46 u47 u48 u49 u50 u51 u52 u53 u54 u55 u56 u57 u58 u59 u60 u61 u62 u63 u64 u65 u66 u67 u68 u69 u70 u71 u72 u73 u74 u75 u76 u77 u78 u79 u80 u81 u244 u245 u246 u247 u248 u249 u250 u251 u252 u253 u254 u255 u256 u257 u258 u259 u260 u261 u262 u263 u264 u265 u266 u267 u268 u269 u270 u271 u272 u273 u274 u275 u276 u277 u278 u279 u280 u281 u282 u283 u284 u285 u286 u287 u288 u289 u290 u291 u292 u293 u294 u295 u296 u297 u298 u299 u300 u301 u302 u303 u304 u305 u306 u307 u308 u309 u310 u311 u312 u313 u314 u315 u316 u317 u318 u319 u320 u321 u322 u323 u324 u325 u326 u327 u328 u329 u330 u331 u332 u333 u334 u335 u336 u337 u338 u339 u340 u341 u342 u343 u344 u345 u346 (InX w0 mar bits v G gb G2 m L X prec R)) a w' → Q (.exit 4) a w') :
    Code.wp Tryz.prog (.loop round4) Q { tmps := #[.pointer (some ⟨gd, 0, none⟩), u1, u2, u3, u4, .int .i64 bits, u6, .pointer (some ⟨G, 0, none⟩), .int .i64 S1, .int .i64 S2, u10, .pointer (some ⟨G2, 0, none⟩), .bool e, u13, u14, u15, u16, u17, u18, u19, u20, u21, u22, u23, u24, u25, u26, u27, u28, u29, u30, u31, u32, u33, u34, u35, u36, u37, u38, u39, u40, u41, u42, u43, u44, u45, u46, u47, u48, u49, u50, u51, u52, u53, u54, u55, u56, u57, u58, u59, u60, u61, u62, u63, u64, u65, u66, u67, u68, u69, u70, u71, u72, u73, u74, u75, u76, u77, u78, u79, u80, u81, u82, u83, u84, u85, u86, u87, u88, u89, u90, u91, u92, u93, u94, u95, u96, u97, u98, u99, u100, u101, u102, u103, u104, u105, u106, u107, u108, u109, u110, u111, u112, u113, u114, u115, u116, u117, u118, u119, u120, u121, u122, u123, u124, u125, u126, u127, u128, u129, u130, u131, u132, u133, u134, u135, u136, u137, u138, u139, u140, u141, u142, u143, u144, u145, u146, u147, u148, u149, u150, u151, u152, u153, u154, u155, u156, u157, u158, u159, u160, u161, u162, u163, u164, u165, u166, u167, u168, u169, u170, u171, u172, u173, u174, u175, u176, u177, u178, u179, u180, u181, u182, u183, u184, u185, u186, u187, u188, u189, u190, u191, u192, u193, u194, u195, u196, u197, u198, u199, u200, u201, u202, u203, u204, u205, u206, u207, u208, u209, u210, u211, u212, u213, u214, u215, u216, u217, u218, u219, u220, u221, u222, u223, u224, u225, u226, u227, u228, u229, u230, u231, u232, u233, u234, u235, u236, u237, u238, u239, u240, u241, u242, u243, u244, u245, u246, u247, u248, u249, u250, u251, u252, u253, u254, u255, u256, u257, u258, u259, u260, u261, u262, u263, u264, u265, u266, u267, u268, u269, u270, u271, u272, u273, u274, u275, u276, u277, u278, u279, u280, u281, u282, u283, u284, u285, u286, u287, u288, u289, u290, u291, u292, u293, u294, u295, u296, u297, u298, u299, u300, u301, u302, u303, u304, u305, u306, u307, u308, u309, u310, u311, u312, u313, u314, u315, u316, u317, u318, u319, u320, u321, u322, u323, u324, u325, u326, u327, u328, u329, u330, u331, u332, u333, u334, u335, u336, u337, u338, u339, u340, u341, u342, u343, u344, u345, u346], defers := [] } wr := by
  refine wp_loop_ghost (fun n a w' => (FrIn gd bits G G2 u1 u2 u3 u4 u6 u10 u15 u16 u17 u18 u19 u20 u21 u22 u23 u24 u25 u26 u27 u28 u29 u30 u31 u32 u33 u34 u35 u36 u37 u38 u39 u40 u41 u42 u43 u44 u45 u46 u47 u48 u49 u50 u51 u52 u53 u54 u55 u56 u57 u58 u59 u60 u61 u62 u63 u64 u65 u66 u67 u68 u69 u70 u71 u72 u73 u74 u75 u76 u77 u78 u79 u80 u81 u244 u245 u246 u247 u248 u249 u250 u251 u252 u253 u254 u255 u256 u257 u258 u259 u260 u261 u262 u263 u264 u265 u266 u267 u268 u269 u270 u271 u272 u273 u274 u275 u276 u277 u278 u279 u280 u281 u282 u283 u284 u285 u286 u287 u288 u289 u290 u291 u292 u293 u294 u295 u296 u297 u298 u299 u300 u301 u302 u303 u304 u305 u306 u307 u308 u309 u310 u311 u312 u313 u314 u315 u316 u317 u318 u319 u320 u321 u322 u323 u324 u325 u326 u327 u328 u329 u330 u331 u332 u333 u334 u335 u336 u337 u338 u339 u340 u341 u342 u343 u344 u345 u346 (InS w0 mar v G gb G2 m L X prec R n)) a w') (wtD R + 1) ?_ ?_
  · exact FrIn.mk (.int .i64 S1) (.int .i64 S2) (.bool e) u13 u14 u82 u83 u84 u85 u86 u87 u88 u89 u90 u91 u92 u93 u94 u95 u96 u97 u98 u99 u100 u101 u102 u103 u104 u105 u106 u107 u108 u109 u110 u111 u112 u113 u114 u115 u116 u117 u118 u119 u120 u121 u122 u123 u124 u125 u126 u127 u128 u129 u130 u131 u132 u133 u134 u135 u136 u137 u138 u139 u140 u141 u142 u143 u144 u145 u146 u147 u148 u149 u150 u151 u152 u153 u154 u155 u156 u157 u158 u159 u160 u161 u162 u163 u164 u165 u166 u167 u168 u169 u170 u171 u172 u173 u174 u175 u176 u177 u178 u179 u180 u181 u182 u183 u184 u185 u186 u187 u188 u189 u190 u191 u192 u193 u194 u195 u196 u197 u198 u199 u200 u201 u202 u203 u204 u205 u206 u207 u208 u209 u210 u211 u212 u213 u214 u215 u216 u217 u218 u219 u220 u221 u222 u223 u224 u225 u226 u227 u228 u229 u230 u231 u232 u233 u234 u235 u236 u237 u238 u239 u240 u241 u242 u243 _ ⟨S1, S2, e, dvb, dv, R, cur, rfl, rfl, rfl, hin, hS, Nat.lt_succ_self _⟩
  · intro n a w' h
    cases h with
    | mk x8 x9 x12 x13 x14 x82 x83 x84 x85 x86 x87 x88 x89 x90 x91 x92 x93 x94 x95 x96 x97 x98 x99 x100 x101 x102 x103 x104 x105 x106 x107 x108 x109 x110 x111 x112 x113 x114 x115 x116 x117 x118 x119 x120 x121 x122 x123 x124 x125 x126 x127 x128 x129 x130 x131 x132 x133 x134 x135 x136 x137 x138 x139 x140 x141 x142 x143 x144 x145 x146 x147 x148 x149 x150 x151 x152 x153 x154 x155 x156 x157 x158 x159 x160 x161 x162 x163 x164 x165 x166 x167 x168 x169 x170 x171 x172 x173 x174 x175 x176 x177 x178 x179 x180 x181 x182 x183 x184 x185 x186 x187 x188 x189 x190 x191 x192 x193 x194 x195 x196 x197 x198 x199 x200 x201 x202 x203 x204 x205 x206 x207 x208 x209 x210 x211 x212 x213 x214 x215 x216 x217 x218 x219 x220 x221 x222 x223 x224 x225 x226 x227 x228 x229 x230 x231 x232 x233 x234 x235 x236 x237 x238 x239 x240 x241 x242 x243 w' h =>
      obtain ⟨S1, S2, e, dvb, dv, R', cur, rfl, rfl, rfl, HIn, HS, hlt⟩ := h
      cases R' with
      | nil => exact in_exit_nil (r := []) hok hi HIn HS hw _ Q hexit
      | cons d r =>
        obtain ⟨op, tx⟩ := d
        by_cases hl : cur.l1 < bits - mar
        · have hJ : ∀ a w'', (FrIn gd bits G G2 u1 u2 u3 u4 u6 u10 u15 u16 u17 u18 u19 u20 u21 u22 u23 u24 u25 u26 u27 u28 u29 u30 u31 u32 u33 u34 u35 u36 u37 u38 u39 u40 u41 u42 u43 u44 u45 u46 u47 u48 u49 u50 u51 u52 u53 u54 u55 u56 u57 u58 u59 u60 u61 u62 u63 u64 u65 u66 u67 u68 u69 u70 u71 u72 u73 u74 u75 u76 u77 u78 u79 u80 u81 u244 u245 u246 u247 u248 u249 u250 u251 u252 u253 u254 u255 u256 u257 u258 u259 u260 u261 u262 u263 u264 u265 u266 u267 u268 u269 u270 u271 u272 u273 u274 u275 u276 u277 u278 u279 u280 u281 u282 u283 u284 u285 u286 u287 u288 u289 u290 u291 u292 u293 u294 u295 u296 u297 u298 u299 u300 u301 u302 u303 u304 u305 u306 u307 u308 u309 u310 u311 u312 u313 u314 u315 u316 u317 u318 u319 u320 u321 u322 u323 u324 u325 u326 u327 u328 u329 u330 u331 u332 u333 u334 u335 u336 u337 u338 u339 u340 u341 u342 u343 u344 u345 u346 (InS w0 mar v G gb G2 m L X prec R (wtD (⟨op, tx⟩ :: r)))) a w'' → ∃ n', n' < n ∧ (FrIn gd bits G G2 u1 u2 u3 u4 u6 u10 u15 u16 u17 u18 u19 u20 u21 u22 u23 u24 u25 u26 u27 u28 u29 u30 u31 u32 u33 u34 u35 u36 u37 u38 u39 u40 u41 u42 u43 u44 u45 u46 u47 u48 u49 u50 u51 u52 u53 u54 u55 u56 u57 u58 u59 u60 u61 u62 u63 u64 u65 u66 u67 u68 u69 u70 u71 u72 u73 u74 u75 u76 u77 u78 u79 u80 u81 u244 u245 u246 u247 u248 u249 u250 u251 u252 u253 u254 u255 u256 u257 u258 u259 u260 u261 u262 u263 u264 u265 u266 u267 u268 u269 u270 u271 u272 u273 u274 u275 u276 u277 u278 u279 u280 u281 u282 u283 u284 u285 u286 u287 u288 u289 u290 u291 u292 u293 u294 u295 u296 u297 u298 u299 u300 u301 u302 u303 u304 u305 u306 u307 u308 u309 u310 u311 u312 u313 u314 u315 u316 u317 u318 u319 u320 u321 u322 u323 u324 u325 u326 u327 u328 u329 u330 u331 u332 u333 u334 u335 u336 u337 u338 u339 u340 u341 u342 u343 u344 u345 u346 (InS w0 mar v G gb G2 m L X prec R n')) a w'' := fun a w'' k => ⟨_, hlt, k⟩
          have hop := ((HIn.out.small hi.out).2.2.2 _ (List.mem_cons_self ..)).2
          dsimp only at hop
          rcases (show op = 1 ∨ op = 0 ∨ op = -1 by omega) with rfl | rfl | rfl
          · exact in_ins hok hi HIn HS hw hl _ Q hJ
          · by_cases hsz : (tx.size : Int) ≤ bits - cur.l1 - mar
            · exact in_eqw hok hi HIn HS hw hl hsz _ Q hJ
            · exact in_eqc hok hi HIn HS hw hl (by omega) _ Q hJ
          · by_cases hb : ∃ d0, cur.ds = [d0] ∧ d0.op = 0 ∧ 2 * bits < tx.size
            · obtain ⟨d0, hb1, hb2, hb3⟩ := hb
              exact in_big hok hi HIn HS hw hl hb1 hb2 hb3 _ Q hJ
            · have hno : ∀ dd, cur.ds[0]? = some dd → cur.ds.length = 1 ∧ dd.op = 0 → tx.size ≤ 2 * bits := by
                intro dd h1 h2
                refine Nat.le_of_not_lt fun h3 => hb ⟨dd, ?_, h2.2, h3⟩
                have hll := h2.1
                cases hcd : cur.ds with
                | nil => rw [hcd] at hll; simp at hll
                | cons x t =>
                  rw [hcd] at hll h1
                  have : t = [] := List.length_eq_zero_iff.1 (by simpa using hll)
                  subst this
                  simp at h1
                  rw [h1]
              by_cases hsz : (tx.size : Int) ≤ bits - cur.l1 - mar
              · exact in_delw hok hi HIn HS hw hl hsz hno _ Q hJ
              · exact in_delc hok hi HIn HS hw hl (by omega) hno _ Q hJ
        · exact in_exit_len hok hi HIn HS hw (by omega) _ Q hexit
end Go.Proofs.YtjebgfpcmooniaaGreatDoor

namespace Go.Proofs.YtjebgfpcmooniaaGreatDoor
open Go Go.RowKit

/-- a frame of the middle loop -/
inductive FrMd (gd bits G : Nat) (u2 u3 u4 u16 u17 u18 u19 u20 u21 u22 u23 u24 u25 u26 u27 u28 u29 u30 u31 u32 u33 u34 u35 u36 u37 u38 u39 u40 u41 u42 u43 u44 u45 u46 u47 u48 u49 u50 u346 : Value) (rel : Value → Value → Value → Value → Value → World → Prop) : Act → World → Prop where
  | mk (x1 x6 x8 x9 x10 x11 x12 x13 x14 x15 x51 x52 x53 x54 x55 x56 x57 x58 x59 x60 x61 x62 x63 x64 x65 x66 x67 x68 x69 x70 x71 x72 x73 x74 x75 x76 x77 x78 x79 x80 x81 x82 x83 x84 x85 x86 x87 x88 x89 x90 x91 x92 x93 x94 x95 x96 x97 x98 x99 x100 x101 x102 x103 x104 x105 x106 x107 x108 x109 x110 x111 x112 x113 x114 x115 x116 x117 x118 x119 x120 x121 x122 x123 x124 x125 x126 x127 x128 x129 x130 x131 x132 x133 x134 x135 x136 x137 x138 x139 x140 x141 x142 x143 x144 x145 x146 x147 x148 x149 x150 x151 x152 x153 x154 x155 x156 x157 x158 x159 x160 x161 x162 x163 x164 x165 x166 x167 x168 x169 x170 x171 x172 x173 x174 x175 x176 x177 x178 x179 x180 x181 x182 x183 x184 x185 x186 x187 x188 x189 x190 x191 x192 x193 x194 x195 x196 x197 x198 x199 x200 x201 x202 x203 x204 x205 x206 x207 x208 x209 x210 x211 x212 x213 x214 x215 x216 x217 x218 x219 x220 x221 x222 x223 x224 x225 x226 x227 x228 x229 x230 x231 x232 x233 x234 x235 x236 x237 x238 x239 x240 x241 x242 x243 x244 x245 x246 x247 x248 x249 x250 x251 x252 x253 x254 x255 x256 x257 x258 x259 x260 x261 x262 x263 x264 x265 x266 x267 x268 x269 x270 x271 x272 x273 x274 x275 x276 x277 x278 x279 x280 x281 x282 x283 x284 x285 x286 x287 x288 x289 x290 x291 x292 x293 x294 x295 x296 x297 x298 x299 x300 x301 x302 x303 x304 x305 x306 x307 x308 x309 x310 x311 x312 x313 x314 x315 x316 x317 x318 x319 x320 x321 x322 x323 x324 x325 x326 x327 x328 x329 x330 x331 x332 x333 x334 x335 x336 x337 x338 x339 x340 x341 x342 x343 x344 x345 : Value) (w' : World) (h : rel x1 x6 x8 x9 x10 w') : FrMd gd bits G u2 u3 u4 u16 u17 u18 u19 u20 u21 u22 u23 u24 u25 u26 u27 u28 u29 u30 u31 u32 u33 u34 u35 u36 u37 u38 u39 u40 u41 u42 u43 u44 u45 u46 u47 u48 u49 u50 u346 rel { tmps := #[.pointer (some ⟨gd, 0, none⟩), x1, u2, u3, u4, .int .i64 bits, x6, .pointer (some ⟨G, 0, none⟩), x8, x9, x10, x11, x12, x13, x14, x15, u16, u17, u18, u19, u20, u21, u22, u23, u24, u25, u26, u27, u28, u29, u30, u31, u32, u33, u34, u35, u36, u37, u38, u39, u40, u41, u42, u43, u44, u45, u46, u47, u48, u49, u50, x51, x52, x53, x54, x55, x56, x57, x58, x59, x60, x61, x62, x63, x64, x65, x66, x67, x68, x69, x70, x71, x72, x73, x74, x75, x76, x77, x78, x79, x80, x81, x82, x83, x84, x85, x86, x87, x88, x89, x90, x91, x92, x93, x94, x95, x96, x97, x98, x99, x100, x101, x102, x103, x104, x105, x106, x107, x108, x109, x110, x111, x112, x113, x114, x115, x116, x117, x118, x119, x120, x121, x122, x123, x124, x125, x126, x127, x128, x129, x130, x131, x132, x133, x134, x135, x136, x137, x138, x139, x140, x141, x142, x143, x144, x145, x146, x147, x148, x149, x150, x151, x152, x153, x154, x155, x156, x157, x158, x159, x160, x161, x162, x163, x164, x165, x166, x167, x168, x169, x170, x171, x172, x173, x174, x175, x176, x177, x178, x179, x180, x181, x182, x183, x184, x185, x186, x187, x188, x189, x190, x191, x192, x193, x194, x195, x196, x197, x198, x199, x200, x201, x202, x203, x204, x205, x206, x207, x208, x209, x210, x211, x212, x213, x214, x215, x216, x217, x218, x219, x220, x221, x222, x223, x224, x225, x226, x227, x228, x229, x230, x231, x232, x233, x234, x235, x236, x237, x238, x239, x240, x241, x242, x243, x244, x245, x246, x247, x248, x249, x250, x251, x252, x253, x254, x255, x256, x257, x258, x259, x260, x261, x262, x263, x264, x265, x266, x267, x268, x269, x270, x271, x272, x273, x274, x275, x276, x277, x278, x279, x280, x281, x282, x283, x284, x285, x286, x287, x288, x289, x290, x291, x292, x293, x294, x295, x296, x297, x298, x299, x300, x301, x302, x303, x304, x305, x306, x307, x308, x309, x310, x311, x312, x313, x314, x315, x316, x317, x318, x319, x320, x321, x322, x323, x324, x325, x326, x327, x328, x329, x330, x331, x332, x333, x334, x335, x336, x337, x338, x339, x340, x341, x342, x343, x344, x345, u346], defers := [] } w'

/-- the middle loop, between two rounds; n counts what is left -/
def MdS (w0 : World) (mar W Wd M : Nat) (G gb : Nat) (post : List (Value × P)) (B T T' : List UInt8) (n : Nat) (v1 v6 v8 v9 v10 : Value) (w' : World) : Prop :=
  ∃ (x S1 S2 : Int) (pb : ByteArray) (dvb : Value) (pre : List (Value × P)) (X : List UInt8) (R : List D), v6 = .int .i64 x ∧ v8 = .int .i64 S1 ∧ v9 = .int .i64 S2 ∧ v10 = .string pb ∧ Hid (x + 1 = pre.length) ∧ Hid (S2 = X.length + pb.size) ∧ Hid (∃ g, v1.ownBlock = some g) ∧ Hid (MidR w0 w' mar W Wd M v1 dvb G gb pre post X (tb pb) R B T T') ∧ wtD R < n
def MdX (w0 : World) (W Wd M : Nat) (post : List (Value × P)) (T T' : List UInt8) (v1 v6 v8 v9 v10 : Value) (w' : World) : Prop :=
  ∃ (x : Int) (pre : List (Value × P)), v6 = .int .i64 x ∧ Hid (x + 1 = pre.length) ∧ Hid (OutR w0 w' W Wd M v1 pre post T T')
theorem wp_qp3 {c : Code} {J : Act → World → Prop} {Q : Exit → Act → World → Prop} {a : Act} {w : World} (h : Code.wp Tryz.prog c (Exit.inBlock 3 (Exit.then J (QP Q))) a w) : Code.wp Tryz.prog c (Exit.inBlock 3 (Exit.then J Q)) a w := by
  refine wp_mono h fun e a' w' hq => ?_
  cases e with
  | panic _ => exact hq.elim
  | exit n =>
    revert hq
    unfold Exit.inBlock
    dsimp only
    split <;> exact id
  | _ => exact hq
theorem InR.on {w0 wr w1 : World} {mar : Nat} {v dvb dv : Value} {G gb G2 m : Nat} {L : List (Value × P)} {X prec : List UInt8} {R R' : List D} {cur : P} {e : Bool} (hin : InR w0 wr mar v dvb dv G gb G2 m L X prec R R' cur e) (hb : Below wr.heap.size wr w1) : InR w0 w1 mar v dvb dv G gb G2 m L X prec R R' cur e :=
  ⟨hin.sc.on hb, hin.cu, hin.l1, hin.s2, hin.em, hin.wt, hin.go⟩
/-- a text in the last part of the smaller patch -/
theorem SC.text {w0 wr : World} {v dvb dv : Value} {G gb G2 m gt n c k : Nat} {L : List (Value × P)} {R : List D} {cur : P} {d : D} (h : SC w0 G gb wr v dvb R L G2 dv cur m) (hv : dv = .slice (some ⟨gt, 0, none⟩) n c) (hd : cur.ds[k]? = some d) (t : ByteArray) :
    SC w0 G gb (wr.setCell ⟨gt, k * 2 + 1, none⟩ (.string t)) v dvb R L G2 dv ⟨cur.ds.set k ⟨d.op, t⟩, cur.s1, cur.s2, cur.l1, cur.l2⟩ m := by
  have hdb : dv.ownBlock = some gt := by rw [hv]; rfl
  have hg2 : G2 ≠ gt := fun e => own_block_ty h.fw.own h.fw.bk (by omega) (by rw [hdb, e])
  have hG : G ≠ gt := fun e => h.dvG (by rw [hdb, e])
  have hgb : gb ≠ gt := fun e => h.dvgb (by rw [hdb, e])
  have hB := h.fw.own.lt gt hdb
  have hpat : v.ownBlock ≠ some gt := fun e => by
    rcases own_ne h.fw.own h.fw.pat (by omega) with k | k
    · rw [hdb] at k; cases k
    · exact k (by rw [hdb, e])
  have heach : ∀ x ∈ L, x.1.ownBlock ≠ some gt := fun x hx e => by
    have k1 := (h.fw.each x hx).2 gt e
    have k2 := h.fw.cm gt hdb
    omega
  refine ⟨⟨h.fw.gB, by simpa [pC] using blk_far h.fw.bk (p := ⟨gt, k * 2 + 1, none⟩) hg2 (.string t), ?_, h.fw.pat.setCell_other hpat _, h.fw.pne, fun x hx => ⟨(h.fw.each x hx).1.setCell_other (heach x hx) _, (h.fw.each x hx).2⟩, h.fw.cm, by simpa [World.setCell] using h.fw.msz, h.fw.lines.setCell_other (by simp [Value.ownBlock]) _, h.fw.bel.setCell hB.1 _⟩, h.apart, h.big.far hG hgb _, h.gm, h.n1, h.n2⟩
  have ho := h.fw.own
  rw [hv] at ho ⊢
  exact ho.setAt (i := k) (j := 1) (x := d) (x' := ⟨d.op, t⟩) dP_len hd (by omega) rfl
theorem own_form {α : Type} {f : α → List Value} {e sz : Nat} {w : World} {base g : Nat} {v : Value} {l : List α} (h : OwnL f e sz w base v l) (hg : v.ownBlock = some g) : ∃ c, v = .slice (some ⟨g, 0, none⟩) l.length c ∧ l.length ≤ c := by
  rcases h.2 with ⟨h0, _⟩ | ⟨g', cap, cur, h0, _, _, hnc, _⟩
  · rw [h0] at hg; simp [Value.ownBlock] at hg
  · rw [h0] at hg
    have : g' = g := by simpa [Value.ownBlock] using hg
    subst this
    exact ⟨cap, h0, hnc⟩
theorem ownd_last {w : World} {B gt n c : Nat} {r : List D} {d : D} (h : OwnL dP 128 2 w B (.slice (some ⟨gt, 0, none⟩) n c) (r ++ [d])) : w.cell? ⟨gt, r.length * 2, none⟩ = some (.int .i8 d.op) ∧ w.cell? ⟨gt, r.length * 2 + 1, none⟩ = some (.string d.t) ∧ ∀ k, w.frozen? ⟨gt, k, none⟩ = false := by
  have hd : (r ++ [d])[r.length]? = some d := by rw [List.getElem?_append_right (Nat.le_refl _), Nat.sub_self]; rfl
  have h0 := h.at_cells (r.length * 2) (.int .i8 d.op) (by have := flat_at dP_len _ r.length d hd 0 (by omega); rw [Nat.add_zero] at this; rw [this]; rfl)
  have h1 := h.at_cells (r.length * 2 + 1) (.string d.t) (by rw [flat_at dP_len _ r.length d hd 1 (by omega)]; rfl)
  rw [addr_add] at h0 h1
  exact ⟨h0, h1, fun k => own_fro h k⟩
/-- the rows behind a place -/
theorem own_post {w : World} {B gv n c : Nat} {pre post : List (Value × P)} (h : OwnL pvP 114 5 w B (.slice (some ⟨gv, 0, none⟩) n c) (pre ++ post)) : ∀ j u, (post.flatMap pvP)[j]? = some u → w.cell? (((⟨gv, 0, none⟩ : Addr).add (pre.length * 5)).add j) = some u := by
  intro j u hu
  have := h.at_cells (pre.length * 5 + j) u (by rw [List.flatMap_append, List.getElem?_append_right (by rw [flat_length pvP_len]; omega), flat_length pvP_len, Nat.add_sub_cancel_left]; exact hu)
  rwa [add_of_add]
theorem rows_one {w : World} {B : Nat} {L : List (Value × P)} (h : ∀ x ∈ L, OwnL dP 128 2 w B x.1 x.2.ds) : ∀ u ∈ L.flatMap pvP, u.oneCell' = true := by
  intro u hu
  obtain ⟨x, hx, hu⟩ := List.mem_flatMap.1 hu
  obtain ⟨A, c, hv, _⟩ := (h x hx).rd dP_len
  obtain ⟨xv, xp⟩ := x
  simp only at hv
  subst hv
  exact pvP_one _ _ _ _ u hu
theorem set_end {α : Type} (r : List α) (d x : α) : (r ++ [d]).set r.length x = r ++ [x] := by
  rw [List.set_append_right _ _ (Nat.le_refl _), Nat.sub_self]; rfl
/-- the context behind is taken on -/
structure Took (C : List D) (X : List UInt8) (z : ByteArray) (q : P) : Prop where
  src : srcL q.ds = srcL C ++ tb z
  tgt : tgtL q.ds = tgtL C ++ tb z
  op : ∀ d ∈ q.ds, -1 ≤ d.op ∧ d.op ≤ 1
  s2 : q.s2 = X.length
  l1 : q.l1 = (srcL q.ds).length
  len : q.ds.length ≤ C.length + 1
theorem took_nil {X : List UInt8} {z : ByteArray} {cur : P} (hz : z.size = 0) (hop : ∀ d ∈ cur.ds, -1 ≤ d.op ∧ d.op ≤ 1) (hs : cur.s2 = X.length) (hl : cur.l1 = (srcL cur.ds).length) : Took cur.ds X z cur := by
  have e : tb z = [] := List.length_eq_zero_iff.1 (by rw [tb_length]; exact hz)
  exact ⟨by rw [e, List.append_nil], by rw [e, List.append_nil], hop, hs, hl, by omega⟩
theorem took_new {X : List UInt8} {z : ByteArray} {cur q : P} (hop : ∀ d ∈ cur.ds, -1 ≤ d.op ∧ d.op ≤ 1) (hs : cur.s2 = X.length) (hl : cur.l1 = (srcL cur.ds).length) (hq : q.ds = cur.ds ++ [⟨0, z⟩]) (hqs : q.s2 = cur.s2) (hql : q.l1 = cur.l1 + z.size) : Took cur.ds X z q := by
  have e1 : srcL q.ds = srcL cur.ds ++ tb z := by rw [hq, srcL_snoc, if_neg (by show ¬ (0 : Int) = 1; omega)]
  refine ⟨e1, by rw [hq, tgtL_snoc, if_neg (by show ¬ (0 : Int) = -1; omega)], fun d hd => ?_, by rw [hqs, hs], by rw [hql, hl, e1, List.length_append, tb_length]; omega, by rw [hq, List.length_append, List.length_singleton]; omega⟩
  rw [hq] at hd
  rcases List.mem_append.1 hd with hd | hd
  · exact hop d hd
  · rw [List.mem_singleton.1 hd]; exact op0
theorem took_last {X : List UInt8} {z x : ByteArray} {cur q : P} {r : List D} {d : D} (hop : ∀ d ∈ cur.ds, -1 ≤ d.op ∧ d.op ≤ 1) (hs : cur.s2 = X.length) (hl : cur.l1 = (srcL cur.ds).length) (hc : cur.ds = r ++ [d]) (ho : d.op = 0) (hx : tb x = tb d.t ++ tb z) (hq : q.ds = r ++ [⟨0, x⟩]) (hqs : q.s2 = cur.s2) (hql : q.l1 = cur.l1 + z.size) : Took cur.ds X z q := by
  have e1 : srcL q.ds = srcL cur.ds ++ tb z := by rw [hq, hc, srcL_snoc, srcL_snoc, if_neg (by show ¬ (0 : Int) = 1; omega), if_neg (by omega)]; dsimp only; rw [hx, List.append_assoc]
  have e2 : tgtL q.ds = tgtL cur.ds ++ tb z := by rw [hq, hc, tgtL_snoc, tgtL_snoc, if_neg (by show ¬ (0 : Int) = -1; omega), if_neg (by omega)]; dsimp only; rw [hx, List.append_assoc]
  refine ⟨e1, e2, fun y hy => ?_, by rw [hqs, hs], by rw [hql, hl, e1, List.length_append, tb_length]; omega, by rw [hq, hc, List.length_append, List.length_append, List.length_singleton, List.length_singleton]; omega⟩
  rw [hq] at hy
  rcases List.mem_append.1 hy with hy | hy
  · exact hop y (by rw [hc]; simp [hy])
  · rw [List.mem_singleton.1 hy]; exact op0
end Go.Proofs.YtjebgfpcmooniaaGreatDoor
