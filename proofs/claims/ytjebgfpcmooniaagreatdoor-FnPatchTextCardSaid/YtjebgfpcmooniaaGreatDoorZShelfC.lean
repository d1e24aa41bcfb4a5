/- The shelf's contracts that are used here, at this translation: laid by the kit's own tool (lay-plain), cut by a program. The shelf's contracts that are used here, at this translation: laid by the kit's own tool (lay-plain), cut by a program. The shelf's contracts that are used here, at this translation: laid by the kit's own tool (lay-plain), cut by a program. -/
import Derived.Shelf.Utf8.RuneCount
import Derived.Shelf.LaysM
import Derived.Shelf.Bytes.WriteString
import Derived.Shelf.Bytes.String
import Derived.Shelf.Strings.LastIndexAll
import Derived.Shelf.Strings.Prefix
import Derived.Test.YtjebgfpcmooniaaGreatDoorProg
import Derived.Shelf.Strconv.Itoa3
namespace Go.Proofs
open Go.Shelf
def Tryz.lays195_ren : Go.Shelf.Ren := ⟨fun | 195 => 106 | n => n, fun | 9 => 9 | 3 => 3 | 0 => 0 | 4 => 4 | n => n, fun | n => n⟩
theorem Tryz.lays195 : Go.Proofs.Lays.n195 Tryz.prog Tryz.lays195_ren := {
  mixed := by kernel_rfl
  f195 := Tryz.func106.trans (congrArg some (by kernel_rfl))
  t0 := Tryz.underlying0
  a0 := Tryz.isAgg0
  z0 := Tryz.sizeOf0
  v0 := Tryz.zeroValue0
  t3 := Tryz.underlying3
  a3 := Tryz.isAgg3
  z3 := Tryz.sizeOf3
  v3 := Tryz.zeroValue3
  t4 := Tryz.underlying4
  a4 := Tryz.isAgg4
  z4 := Tryz.sizeOf4
  v4 := Tryz.zeroValue4
  t9 := Tryz.underlying9
  a9 := Tryz.isAgg9
  z9 := Tryz.sizeOf9
  v9 := Tryz.zeroValue9 }
open Go.RowKit in
/-- unicode/utf8.RuneCountInString: "RuneCountInString is like RuneCount but its input is a string." ("RuneCount returns the number of runes in p. Erroneous and short encodings are treated as single runes of width 1 byte."): EVERY STRING, valid UTF-8 or not: 'Lib.runeCount s' (plain Lean over the model's own 'Utf8.decode'; 'Lib.runeCount_le': at most len(s); 'Lib.runeCount_ascii': on ASCII: len(s)). THE ONE CONDITION: len(s) below 2^63 - 1 (the counter does not wrap): the form's reach pays it. THE WORLD BEHIND THE CALL: ONE BLOCK MORE: the model's iterator over s, at its end: all else as it was. (LAID: no walk: one application.) -/
theorem Tryz.utf8_RuneCountInString (s : ByteArray) (w : World) (hs : s.size < 9223372036854775807) :
    Calls Tryz.prog 106 #[.string s] w fun e w' => e = .returned (.int .i64 (Lib.runeCount s)) ∧ ∃ pos, w' = w.iter s pos := Any.utf8_RuneCountInString Tryz.lays195 s w hs
def Tryz.laysM178_ren : Go.Shelf.Ren := ⟨fun | 178 => 91 | 251 => 131 | 252 => 132 | 181 => 160 | 184 => 161 | 290 => 162 | 324 => 197 | n => n, fun | 130 => 172 | 9 => 9 | 3 => 3 | 75 => 100 | 0 => 0 | 93 => 135 | 91 => 133 | 131 => 84 | 4 => 4 | 37 => 96 | 20 => 20 | 80 => 62 | 5 => 5 | n => n, fun | 14 => 3 | n => n⟩
theorem Tryz.laysM178 : Go.Proofs.LaysM.n178 Tryz.prog Tryz.laysM178_ren := {
  mixed := by kernel_rfl
  f178 := Tryz.func91.trans (congrArg some (by kernel_rfl))
  f181 := Tryz.func160.trans (congrArg some (by kernel_rfl))
  f184 := Tryz.func161.trans (congrArg some (by kernel_rfl))
  f251 := Tryz.func131.trans (congrArg some (by kernel_rfl))
  f252 := Tryz.func132.trans (congrArg some (by kernel_rfl))
  f290 := Tryz.func162.trans (congrArg some (by kernel_rfl))
  f324 := Tryz.func197.trans (congrArg some (by kernel_rfl))
  t0 := Tryz.underlying0
  a0 := Tryz.isAgg0
  z0 := Tryz.sizeOf0
  v0 := Tryz.zeroValue0
  t3 := Tryz.underlying3
  a3 := Tryz.isAgg3
  z3 := Tryz.sizeOf3
  v3 := Tryz.zeroValue3
  t4 := Tryz.underlying4
  a4 := Tryz.isAgg4
  z4 := Tryz.sizeOf4
  v4 := Tryz.zeroValue4
  t9 := Tryz.underlying9
  a9 := Tryz.isAgg9
  z9 := Tryz.sizeOf9
  v9 := Tryz.zeroValue9
  t20 := Tryz.underlying20
  a20 := Tryz.isAgg20
  z20 := Tryz.sizeOf20
  v20 := Tryz.zeroValue20
  t37 := Tryz.underlying96
  a37 := Tryz.isAgg96
  z37 := Tryz.sizeOf96
  v37 := Tryz.zeroValue96
  t75 := Tryz.underlying100
  a75 := Tryz.isAgg100
  z75 := Tryz.sizeOf100
  v75 := Tryz.zeroValue100
  t91 := Tryz.underlying133
  a91 := Tryz.isAgg133
  z91 := Tryz.sizeOf133
  v91 := Tryz.zeroValue133
  t93 := Tryz.underlying135
  a93 := Tryz.isAgg135
  z93 := Tryz.sizeOf135
  v93 := Tryz.zeroValue135
  t130 := Tryz.underlying172
  a130 := Tryz.isAgg172
  z130 := Tryz.sizeOf172
  v130 := Tryz.zeroValue172
  t131 := Tryz.underlying84
  a131 := Tryz.isAgg84
  z131 := Tryz.sizeOf84
  v131 := Tryz.zeroValue84
  g14 := by kernel_rfl
  t5 := Tryz.underlying5
  a5 := Tryz.isAgg5
  z5 := Tryz.sizeOf5
  v5 := Tryz.zeroValue5
  t80 := Tryz.underlying62
  a80 := Tryz.isAgg62
  z80 := Tryz.sizeOf62
  v80 := Tryz.zeroValue62
  i0 := by kernel_rfl
  i3 := by kernel_rfl
  i4 := by kernel_rfl
  i5 := by kernel_rfl
  i9 := by kernel_rfl
  i20 := by kernel_rfl
  i37 := by kernel_rfl
  i75 := by kernel_rfl
  i80 := by kernel_rfl
  i91 := by kernel_rfl
  i93 := by kernel_rfl
  i130 := by kernel_rfl
  i131 := by kernel_rfl
  m14 := by kernel_rfl }
open Go.RowKit in
/-- (*bytes.Buffer).WriteString: "WriteString appends the contents of s to the buffer, growing the buffer as needed. The return value n is the length of s; err is always nil." (LAID: no walk: one application.) -/
theorem Tryz.Buffer_WriteString (B b : Nat) (bs : List Value) (s : ByteArray) (w : World) (h : Lib.IsBuffer 135 5 B b bs w) (hBw : B ≤ w.heap.size) (h1 : ∀ v ∈ bs, v.oneCell' = true) (hlim : bs.length + s.size ≤ 140737488355328) :
    Calls Tryz.prog 91 #[.pointer (some ⟨b, 0, none⟩), .string s] w fun e w' => e = .returned (.tuple #[.int .i64 s.size, .nilIface]) ∧ Lib.IsBuffer 135 5 B b (bs ++ Lib.byteCells s.data.toList) w' ∧ Below B w w' := Any.Buffer_WriteString Tryz.laysM178 B b bs s w h hBw h1 hlim
def Tryz.laysM182_ren : Go.Shelf.Ren := ⟨fun | 182 => 93 | n => n, fun | 130 => 172 | 9 => 9 | 4 => 4 | 0 => 0 | 93 => 135 | 37 => 96 | 3 => 3 | 91 => 133 | 5 => 5 | n => n, fun | n => n⟩
theorem Tryz.laysM182 : Go.Proofs.LaysM.n182 Tryz.prog Tryz.laysM182_ren := {
  mixed := by kernel_rfl
  f182 := Tryz.func93.trans (congrArg some (by kernel_rfl))
  t0 := Tryz.underlying0
  a0 := Tryz.isAgg0
  z0 := Tryz.sizeOf0
  v0 := Tryz.zeroValue0
  t3 := Tryz.underlying3
  a3 := Tryz.isAgg3
  z3 := Tryz.sizeOf3
  v3 := Tryz.zeroValue3
  t4 := Tryz.underlying4
  a4 := Tryz.isAgg4
  z4 := Tryz.sizeOf4
  v4 := Tryz.zeroValue4
  t9 := Tryz.underlying9
  a9 := Tryz.isAgg9
  z9 := Tryz.sizeOf9
  v9 := Tryz.zeroValue9
  t37 := Tryz.underlying96
  a37 := Tryz.isAgg96
  z37 := Tryz.sizeOf96
  v37 := Tryz.zeroValue96
  t93 := Tryz.underlying135
  a93 := Tryz.isAgg135
  z93 := Tryz.sizeOf135
  v93 := Tryz.zeroValue135
  t130 := Tryz.underlying172
  a130 := Tryz.isAgg172
  z130 := Tryz.sizeOf172
  v130 := Tryz.zeroValue172
  t5 := Tryz.underlying5
  a5 := Tryz.isAgg5
  z5 := Tryz.sizeOf5
  v5 := Tryz.zeroValue5
  t91 := Tryz.underlying133
  a91 := Tryz.isAgg133
  z91 := Tryz.sizeOf133
  v91 := Tryz.zeroValue133
  i0 := by kernel_rfl
  i3 := by kernel_rfl
  i4 := by kernel_rfl
  i5 := by kernel_rfl
  i9 := by kernel_rfl
  i37 := by kernel_rfl
  i91 := by kernel_rfl
  i93 := by kernel_rfl
  i130 := by kernel_rfl }
open Go.RowKit in
/-- (*bytes.Buffer).String: "String returns the contents of the unread portion of the buffer as a string.": THE BYTES THAT WERE WRITTEN. The world is as it was but for the count of draws (the statement has two reads: its order is drawn). (LAID: no walk: one application.) -/
theorem Tryz.Buffer_String (B b : Nat) (l : List UInt8) (w : World) (h : Lib.IsBuffer 135 5 B b (Lib.byteCells l) w) :
    Calls Tryz.prog 93 #[.pointer (some ⟨b, 0, none⟩)] w fun e w' => e = .returned (.string ⟨l.toArray⟩) ∧ ∃ n, w' = w.drewN n := Any.Buffer_String Tryz.laysM182 B b l w h
def Tryz.lays148_ren : Go.Shelf.Ren := ⟨fun | 148 => 159 | 222 => 195 | 223 => 196 | 269 => 215 | n => n, fun | 9 => 9 | 3 => 3 | 4 => 4 | 5 => 5 | 146 => 237 | 51 => 236 | 46 => 61 | n => n, fun | n => n⟩
theorem Tryz.lays148 : Go.Proofs.Lays.n148 Tryz.prog Tryz.lays148_ren := {
  mixed := by kernel_rfl
  f148 := Tryz.func159.trans (congrArg some (by kernel_rfl))
  f222 := Tryz.func195.trans (congrArg some (by kernel_rfl))
  f223 := Tryz.func196.trans (congrArg some (by kernel_rfl))
  f269 := Tryz.func215.trans (congrArg some (by kernel_rfl))
  t3 := Tryz.underlying3
  a3 := Tryz.isAgg3
  z3 := Tryz.sizeOf3
  v3 := Tryz.zeroValue3
  t4 := Tryz.underlying4
  a4 := Tryz.isAgg4
  z4 := Tryz.sizeOf4
  v4 := Tryz.zeroValue4
  t5 := Tryz.underlying5
  a5 := Tryz.isAgg5
  z5 := Tryz.sizeOf5
  v5 := Tryz.zeroValue5
  t9 := Tryz.underlying9
  a9 := Tryz.isAgg9
  z9 := Tryz.sizeOf9
  v9 := Tryz.zeroValue9
  t46 := Tryz.underlying61
  a46 := Tryz.isAgg61
  z46 := Tryz.sizeOf61
  v46 := Tryz.zeroValue61
  t51 := Tryz.underlying236
  a51 := Tryz.isAgg236
  z51 := Tryz.sizeOf236
  v51 := Tryz.zeroValue236
  t146 := Tryz.underlying237
  a146 := Tryz.isAgg237
  z146 := Tryz.sizeOf237
  v146 := Tryz.zeroValue237 }
open Go.RowKit Go.Lib in
/-- strings.LastIndex: "LastIndex returns the index of the last instance of substr in s, or -1 if substr is not present in s.": AT A substr OF WHATEVER LENGTH. (LAID: no walk: one application.) -/
theorem Tryz.strings_LastIndex (s sub : ByteArray) (hs : s.size < 4611686018427387904) (w : World) :
    Calls Tryz.prog 159 #[.string s, .string sub] w fun e w' => e = .returned (.int .i64 (Lib.lastIndex s.data.toList sub.data.toList)) ∧ w' = w := Any.strings_LastIndex Tryz.lays148 s sub hs w
def Tryz.lays99_ren : Go.Shelf.Ren := ⟨fun | 99 => 150 | 206 => 190 | n => n, fun | 9 => 9 | 4 => 4 | 3 => 3 | n => n, fun | n => n⟩
theorem Tryz.lays99 : Go.Proofs.Lays.n99 Tryz.prog Tryz.lays99_ren := {
  mixed := by kernel_rfl
  f99 := Tryz.func150.trans (congrArg some (by kernel_rfl))
  f206 := Tryz.func190.trans (congrArg some (by kernel_rfl))
  t3 := Tryz.underlying3
  a3 := Tryz.isAgg3
  z3 := Tryz.sizeOf3
  v3 := Tryz.zeroValue3
  t4 := Tryz.underlying4
  a4 := Tryz.isAgg4
  z4 := Tryz.sizeOf4
  v4 := Tryz.zeroValue4
  t9 := Tryz.underlying9
  a9 := Tryz.isAgg9
  z9 := Tryz.sizeOf9
  v9 := Tryz.zeroValue9 }
open Go.RowKit Go.Lib in
/-- strings.HasPrefix: "HasPrefix reports whether the string s begins with prefix.": IT RETURNS 'Lib.hasPrefix s prefix'; the world is as it was. (LAID: no walk: one application.) -/
theorem Tryz.strings_HasPrefix (s p : ByteArray) (w : World) :
    Calls Tryz.prog 150 #[.string s, .string p] w fun e w' => e = .returned (.bool (Lib.hasPrefix s.data.toList p.data.toList)) ∧ w' = w := Any.strings_HasPrefix Tryz.lays99 s p w
def Tryz.lays100_ren : Go.Shelf.Ren := ⟨fun | 100 => 158 | 207 => 194 | n => n, fun | 9 => 9 | 4 => 4 | 3 => 3 | n => n, fun | n => n⟩
theorem Tryz.lays100 : Go.Proofs.Lays.n100 Tryz.prog Tryz.lays100_ren := {
  mixed := by kernel_rfl
  f100 := Tryz.func158.trans (congrArg some (by kernel_rfl))
  f207 := Tryz.func194.trans (congrArg some (by kernel_rfl))
  t3 := Tryz.underlying3
  a3 := Tryz.isAgg3
  z3 := Tryz.sizeOf3
  v3 := Tryz.zeroValue3
  t4 := Tryz.underlying4
  a4 := Tryz.isAgg4
  z4 := Tryz.sizeOf4
  v4 := Tryz.zeroValue4
  t9 := Tryz.underlying9
  a9 := Tryz.isAgg9
  z9 := Tryz.sizeOf9
  v9 := Tryz.zeroValue9 }
open Go.RowKit Go.Lib in
/-- strings.HasSuffix: "HasSuffix reports whether the string s ends with suffix.": IT RETURNS 'Lib.hasSuffix s suffix'; the world is as it was. ('hs': no Go string is longer: a caller has it of every string that it was handed.) (LAID: no walk: one application.) -/
theorem Tryz.strings_HasSuffix (s p : ByteArray) (w : World) (hs : s.size ≤ 9223372036854775807) :
    Calls Tryz.prog 158 #[.string s, .string p] w fun e w' => e = .returned (.bool (Lib.hasSuffix s.data.toList p.data.toList)) ∧ w' = w := Any.strings_HasSuffix Tryz.lays100 s p w hs
end Go.Proofs

namespace Go.Proofs
open Go.Shelf
def Tryz.laysM171_ren : Go.Shelf.Ren := ⟨fun | 171 => 105 | 243 => 144 | 246 => 179 | 283 => 202 | 284 => 203 | 285 => 204 | 286 => 205 | 129 => 217 | 317 => 216 | 318 => 218 | 319 => 219 | 320 => 220 | 337 => 227 | 338 => 228 | n => n, fun | 3 => 3 | 9 => 9 | 2 => 2 | 4 => 4 | 171 => 225 | 0 => 0 | 53 => 192 | 37 => 96 | 5 => 5 | 173 => 228 | 212 => 240 | 51 => 236 | 20 => 20 | 213 => 241 | 46 => 61 | 232 => 258 | 233 => 203 | n => n, fun | 17 => 8 | 18 => 9 | 19 => 10 | n => n⟩
theorem Tryz.laysM171 : Go.Proofs.LaysM.n171 Tryz.prog Tryz.laysM171_ren := {
  mixed := by kernel_rfl
  f129 := Tryz.func217.trans (congrArg some (by kernel_rfl))
  f171 := Tryz.func105.trans (congrArg some (by kernel_rfl))
  f243 := Tryz.func144.trans (congrArg some (by kernel_rfl))
  f246 := Tryz.func179.trans (congrArg some (by kernel_rfl))
  f283 := Tryz.func202.trans (congrArg some (by kernel_rfl))
  f284 := Tryz.func203.trans (congrArg some (by kernel_rfl))
  f285 := Tryz.func204.trans (congrArg some (by kernel_rfl))
  f286 := Tryz.func205.trans (congrArg some (by kernel_rfl))
  f317 := Tryz.func216.trans (congrArg some (by kernel_rfl))
  f318 := Tryz.func218.trans (congrArg some (by kernel_rfl))
  f319 := Tryz.func219.trans (congrArg some (by kernel_rfl))
  f320 := Tryz.func220.trans (congrArg some (by kernel_rfl))
  f337 := Tryz.func227.trans (congrArg some (by kernel_rfl))
  f338 := Tryz.func228.trans (congrArg some (by kernel_rfl))
  t0 := Tryz.underlying0
  a0 := Tryz.isAgg0
  z0 := Tryz.sizeOf0
  v0 := Tryz.zeroValue0
  t2 := Tryz.underlying2
  a2 := Tryz.isAgg2
  z2 := Tryz.sizeOf2
  v2 := Tryz.zeroValue2
  t3 := Tryz.underlying3
  a3 := Tryz.isAgg3
  z3 := Tryz.sizeOf3
  v3 := Tryz.zeroValue3
  t4 := Tryz.underlying4
  a4 := Tryz.isAgg4
  z4 := Tryz.sizeOf4
  v4 := Tryz.zeroValue4
  t5 := Tryz.underlying5
  a5 := Tryz.isAgg5
  z5 := Tryz.sizeOf5
  v5 := Tryz.zeroValue5
  t9 := Tryz.underlying9
  a9 := Tryz.isAgg9
  z9 := Tryz.sizeOf9
  v9 := Tryz.zeroValue9
  t20 := Tryz.underlying20
  a20 := Tryz.isAgg20
  z20 := Tryz.sizeOf20
  v20 := Tryz.zeroValue20
  t37 := Tryz.underlying96
  a37 := Tryz.isAgg96
  z37 := Tryz.sizeOf96
  v37 := Tryz.zeroValue96
  t46 := Tryz.underlying61
  a46 := Tryz.isAgg61
  z46 := Tryz.sizeOf61
  v46 := Tryz.zeroValue61
  t51 := Tryz.underlying236
  a51 := Tryz.isAgg236
  z51 := Tryz.sizeOf236
  v51 := Tryz.zeroValue236
  t53 := Tryz.underlying192
  a53 := Tryz.isAgg192
  z53 := Tryz.sizeOf192
  v53 := Tryz.zeroValue192
  t171 := Tryz.underlying225
  a171 := Tryz.isAgg225
  z171 := Tryz.sizeOf225
  v171 := Tryz.zeroValue225
  t173 := Tryz.underlying228
  a173 := Tryz.isAgg228
  z173 := Tryz.sizeOf228
  v173 := Tryz.zeroValue228
  t212 := Tryz.underlying240
  a212 := Tryz.isAgg240
  z212 := Tryz.sizeOf240
  v212 := Tryz.zeroValue240
  t213 := Tryz.underlying241
  a213 := Tryz.isAgg241
  z213 := Tryz.sizeOf241
  t232 := Tryz.underlying258
  a232 := Tryz.isAgg258
  z232 := Tryz.sizeOf258
  v232 := Tryz.zeroValue258
  t233 := Tryz.underlying203
  a233 := Tryz.isAgg203
  z233 := Tryz.sizeOf203
  v233 := Tryz.zeroValue203
  g17 := by kernel_rfl
  g18 := by kernel_rfl
  g19 := by kernel_rfl
  i0 := by kernel_rfl
  i2 := by kernel_rfl
  i3 := by kernel_rfl
  i4 := by kernel_rfl
  i5 := by kernel_rfl
  i9 := by kernel_rfl
  i20 := by kernel_rfl
  i37 := by kernel_rfl
  i46 := by kernel_rfl
  i51 := by kernel_rfl
  i53 := by kernel_rfl
  i171 := by kernel_rfl
  i173 := by kernel_rfl
  i212 := by kernel_rfl
  i232 := by kernel_rfl
  i233 := by kernel_rfl
  m17 := by kernel_rfl
  m18 := by kernel_rfl
  m19 := by kernel_rfl }
open Go.RowKit Go.Sort Go.Lib in
/-- strconv.Itoa: "Itoa is equivalent to FormatInt(int64(i), 10).": i's DECIMAL NUMERAL ('Lib.itoa': a '-' where i is negative, then the digits), FOR EVERY int. The world behind the call: the world before it, new blocks behind the heap (the library's 'var a [24]byte'), draws. (LAID: no walk: one application.) -/
theorem Tryz.strconv_Itoa (n : Int) (h0 : -9223372036854775808 ≤ n) (h1 : n ≤ 9223372036854775807) (w : World) (htab : Lib.TabIs Tryz.prog w "internal/strconv.uint64pow10" .u64 Lib.pow10Tab) :
    Calls Tryz.prog 105 #[.int .i64 n] w fun e w' => e = .returned (.string ⟨(Lib.itoa n).toArray⟩) ∧ ∃ k os, w' = grow (w.drewN k) os := Any.strconv_Itoa Tryz.laysM171 n h0 h1 w htab
end Go.Proofs

namespace Go.Proofs
open Go.Shelf
def Tryz.laysM251_ren : Go.Shelf.Ren := ⟨fun | 251 => 131 | n => n, fun | 130 => 172 | 3 => 3 | 4 => 4 | 0 => 0 | 93 => 135 | 37 => 96 | 91 => 133 | 5 => 5 | n => n, fun | n => n⟩
theorem Tryz.laysM251 : Go.Proofs.LaysM.n251 Tryz.prog Tryz.laysM251_ren := {
  mixed := by kernel_rfl
  f251 := Tryz.func131.trans (congrArg some (by kernel_rfl))
  t0 := Tryz.underlying0
  a0 := Tryz.isAgg0
  z0 := Tryz.sizeOf0
  v0 := Tryz.zeroValue0
  t3 := Tryz.underlying3
  a3 := Tryz.isAgg3
  z3 := Tryz.sizeOf3
  v3 := Tryz.zeroValue3
  t4 := Tryz.underlying4
  a4 := Tryz.isAgg4
  z4 := Tryz.sizeOf4
  v4 := Tryz.zeroValue4
  t37 := Tryz.underlying96
  a37 := Tryz.isAgg96
  z37 := Tryz.sizeOf96
  v37 := Tryz.zeroValue96
  t93 := Tryz.underlying135
  a93 := Tryz.isAgg135
  z93 := Tryz.sizeOf135
  v93 := Tryz.zeroValue135
  t130 := Tryz.underlying172
  a130 := Tryz.isAgg172
  z130 := Tryz.sizeOf172
  v130 := Tryz.zeroValue172
  t5 := Tryz.underlying5
  a5 := Tryz.isAgg5
  z5 := Tryz.sizeOf5
  v5 := Tryz.zeroValue5
  t91 := Tryz.underlying133
  a91 := Tryz.isAgg133
  z91 := Tryz.sizeOf133
  v91 := Tryz.zeroValue133
  i0 := by kernel_rfl
  i3 := by kernel_rfl
  i4 := by kernel_rfl
  i5 := by kernel_rfl
  i37 := by kernel_rfl
  i91 := by kernel_rfl
  i93 := by kernel_rfl
  i130 := by kernel_rfl }
def Tryz.laysM252_ren : Go.Shelf.Ren := ⟨fun | 252 => 132 | 181 => 160 | 184 => 161 | 251 => 131 | 290 => 162 | 324 => 197 | n => n, fun | 130 => 172 | 3 => 3 | 4 => 4 | 0 => 0 | 93 => 135 | 131 => 84 | 37 => 96 | 75 => 100 | 91 => 133 | 20 => 20 | 5 => 5 | 80 => 62 | 9 => 9 | n => n, fun | 14 => 3 | n => n⟩
theorem Tryz.laysM252 : Go.Proofs.LaysM.n252 Tryz.prog Tryz.laysM252_ren := {
  mixed := by kernel_rfl
  f181 := Tryz.func160.trans (congrArg some (by kernel_rfl))
  f184 := Tryz.func161.trans (congrArg some (by kernel_rfl))
  f251 := Tryz.func131.trans (congrArg some (by kernel_rfl))
  f252 := Tryz.func132.trans (congrArg some (by kernel_rfl))
  f290 := Tryz.func162.trans (congrArg some (by kernel_rfl))
  f324 := Tryz.func197.trans (congrArg some (by kernel_rfl))
  t0 := Tryz.underlying0
  a0 := Tryz.isAgg0
  z0 := Tryz.sizeOf0
  v0 := Tryz.zeroValue0
  t3 := Tryz.underlying3
  a3 := Tryz.isAgg3
  z3 := Tryz.sizeOf3
  v3 := Tryz.zeroValue3
  t4 := Tryz.underlying4
  a4 := Tryz.isAgg4
  z4 := Tryz.sizeOf4
  v4 := Tryz.zeroValue4
  t20 := Tryz.underlying20
  a20 := Tryz.isAgg20
  z20 := Tryz.sizeOf20
  v20 := Tryz.zeroValue20
  t37 := Tryz.underlying96
  a37 := Tryz.isAgg96
  z37 := Tryz.sizeOf96
  v37 := Tryz.zeroValue96
  t75 := Tryz.underlying100
  a75 := Tryz.isAgg100
  z75 := Tryz.sizeOf100
  v75 := Tryz.zeroValue100
  t91 := Tryz.underlying133
  a91 := Tryz.isAgg133
  z91 := Tryz.sizeOf133
  v91 := Tryz.zeroValue133
  t93 := Tryz.underlying135
  a93 := Tryz.isAgg135
  z93 := Tryz.sizeOf135
  v93 := Tryz.zeroValue135
  t130 := Tryz.underlying172
  a130 := Tryz.isAgg172
  z130 := Tryz.sizeOf172
  v130 := Tryz.zeroValue172
  t131 := Tryz.underlying84
  a131 := Tryz.isAgg84
  z131 := Tryz.sizeOf84
  v131 := Tryz.zeroValue84
  g14 := by kernel_rfl
  t5 := Tryz.underlying5
  a5 := Tryz.isAgg5
  z5 := Tryz.sizeOf5
  v5 := Tryz.zeroValue5
  t9 := Tryz.underlying9
  a9 := Tryz.isAgg9
  z9 := Tryz.sizeOf9
  v9 := Tryz.zeroValue9
  t80 := Tryz.underlying62
  a80 := Tryz.isAgg62
  z80 := Tryz.sizeOf62
  v80 := Tryz.zeroValue62
  i0 := by kernel_rfl
  i3 := by kernel_rfl
  i4 := by kernel_rfl
  i5 := by kernel_rfl
  i9 := by kernel_rfl
  i20 := by kernel_rfl
  i37 := by kernel_rfl
  i75 := by kernel_rfl
  i80 := by kernel_rfl
  i91 := by kernel_rfl
  i93 := by kernel_rfl
  i130 := by kernel_rfl
  i131 := by kernel_rfl
  m14 := by kernel_rfl }
end Go.Proofs
