/- PatchToText, ToText: the texts of patches, one behind the other. FnPatchText: the walk of the law itself: it returns true. The laws' arguments opened: settings by value, differences behind a slice; the tables out of the row's list. -/
import Derived.Test.YtjebgfpcmooniaaGreatDoorZPatString
import Derived.Test.YtjebgfpcmooniaaGreatDoorZAll
import Derived.Test.YtjebgfpcmooniaaGreatDoorZRead
import Derived.Test.YtjebgfpcmooniaaGreatDoorZMakeDiffs
import Derived.Test.YtjebgfpcmooniaaGreatDoorZSame
import Derived.Test.YtjebgfpcmooniaaGreatDoorRows
import Derived.Lib.SmallJoins
import Derived.Deep.SlicePairs
import Derived.ChangeArms
import Derived.ProofKit
import Derived.OpenShut
namespace Go.Proofs.YtjebgfpcmooniaaGreatDoor
open Go Go.RowKit

theorem new_any (w : World) : Calls Tryz.prog 53 #[] w fun e w' => ∃ v, e = .returned v ∧ Below w.heap.size w w' := by
  go_enter Tryz.func53, Tryz.ntmps53
  go_wp2
  go_ret
  exact ⟨_, rfl, (Below.refl _ _).alloc (Nat.le_refl _) _⟩

theorem take_text {l : List (Value × P)} {k : Nat} {x : Value × P} (h : l[k]? = some x) : ((l.take (k + 1)).map (·.2)).flatMap textP = ((l.take k).map (·.2)).flatMap textP ++ textP x.2 := by
  rw [take_succ_some h, List.map_append, List.flatMap_append]
  simp

set_option maxRecDepth 100000 in
set_option maxHeartbeats 1000000 in
theorem toText_any (dv : Value) (A : Option Addr) (n c : Nat) (l : List (Value × P)) (w : World) (hr : RdL pvP 5 w w.heap.size A n l) (hn : n ≤ 100000)
    (hrow : Hid (∀ x ∈ l, Rows dP w w.heap.size x)) (hok : Hid (∀ x ∈ l, TextOk x.2)) (ht : Tabs w) :
    Calls Tryz.prog 54 #[dv, .slice A n c] w fun e w' => e = .returned (.string ⟨((l.map (·.2)).flatMap textP).toArray⟩) ∧ Below w.heap.size w w' := by
  go_enter Tryz.func54, Tryz.ntmps54
  go_wp2
  go_loopw [10] (fun i wr => ∃ (k : Nat) (bs : List UInt8), k ≤ n ∧ i = .int .i64 k ∧ bs.length ≤ k * 1000000 ∧ Hid (bs = ((l.take k).map (·.2)).flatMap textP) ∧ Lib.IsBuffer 135 5 w.heap.size w.heap.size (Lib.byteCells bs) wr ∧ Below w.heap.size w wr) (fun i _ => n - (intOf i).toNat)
  case atStart => exact ⟨0, [], by omega, rfl, by simp, rfl, Lib.fresh_isBuffer 135 5 w, (Below.refl _ _).alloc (Nat.le_refl _) _⟩
  case round =>
    obtain ⟨k, bs, hk, rfl, hm, Hm, hbuf, hb⟩ := hrel
    have Hm2 := Lib.hid hm
    by_cases hlt : k < n
    · obtain ⟨ad, x, rfl, hab, hd, c0, c1, c2, c3, c4⟩ := rd_pv (hr.below hb) hlt
      have hx := List.mem_of_getElem? hd
      have hR := (hrow.out x hx).below hb
      have hO := hok.out x hx
      have hsz := hb.size
      have Hk := Lib.hid (take_text hd)
      have hlim : (Lib.byteCells bs).length + 1000000 ≤ 140737488355328 := by rw [Lib.byteCells_length]; omega
      have Hlim := Lib.hid hlim
      obtain ⟨xv, ds, s1, s2, l1, l2⟩ := x
      obtain ⟨A2, q2, hx1, -⟩ := id hR
      simp only at c0 c1 c2 c3 c4 hx1
      subst hx1
      clear hm hlim hd hx
      go_wp2_with (go_at_call 92; refine Hid.out ?_)
      refine Lib.hid ?_
      have hb1 : Below w.heap.size w (wr.alloc (.cells #[.slice A2 ds.length q2, .int .i64 s1, .int .i64 s2, .int .i64 l1, .int .i64 l2] 114)) := hb.alloc hsz _
      have hbuf1 := hbuf.alloc (.cells #[.slice A2 ds.length q2, .int .i64 s1, .int .i64 s2, .int .i64 l1, .int .i64 l2] 114)
      refine (string_any wr.heap.size (.slice A2 ds.length q2, ⟨ds, s1, s2, l1, l2⟩) _ (heap_alloc_new _ _) (((hR.below ((Below.refl _ _).alloc hsz _)).more (le_al hsz))) (Lib.hid hO) (ht.below hb1)).mono ?_
      rintro e w2 ⟨rfl, hb2⟩
      have hbuf2 := hbuf1.old hb2
      go_wp2_with (go_at_call 91; refine (Tryz.Buffer_WriteString w.heap.size w.heap.size _ _ _ hbuf2 (Nat.le_trans (le_al hsz) hb2.size) (Lib.byteCells_one _) (Nat.le_trans (Nat.add_le_add_left hO.size _) Hlim.out)).mono ?_; rintro e w3 ⟨rfl, hbuf3, hb3⟩)
      go_roundw
      case rel => exact ⟨k + 1, bs ++ textP ⟨ds, s1, s2, l1, l2⟩, by omega, by go_num, by rw [List.length_append]; exact le_step2 Hm2.out hO.len, by show _ = _; rw [Hk.out, ← Hm.out], by rw [Lib.byteCells_append]; exact hbuf3, (hb1.trans (hb2.mono (le_al hsz))).trans hb3⟩
      case measure => simp [intOf]; omega
    · have e := Hm.out
      rw [List.take_of_length_le (by rw [hr.1]; omega)] at e
      have He := Lib.hid e
      clear e
      go_wp2_with (go_at_call 93; refine (Tryz.Buffer_String w.heap.size w.heap.size bs _ hbuf).mono ?_; rintro e w2 ⟨rfl, nd, rfl⟩)
      go_ret
      exact ⟨by rw [← He.out]; rfl, hb.trans ⟨rfl, rfl, rfl, Nat.le_refl _, fun _ _ => rfl⟩⟩

/-- ToText of the thin package -/
theorem totext_any (A : Option Addr) (n c : Nat) (l : List (Value × P)) (w : World) (hr : RdL pvP 5 w w.heap.size A n l) (hn : n ≤ 100000)
    (hrow : Hid (∀ x ∈ l, Rows dI w w.heap.size x)) (hwf : Hid (∀ x ∈ l, x.2.ds.length ≤ 1000000 ∧ ∀ d ∈ x.2.ds, -1 ≤ d.op ∧ d.op ≤ 1)) (hok : Hid (∀ x ∈ l, TextOk x.2)) (ht : Tabs w) :
    Calls Tryz.prog 19 #[.slice A n c] w fun e w' => e = .returned (.string ⟨((l.map (·.2)).flatMap textP).toArray⟩) ∧ Below w.heap.size w w' := by
  go_enter Tryz.func19, Tryz.ntmps19
  go_wp2_with (go_at_call 53; refine Hid.out ?_)
  refine Lib.hid ?_
  refine (new_any w).mono ?_
  rintro e w1 ⟨v, rfl, hb1⟩
  go_wp2_with (go_at_call 55; refine Hid.out ?_)
  refine Lib.hid ?_
  refine (all_any A n c l w1 ((hr.below hb1).more hb1.size) (by omega) (Lib.hid fun x hx => ((hrow.out x hx).below hb1).more hb1.size) hwf).mono ?_
  rintro e w2 ⟨v2, l', rfl, hl', hown, heach, hb2⟩
  obtain ⟨A2, c2, rfl, hr2⟩ := hown.rd pvP_len
  go_wp2_with (go_at_call 54; refine Hid.out ?_)
  refine Lib.hid ?_
  have hlen : l'.length = n := by
    have := congrArg List.length hl'
    rw [List.length_map, List.length_map, hr.1] at this
    exact this
  refine (toText_any v A2 l'.length c2 l' w2 hr2 (by omega) (Lib.hid fun x hx => Rows.of_own dP_len (heach x hx)) (Lib.hid fun x hx => ?_) (ht.below (hb1.trans (hb2.mono hb1.size)))).mono ?_
  · have hm : x.2 ∈ l.map (·.2) := by rw [← hl']; exact List.mem_map_of_mem hx
    obtain ⟨y, hy, e⟩ := List.mem_map.1 hm
    rw [← e]; exact hok.out y hy
  rintro e w3 ⟨rfl, hb3⟩
  rw [hl']
  go_wp2_with fail
  go_ret
  exact ⟨rfl, (hb1.trans (hb2.mono hb1.size)).trans (hb3.mono (Nat.le_trans hb1.size hb2.size))⟩
end Go.Proofs.YtjebgfpcmooniaaGreatDoor

namespace Go.Proofs.YtjebgfpcmooniaaGreatDoor
open Go Go.RowKit

def asc (b : UInt8) : Prop := b.toNat < 128

theorem fits1_all (A : Option Addr) (n c : Nat) (l : List D) (w : World) (hr : RdL dI 2 w w.heap.size A n l) (hn : n ≤ 9223372036854775807) :
    Calls Tryz.prog 14 #[.slice A n c] w (FitsPost n l w) := by
  by_cases hbig : (2147483647 : Int) < n
  · go_enter Tryz.func14, Tryz.ntmps14
    go_wp2
    go_ret
    exact ⟨false, rfl, (fun h => by cases h), Below.refl _ _⟩
  · exact fits1_any A n c l w hr (by omega)
theorem runes_grow (s : ByteArray) : ∀ (bound i : Nat) (acc : Array Value), acc.size ≤ (Conv.runesFrom s bound i acc).size
  | 0, _, acc => by simp [Conv.runesFrom]
  | bound + 1, i, acc => by
    unfold Conv.runesFrom
    split
    · have := runes_grow s bound (i + (Utf8.decode s i).2) (acc.push (.int .i32 (Int.ofNat (Utf8.decode s i).1)))
      rw [Array.size_push] at this
      exact Nat.le_of_succ_le this
    · exact Nat.le_refl _
theorem runesL_pos {s : ByteArray} (h : 0 < s.size) : 0 < (runesL s).length := by
  rw [← runesL_length]
  obtain ⟨m, hm⟩ : ∃ m, s.size = m + 1 := ⟨s.size - 1, by omega⟩
  rw [hm]
  unfold Conv.runesFrom
  rw [if_pos h]
  exact Nat.lt_of_lt_of_le (by simp) (runes_grow _ _ _ _)
theorem edited_pos {l : List D} (h : ∀ d ∈ l, 0 < d.t.size) : 0 < editedN l ↔ ¬ ∀ d ∈ l, d.op = 0 := by
  induction l with
  | nil => simp [editedN]
  | cons d l ih =>
    have e : editedN (d :: l) = (if d.op = 0 then 0 else (runesL d.t).length) + editedN l := by simp [editedN]
    have ih := ih fun x hx => h x (by simp [hx])
    have hp := runesL_pos (h d (by simp))
    rw [e]
    by_cases h0 : d.op = 0
    · rw [if_pos h0, Nat.zero_add, ih]; simp [h0]
    · rw [if_neg h0]
      constructor
      · intro _ hall; exact h0 (hall d (by simp))
      · intro _; omega
theorem szL_le (l : List D) (M : Nat) (h : ∀ d ∈ l, d.t.size ≤ M) : szL l ≤ l.length * M := by
  induction l with
  | nil => simp [szL]
  | cons d l ih =>
    rw [szL_cons, List.length_cons, Nat.add_mul]
    have := h d (by simp)
    have := ih fun x hx => h x (by simp [hx])
    omega
theorem szL_good {l : List D} (h : Good l) : szL l ≤ 3600 := by
  have h1 := szL_le l 120 fun d hd => (h.2 d hd).len
  have := Nat.mul_le_mul_right 120 h.1
  omega
theorem numP_of {n : Nat} {p : P} (h : OkP asc n 3600 p) : NumP p := by
  obtain ⟨⟨a1, a2⟩, ⟨b1, b2⟩, ⟨c1, c2⟩, ⟨d1, d2⟩⟩ := h.num
  exact ⟨⟨a1, by omega⟩, ⟨b1, by omega⟩, ⟨c1, by omega⟩, ⟨d1, by omega⟩⟩
theorem textOk_of {n : Nat} {p : P} (hn : n ≤ 30) (h : OkP asc n 3600 p) : TextOk p :=
  ⟨numP_of h, h.op, by have := h.len; omega, fun d hd => by have := h.sz d hd; omega⟩
theorem text_le (ps : List P) (h : ∀ p ∈ ps, (textP p).length ≤ 1000000) : (ps.flatMap textP).length ≤ ps.length * 1000000 := by
  induction ps with
  | nil => simp
  | cons p ps ih =>
    rw [List.flatMap_cons, List.length_append, List.length_cons, Nat.add_mul]
    have := h p (by simp)
    have := ih fun q hq => h q (by simp [hq])
    omega

set_option maxRecDepth 100000 in
set_option maxHeartbeats 4000000 in
theorem text_law (half : Bool) (cost dist : Int) (th de : Nat) (mar bits : Int) (A : Option Addr) (n c : Nat) (l : List D) (w : World) (hr : RdL dI 2 w w.heap.size A n l) (hn : n ≤ 9223372036854775807) (ht : Tabs w) :
    Calls Tryz.prog 3 #[.agg #[.bool half, .int .i64 cost, .int .i64 dist, .float .f64 th, .float .f64 de, .int .i64 mar, .int .i64 bits], .slice A n c] w fun e w' => e = .returned (.bool true) ∧ Below w.heap.size w w' := by
  have hbA : Below w.heap.size w (w.alloc (.cells #[.bool half, .int .i64 cost, .int .i64 dist, .float .f64 th, .float .f64 de, .int .i64 mar, .int .i64 bits] 24)) := (Below.refl _ _).alloc (Nat.le_refl _) _
  have hh := heap_alloc_new w (.cells #[.bool half, .int .i64 cost, .int .i64 dist, .float .f64 th, .float .f64 de, .int .i64 mar, .int .i64 bits] 24)
  have hsA : w.heap.size < (w.alloc (.cells #[.bool half, .int .i64 cost, .int .i64 dist, .float .f64 th, .float .f64 de, .int .i64 mar, .int .i64 bits] 24)).heap.size := by simp
  go_enter Tryz.func3, Tryz.ntmps3
  go_wp2_with (go_at_call 14; refine Hid.out ?_)
  refine Lib.hid ?_
  generalize w.alloc (.cells #[.bool half, .int .i64 cost, .int .i64 dist, .float .f64 th, .float .f64 de, .int .i64 mar, .int .i64 bits] 24) = W at hbA hh hsA ⊢
  have hrA : RdL dI 2 W W.heap.size A n l := (hr.below hbA).more hbA.size
  refine (fits1_all A n c l W hrA hn).mono ?_
  rintro e w1 ⟨b1, rfl, hf1, hb1⟩
  have hB1 : Below w.heap.size w w1 := hbA.trans (hb1.mono hbA.size)
  cases b1 with
  | false =>
    go_wp2_with fail
    go_ret
    exact ⟨rfl, hB1⟩
  | true =>
    obtain ⟨hn1, hs1⟩ := hf1 rfl
    have hh1 := (hb1.block _ hsA).trans hh
    have y0 := blk_cell hh1 0
    have y1 := blk_cell hh1 1
    have y2 := blk_cell hh1 2
    have y3 := blk_cell hh1 3
    have y4 := blk_cell hh1 4
    have y5 := blk_cell hh1 5
    have y6 := blk_cell hh1 6
    simp at y0 y1 y2 y3 y4 y5 y6
    go_wp2_with (go_at_call 15; refine Hid.out ?_)
    refine Lib.hid ?_
    refine (usable_any half cost dist th de mar bits w1).mono ?_
    rintro e w2 ⟨b2, rfl, hf2, hb2⟩
    have hB2 : Below w.heap.size w w2 := hB1.trans (hb2.mono hB1.size)
    cases b2 with
    | false =>
      go_wp2_with fail
      go_ret
      exact ⟨rfl, hB2⟩
    | true =>
      have hus := Lib.hid (hf2 rfl)
      have hs1' := Lib.hid hs1
      clear y0 y1 y2 y3 y4 y5 y6 hs1 hf1 hf2
      go_wp2_with (go_at_call 16; refine Hid.out ?_)
      refine Lib.hid ?_
      refine (ptParts_any A n c l w2 ((hr.below hB2).more hB2.size) hn1 hs1').mono ?_
      rintro e w3 ⟨v3, l3, rfl, hgood, hown3, hb3⟩
      have hB3 : Below w.heap.size w w3 := hB2.trans (hb3.mono hB2.size)
      obtain ⟨A3, c3, rfl, hr3⟩ := hown3.rd dI_len
      have hh3 := (hb3.block _ (Nat.lt_of_lt_of_le hsA (Nat.le_trans hb1.size hb2.size))).trans ((hb2.block _ (Nat.lt_of_lt_of_le hsA hb1.size)).trans hh1)
      have y0 := blk_cell hh3 0
      have y1 := blk_cell hh3 1
      have y2 := blk_cell hh3 2
      have y3 := blk_cell hh3 3
      have y4 := blk_cell hh3 4
      have y5 := blk_cell hh3 5
      have y6 := blk_cell hh3 6
      simp at y0 y1 y2 y3 y4 y5 y6
      have hN := szL_good hgood
      have hokl : Hid (OkL asc l3 3600) := OkL.of (fun d hd => ⟨(hgood.2 d hd).lo, (hgood.2 d hd).hi⟩) (fun d hd => (hgood.2 d hd).asc) hN
      go_wp2_with (go_at_call 17; refine Hid.out ?_)
      refine Lib.hid ?_
      obtain ⟨mar', hmar⟩ := Int.eq_ofNat_of_zero_le (show 0 ≤ mar by have := hus.out.mar0; omega)
      subst hmar
      have hl30 : l3.length ≤ 30 := hgood.1
      refine (makeDiffs_any asc 3600 half cost dist th de mar' bits A3 l3.length c3 l3 w3 hus hokl (by omega) (by omega) hr3).mono ?_
      rintro e w4 ⟨v4, l4, rfl, hown4, heach4, hb4, -, hok4, hlen4, hnil4⟩
      have hB4 : Below w.heap.size w w4 := hB3.trans (hb4.mono hB3.size)
      obtain ⟨A4, c4, rfl, hr4⟩ := hown4.rd pvP_len
      have Hok4 := Lib.hid hok4
      have Heach4 := Lib.hid heach4
      have Hnil4 := Lib.hid hnil4
      have htx : Hid (∀ x ∈ l4, TextOk x.2) := fun x hx => textOk_of hl30 (Hok4.out x hx)
      have hrd : Hid (∀ p ∈ l4.map (·.2), ReadOk p) := fun p hp => by
        obtain ⟨x, hx, rfl⟩ := List.mem_map.1 hp
        exact ⟨numP_of (Hok4.out x hx), (Hok4.out x hx).op, (Hok4.out x hx).by_⟩
      have hlen4' : l4.length ≤ 30 := by omega
      clear y0 y1 y2 y3 y4 y5 y6 hok4 heach4 hnil4 hN
      go_wp2_with (go_at_call 19; refine Hid.out ?_)
      refine Lib.hid ?_
      refine (totext_any A4 l4.length c4 l4 w4 hr4 (by omega) (Lib.hid fun x hx => Rows.of_own dI_len (Heach4.out x hx)) (Lib.hid fun x hx => ⟨by have := (htx.out x hx).few; omega, (htx.out x hx).op⟩) htx (ht.below hB4)).mono ?_
      rintro e w5 ⟨rfl, hb5⟩
      have hB5 : Below w.heap.size w w5 := hB4.trans (hb5.mono hB4.size)
      obtain ⟨T, hT⟩ : ∃ T : ByteArray, T = ⟨((l4.map (·.2)).flatMap textP).toArray⟩ := ⟨_, rfl⟩
      have hTt : Hid (tb T = (l4.map (·.2)).flatMap textP) := by show _ = _; rw [hT]
      have hTs : T.size ≤ 40000000 := by
        rw [← tb_length, hTt.out]
        have := text_le (l4.map (·.2)) (fun p hp => by
          obtain ⟨x, hx, rfl⟩ := List.mem_map.1 hp
          exact (htx.out x hx).len)
        rw [List.length_map] at this
        omega
      rw [← hT]
      clear hT
      go_wp2_with (go_at_call 18; refine Hid.out ?_)
      refine Lib.hid ?_
      refine (read_any T (l4.map (·.2)) w5 hTs hTt hrd).mono ?_
      rintro e w6 ⟨v6, l6, rfl, hl6, hown6, heach6, hb6⟩
      have hB6 : Below w.heap.size w w6 := hB5.trans (hb6.mono hB5.size)
      obtain ⟨A6, c6, hv6, hr6⟩ := hown6.rd pvP_len
      have hlen6 : l6.length = l4.length := by have := congrArg List.length hl6; simpa using this
      rw [hlen6] at hv6 hr6
      subst hv6
      have hb46 : Below w4.heap.size w4 w6 := hb5.trans (hb6.mono hb5.size)
      have Hl6 := Lib.hid hl6
      have Heach6 := Lib.hid heach6
      clear hl6 heach6 hlen6
      go_wp2_with (go_at_call 20; refine Hid.out ?_)
      refine Lib.hid ?_
      refine (samePatches_any A6 A4 l4.length c6 c4 l6 l4 w6 hr6 ((hr4.below hb46).more hb46.size) (by omega) Hl6 (Lib.hid fun x hx => Rows.of_own dI_len (Heach6.out x hx)) (Lib.hid fun x hx => ((Rows.of_own dI_len (Heach4.out x hx)).below hb46).more hb46.size) (Lib.hid fun x hx => ?_)).mono ?_
      · have hm : x.2 ∈ l4.map (·.2) := by rw [← Hl6.out]; exact List.mem_map_of_mem hx
        obtain ⟨y, hy, e⟩ := List.mem_map.1 hm
        rw [← e]
        have := (htx.out y hy).few
        omega
      rintro e w7 ⟨rfl, hb7⟩
      have hB7 : Below w.heap.size w w7 := hB6.trans (hb7.mono hB6.size)
      have hb37 : Below w3.heap.size w3 w7 := ((hb4.trans (hb5.mono hb4.size)).trans (hb6.mono (Nat.le_trans hb4.size hb5.size))).trans (hb7.mono (Nat.le_trans hb4.size hb46.size))
      go_wp2_with (go_at_call 21; refine Hid.out ?_)
      refine Lib.hid ?_
      refine (edited_any A3 l3.length c3 l3 w7 ((hr3.below hb37).more hb37.size) (by omega) (Lib.hid fun d hd => by have := (hgood.2 d hd).len; omega)).mono ?_
      rintro e w8 ⟨rfl, hb8⟩
      have hB8 : Below w.heap.size w w8 := hB7.trans (hb8.mono hB7.size)
      have hiff : 0 < l4.length ↔ 0 < editedN l3 := by
        rw [edited_pos (fun d hd => (hgood.2 d hd).pos)]
        rw [List.length_pos_iff, ne_eq, Hnil4.out]
      by_cases hz : 0 < l4.length
      · have hz2 := hiff.1 hz
        have q1 : (0 : Int) < (l4.length : Int) := by omega
        have q2 : (0 : Int) < (editedN l3 : Int) := by omega
        go_wp2_with fail
        go_ret
        exact ⟨rfl, hB8⟩
      · have hz2 : ¬ 0 < editedN l3 := fun h => hz (hiff.2 h)
        have q1 : ¬ (0 : Int) < (l4.length : Int) := by omega
        have q2 : ¬ (0 : Int) < (editedN l3 : Int) := by omega
        go_wp2_with fail
        go_ret
        exact ⟨rfl, hB8⟩
end Go.Proofs.YtjebgfpcmooniaaGreatDoor

namespace Go.Proofs.YtjebgfpcmooniaaGreatDoor
open Go Go.RowKit Go.Joins Go.ChangeShapes Go.WideShapes Go.Deep
set_option maxRecDepth 100000

section
variable {H : Type} {enc : TypeId × Value → H} {P : Program} {w : World} {base : Nat} {spare : Nat → Bool} {held : Bool}
theorem trod_float {fuel : Nat} {t : TypeId} {k : FloatKind} {cs : List Value} {x : DataW H × List MemPlace} (ht : P.underlying t = some (.float k)) (h : DataW.trod enc P w base spare held fuel t cs = some x) : ∃ n, cs = [.float k n] := by
  cases fuel with
  | zero => simp [DataW.trod] at h
  | succ n =>
    unfold DataW.trod at h
    rw [ht] at h
    simp only at h
    split at h <;> simp_all

theorem open_agg7 {r : Reach} {b0 : Nat} {t : TypeId} {f0 f1 f2 f3 f4 f5 f6 : Field} {v : Value} {d : DataW H} {p : List MemPlace} (hs : P.underlying t = some (.struct #[f0, f1, f2, f3, f4, f5, f6])) (hone : oneCellFields P #[f0, f1, f2, f3, f4, f5, f6] = true) (hC : P.cellsOf t = 7)
    (hv : Value.okWide P w r b0 t v) (h : DataW.Trod enc P w base spare held t v d p) :
    ∃ (v0 v1 v2 v3 v4 v5 v6 : Value) (y0 y1 y2 y3 y4 y5 y6 : DataW H × List MemPlace) (n : Nat), v = .agg #[v0, v1, v2, v3, v4, v5, v6] ∧
      DataW.trod enc P w base spare held n f0.type [v0] = some y0 ∧ DataW.trod enc P w base spare held n f1.type [v1] = some y1 ∧ DataW.trod enc P w base spare held n f2.type [v2] = some y2 ∧ DataW.trod enc P w base spare held n f3.type [v3] = some y3 ∧ DataW.trod enc P w base spare held n f4.type [v4] = some y4 ∧ DataW.trod enc P w base spare held n f5.type [v5] = some y5 ∧ DataW.trod enc P w base spare held n f6.type [v6] = some y6 := by
  obtain ⟨cs, rfl, hsz⟩ := okWide_struct hs hv
  obtain ⟨l⟩ := cs
  match l, hsz.trans hC with
  | [c0, c1, c2, c3, c4, c5, c6], _ =>
    obtain ⟨fuel, hf⟩ := h
    obtain ⟨xs, n, _, hx, _, hlen, hg⟩ := DataW.trod_struct hs hf
    obtain ⟨o0, k0⟩ := hone_of hone 0 f0 rfl
    obtain ⟨o1, k1⟩ := hone_of hone 1 f1 rfl
    obtain ⟨o2, k2⟩ := hone_of hone 2 f2 rfl
    obtain ⟨o3, k3⟩ := hone_of hone 3 f3 rfl
    obtain ⟨o4, k4⟩ := hone_of hone 4 f4 rfl
    obtain ⟨o5, k5⟩ := hone_of hone 5 f5 rfl
    obtain ⟨o6, k6⟩ := hone_of hone 6 f6 rfl
    match xs, hlen with
    | [y0, y1, y2, y3, y4, y5, y6], _ =>
      exact ⟨c0, c1, c2, c3, c4, c5, c6, y0, y1, y2, y3, y4, y5, y6, n, rfl, by simpa [Value.cells, o0, k0] using hg 0 f0 rfl, by simpa [Value.cells, o1, k1] using hg 1 f1 rfl, by simpa [Value.cells, o2, k2] using hg 2 f2 rfl, by simpa [Value.cells, o3, k3] using hg 3 f3 rfl, by simpa [Value.cells, o4, k4] using hg 4 f4 rfl, by simpa [Value.cells, o5, k5] using hg 5 f5 rfl, by simpa [Value.cells, o6, k6] using hg 6 f6 rfl⟩
end

/-- settings, opened -/
theorem open_set {H : Type} {enc : TypeId × Value → H} {W : World} {base b0 : Nat} {spare : Nat → Bool} {held : Bool} {v : Value} {d : DataW H} {p : List MemPlace} (hv : Value.okWide Tryz.prog W .any b0 24 v) (h : DataW.Trod enc Tryz.prog W base spare held 24 v d p) :
    ∃ (half : Bool) (cost dist : Int) (th de : Nat) (mar bits : Int), v = .agg #[.bool half, .int .i64 cost, .int .i64 dist, .float .f64 th, .float .f64 de, .int .i64 mar, .int .i64 bits] := by
  obtain ⟨v0, v1, v2, v3, v4, v5, v6, y0, y1, y2, y3, y4, y5, y6, n, rfl, h0, h1, h2, h3, h4, h5, h6⟩ := open_agg7 Tryz.underlying24 (by kernel_rfl) (by kernel_rfl) hv h
  obtain ⟨half, e0, _⟩ := DataW.trod_bool Tryz.underlying4 h0
  obtain ⟨cost, e1, _⟩ := DataW.trod_int Tryz.underlying3 h1
  obtain ⟨dist, e2, _⟩ := DataW.trod_int Tryz.underlying3 h2
  obtain ⟨th, e3⟩ := trod_float Tryz.underlying22 h3
  obtain ⟨de, e4⟩ := trod_float Tryz.underlying22 h4
  obtain ⟨mar, e5, _⟩ := DataW.trod_int Tryz.underlying3 h5
  obtain ⟨bits, e6, _⟩ := DataW.trod_int Tryz.underlying3 h6
  simp only [List.cons.injEq, and_true] at e0 e1 e2 e3 e4 e5 e6
  subst e0 e1 e2 e3 e4 e5 e6
  exact ⟨half, cost, dist, th, de, mar, bits, rfl⟩

def toD : Value → Value → D
  | .int _ z, .string s => ⟨z, s⟩
  | _, _ => ⟨0, ByteArray.empty⟩

theorem cell_lt {W : World} {a : Addr} {v : Value} (h : W.cell? a = some v) : a.block < W.heap.size := by
  rcases Nat.lt_or_ge a.block W.heap.size with hl | hl
  · exact hl
  · simp [World.cell?, Array.getElem?_eq_none hl] at h

/-- differences behind a slice, opened -/
theorem open_difs {H : Type} {enc : TypeId × Value → H} {W : World} {base b0 : Nat} {spare : Nat → Bool} {held : Bool} {v : Value} {d : DataW H} {p : List MemPlace} (hv : Value.okWide Tryz.prog W .any b0 25 v) (h : DataW.Trod enc Tryz.prog W base spare held 25 v d p) :
    ∃ (A : Option Addr) (n c : Nat) (l : List D), v = .slice A n c ∧ n ≤ 9223372036854775807 ∧ RdL dI 2 W W.heap.size A n l := by
  obtain ⟨fuel, hf⟩ := h
  obtain ⟨a0, n0, c0, rfl⟩ := okWide_slice Tryz.underlying25 hv
  rcases open_slice_pairs Tryz.underlying25 Tryz.underlying64 (by kernel_rfl) rfl rfl (by kernel_rfl) (by kernel_rfl) hf with ⟨hcs, _⟩ | ⟨a, len, cap, m, n, V0, V1, D0, D1, P0, P1, hcs, _, hl, hm, hmm, _, hi⟩
  · have e : a0 = none ∧ n0 = 0 ∧ c0 = 0 := by simpa [Value.cells] using hcs
    obtain ⟨rfl, rfl, rfl⟩ := e
    exact ⟨none, 0, 0, [], rfl, by omega, RdL.none_⟩
  · have e : a0 = some a ∧ n0 = len ∧ c0 = cap := by simpa [Value.cells] using hcs
    obtain ⟨rfl, rfl, rfl⟩ := e
    unfold maxLen at hm
    refine ⟨some a, n0, c0, (List.range n0).map fun i => toD (V0 i) (V1 i), rfl, by omega, by simp, fun hn => ⟨a, rfl, ?_, fun i x hx j u hu => ?_⟩⟩
    · have := cell_lt (hi 0 (by rw [hmm]; split <;> omega)).1
      rwa [block_of_add] at this
    · rw [List.getElem?_map, Option.map_eq_some_iff] at hx
      obtain ⟨i', hi', rfl⟩ := hx
      obtain ⟨hlt, rfl⟩ := List.getElem?_eq_some_iff.1 hi'
      rw [List.length_range] at hlt
      simp only [List.getElem_range] at hu ⊢
      obtain ⟨g0, g1, t0, t1⟩ := hi i (by rw [hmm]; split <;> omega)
      obtain ⟨z, e0, _⟩ := DataW.trod_int Tryz.underlying3 t0
      obtain ⟨s, e1, _⟩ := DataW.trod_string Tryz.underlying9 t1
      simp only [List.cons.injEq, and_true] at e0 e1
      rw [e0] at g0 hu
      rw [e1] at g1 hu
      rcases j with _ | _ | j
      · simp [toD, dI] at hu
        subst hu
        rw [add_zero']; exact g0
      · simp [toD, dI] at hu
        subst hu
        rw [add_of_add]; exact g1
      · simp [dI] at hu
end Go.Proofs.YtjebgfpcmooniaaGreatDoor
