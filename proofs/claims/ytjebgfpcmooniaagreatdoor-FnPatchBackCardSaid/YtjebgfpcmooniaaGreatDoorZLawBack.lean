/- FnPatchBack: the walk of the law itself: it returns true. -/
import Derived.Test.YtjebgfpcmooniaaGreatDoorZOpen
import Derived.Test.YtjebgfpcmooniaaGreatDoorZFtDoor
namespace Go.Proofs.YtjebgfpcmooniaaGreatDoor
open Go Go.RowKit

theorem TextOk.len2 {p : P} (h : TextOk p) : (textP p).length ≤ 500000 := by
  have h1 := flat_le (f := fun d => lineL d ++ [10]) (M := 12002) p.ds fun d hd => by
    have := flat3 encU3 (tb d.t)
    rw [tb_length] at this
    have := h.sz d hd
    simp only [lineL, List.length_append, List.length_cons, List.length_nil]
    omega
  have h2 := Nat.mul_le_mul_right 12002 h.few
  have h3 := hdr_len h.num
  unfold textP
  rw [List.length_append, List.length_cons]
  omega
theorem text_le2 (ps : List P) (h : ∀ p ∈ ps, (textP p).length ≤ 500000) : (ps.flatMap textP).length ≤ ps.length * 500000 := by
  induction ps with
  | nil => simp
  | cons p ps ih =>
    rw [List.flatMap_cons, List.length_append, List.length_cons, Nat.add_mul]
    have := h p (by simp)
    have := ih fun q hq => h q (by simp [hq])
    omega

set_option maxRecDepth 100000 in
set_option maxHeartbeats 4000000 in
theorem back_law (half : Bool) (cost dist : Int) (th de : Nat) (mar bits : Int) (A : Option Addr) (n c : Nat) (l : List D) (w : World) (hr : RdL dI 2 w w.heap.size A n l) (hn : n ≤ 9223372036854775807) (ht : Tabs w) :
    Calls Tryz.prog 12 #[.agg #[.bool half, .int .i64 cost, .int .i64 dist, .float .f64 th, .float .f64 de, .int .i64 mar, .int .i64 bits], .slice A n c] w fun e w' => e = .returned (.bool true) ∧ Below w.heap.size w w' := by
  have hbA : Below w.heap.size w (w.alloc (.cells #[.bool half, .int .i64 cost, .int .i64 dist, .float .f64 th, .float .f64 de, .int .i64 mar, .int .i64 bits] 24)) := (Below.refl _ _).alloc (Nat.le_refl _) _
  have hh := heap_alloc_new w (.cells #[.bool half, .int .i64 cost, .int .i64 dist, .float .f64 th, .float .f64 de, .int .i64 mar, .int .i64 bits] 24)
  have hsA : w.heap.size < (w.alloc (.cells #[.bool half, .int .i64 cost, .int .i64 dist, .float .f64 th, .float .f64 de, .int .i64 mar, .int .i64 bits] 24)).heap.size := by simp
  go_enter Tryz.func12, Tryz.ntmps12
  go_wp2_with (go_at_call 14; refine Hid.out ?_)
  refine Lib.hid ?_
  generalize w.alloc (.cells #[.bool half, .int .i64 cost, .int .i64 dist, .float .f64 th, .float .f64 de, .int .i64 mar, .int .i64 bits] 24) = W at hbA hh hsA ⊢
  have hrA : RdL dI 2 W W.heap.size A n l := (hr.below hbA).more hbA.size
  refine (fits1_all A n c l W hrA hn).mono ?_
  rintro e w1 ⟨b1, rfl, hf1, hb1⟩
  have hB1 : Below w.heap.size w w1 := hbA.trans (hb1.mono hbA.size)
  cases b1 with
  | false =>
    go_wp2_with fail
    go_ret
    exact ⟨rfl, hB1⟩
  | true =>
    obtain ⟨hn1, hs1⟩ := hf1 rfl
    have hh1 := (hb1.block _ hsA).trans hh
    have y0 := blk_cell hh1 0
    have y1 := blk_cell hh1 1
    have y2 := blk_cell hh1 2
    have y3 := blk_cell hh1 3
    have y4 := blk_cell hh1 4
    have y5 := blk_cell hh1 5
    have y6 := blk_cell hh1 6
    simp at y0 y1 y2 y3 y4 y5 y6
    go_wp2_with (go_at_call 15; refine Hid.out ?_)
    refine Lib.hid ?_
    refine (usable_any half cost dist th de mar bits w1).mono ?_
    rintro e w2 ⟨b2, rfl, hf2, hb2⟩
    have hB2 : Below w.heap.size w w2 := hB1.trans (hb2.mono hB1.size)
    cases b2 with
    | false =>
      go_wp2_with fail
      go_ret
      exact ⟨rfl, hB2⟩
    | true =>
      have hus := Lib.hid (hf2 rfl)
      have hs1' := Lib.hid hs1
      clear y0 y1 y2 y3 y4 y5 y6 hs1 hf1 hf2
      go_wp2_with (go_at_call 16; refine Hid.out ?_)
      refine Lib.hid ?_
      refine (ptParts_any A n c l w2 ((hr.below hB2).more hB2.size) hn1 hs1').mono ?_
      rintro e w3 ⟨v3, l3, rfl, hgood, hown3, hb3⟩
      have hB3 : Below w.heap.size w w3 := hB2.trans (hb3.mono hB2.size)
      obtain ⟨A3, c3, rfl, hr3⟩ := hown3.rd dI_len
      have hh3 := (hb3.block _ (Nat.lt_of_lt_of_le hsA (Nat.le_trans hb1.size hb2.size))).trans ((hb2.block _ (Nat.lt_of_lt_of_le hsA hb1.size)).trans hh1)
      have y0 := blk_cell hh3 0
      have y1 := blk_cell hh3 1
      have y2 := blk_cell hh3 2
      have y3 := blk_cell hh3 3
      have y4 := blk_cell hh3 4
      have y5 := blk_cell hh3 5
      have y6 := blk_cell hh3 6
      simp at y0 y1 y2 y3 y4 y5 y6
      have hN := szL_good hgood
      have hokl : Hid (OkL asc l3 3600) := OkL.of (fun d hd => ⟨(hgood.2 d hd).lo, (hgood.2 d hd).hi⟩) (fun d hd => (hgood.2 d hd).asc) hN
      go_wp2_with (go_at_call 17; refine Hid.out ?_)
      refine Lib.hid ?_
      obtain ⟨mar', hmar⟩ := Int.eq_ofNat_of_zero_le (show 0 ≤ mar by have := hus.out.mar0; omega)
      subst hmar
      have hl30 : l3.length ≤ 30 := hgood.1
      refine (makeDiffs_any asc 3600 half cost dist th de mar' bits A3 l3.length c3 l3 w3 hus hokl (by omega) (by omega) hr3).mono ?_
      rintro e w4 ⟨v4, l4, rfl, hown4, heach4, hb4, -, hok4, hlen4, hnil4⟩
      have hB4 : Below w.heap.size w w4 := hB3.trans (hb4.mono hB3.size)
      obtain ⟨A4, c4, rfl, hr4⟩ := hown4.rd pvP_len
      have Hok4 := Lib.hid hok4
      have Heach4 := Lib.hid heach4
      have Hnil4 := Lib.hid hnil4
      have htx : Hid (∀ x ∈ l4, TextOk x.2) := fun x hx => textOk_of hl30 (Hok4.out x hx)
      have hrd : Hid (∀ p ∈ l4.map (·.2), ReadOk p) := fun p hp => by
        obtain ⟨x, hx, rfl⟩ := List.mem_map.1 hp
        exact ⟨numP_of (Hok4.out x hx), (Hok4.out x hx).op, (Hok4.out x hx).by_⟩
      have hlen4' : l4.length ≤ 30 := by omega
      clear y0 y1 y2 y3 y4 y5 y6 hok4 heach4 hnil4 hN
      go_wp2_with (go_at_call 19; refine Hid.out ?_)
      refine Lib.hid ?_
      refine (totext_any A4 l4.length c4 l4 w4 hr4 (by omega) (Lib.hid fun x hx => Rows.of_own dI_len (Heach4.out x hx)) (Lib.hid fun x hx => ⟨by have := (htx.out x hx).few; omega, (htx.out x hx).op⟩) htx (ht.below hB4)).mono ?_
      rintro e w5 ⟨rfl, hb5⟩
      have hB5 : Below w.heap.size w w5 := hB4.trans (hb5.mono hB4.size)
      obtain ⟨T, hT⟩ : ∃ T : ByteArray, T = ⟨((l4.map (·.2)).flatMap textP).toArray⟩ := ⟨_, rfl⟩
      have hTt : Hid (tb T = (l4.map (·.2)).flatMap textP) := by show _ = _; rw [hT]
      have hTs : T.size ≤ 16000000 := by
        rw [← tb_length, hTt.out]
        have := text_le2 (l4.map (·.2)) (fun p hp => by
          obtain ⟨x, hx, rfl⟩ := List.mem_map.1 hp
          exact (htx.out x hx).len2)
        rw [List.length_map] at this
        omega
      rw [← hT]
      clear hT
      go_wp2_with (go_at_call 42; refine Hid.out ?_)
      refine Lib.hid ?_
      refine (fromText_any T (l4.map (·.2)) w5 hTs hTt hrd (by rw [List.length_map]; omega) (Lib.hid fun p hp => by
        obtain ⟨x, hx, rfl⟩ := List.mem_map.1 hp
        have := (htx.out x hx).few
        omega) (ht.below hB5)).mono ?_
      rintro e w6 ⟨v6, l6, rfl, hl6, hown6, heach6, hb6⟩
      have hB6 : Below w.heap.size w w6 := hB5.trans (hb6.mono hB5.size)
      obtain ⟨A6, c6, hv6, hr6⟩ := hown6.rd pvP_len
      have hlen6 : l6.length = l4.length := by have := congrArg List.length hl6; simpa using this
      rw [hlen6] at hv6 hr6
      subst hv6
      have hb46 : Below w4.heap.size w4 w6 := hb5.trans (hb6.mono hb5.size)
      have Hl6 := Lib.hid hl6
      have Heach6 := Lib.hid heach6
      clear hl6 heach6 hlen6
      go_wp2_with (go_at_call 20; refine Hid.out ?_)
      refine Lib.hid ?_
      refine (samePatches_any A6 A4 l4.length c6 c4 l6 l4 w6 hr6 ((hr4.below hb46).more hb46.size) (by omega) Hl6 (Lib.hid fun x hx => Rows.of_own dI_len (Heach6.out x hx)) (Lib.hid fun x hx => ((Rows.of_own dI_len (Heach4.out x hx)).below hb46).more hb46.size) (Lib.hid fun x hx => ?_)).mono ?_
      · have hm : x.2 ∈ l4.map (·.2) := by rw [← Hl6.out]; exact List.mem_map_of_mem hx
        obtain ⟨y, hy, e⟩ := List.mem_map.1 hm
        rw [← e]
        have := (htx.out y hy).few
        omega
      rintro e w7 ⟨rfl, hb7⟩
      have hB7 : Below w.heap.size w w7 := hB6.trans (hb7.mono hB6.size)
      have hb37 : Below w3.heap.size w3 w7 := ((hb4.trans (hb5.mono hb4.size)).trans (hb6.mono (Nat.le_trans hb4.size hb5.size))).trans (hb7.mono (Nat.le_trans hb4.size hb46.size))
      go_wp2_with (go_at_call 21; refine Hid.out ?_)
      refine Lib.hid ?_
      refine (edited_any A3 l3.length c3 l3 w7 ((hr3.below hb37).more hb37.size) (by omega) (Lib.hid fun d hd => by have := (hgood.2 d hd).len; omega)).mono ?_
      rintro e w8 ⟨rfl, hb8⟩
      have hB8 : Below w.heap.size w w8 := hB7.trans (hb8.mono hB7.size)
      have hiff : 0 < l4.length ↔ 0 < editedN l3 := by
        rw [edited_pos (fun d hd => (hgood.2 d hd).pos)]
        rw [List.length_pos_iff, ne_eq, Hnil4.out]
      by_cases hz : 0 < l4.length
      · have hz2 := hiff.1 hz
        have q1 : (0 : Int) < (l4.length : Int) := by omega
        have q2 : (0 : Int) < (editedN l3 : Int) := by omega
        go_wp2_with fail
        go_ret
        exact ⟨rfl, hB8⟩
      · have hz2 : ¬ 0 < editedN l3 := fun h => hz (hiff.2 h)
        have q1 : ¬ (0 : Int) < (l4.length : Int) := by omega
        have q2 : ¬ (0 : Int) < (editedN l3 : Int) := by omega
        go_wp2_with fail
        go_ret
        exact ⟨rfl, hB8⟩
end Go.Proofs.YtjebgfpcmooniaaGreatDoor
