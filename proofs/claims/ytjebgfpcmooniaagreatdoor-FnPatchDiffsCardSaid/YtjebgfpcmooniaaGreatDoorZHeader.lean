/- Patches that are read: the rows while they grow. No program in sight. ptHeader: a header's line, as the package writes it. -/
import Derived.Test.YtjebgfpcmooniaaGreatDoorZSame
import Derived.Test.YtjebgfpcmooniaaGreatDoorZTabs
import Derived.Test.YtjebgfpcmooniaaGreatDoorZMkBase
namespace Go.Proofs.YtjebgfpcmooniaaGreatDoor
open Go Go.RowKit

/-- the patches so far: all own their rows, the last one's row is of no other -/
structure RpM (w : World) (k : Nat) (L : List P) (v : Value) (l : List (Value × P)) (wr : World) : Prop where
  list : l.map (·.2) = L
  own : OwnL pvP 66 5 wr w.heap.size v l
  each : ∀ x ∈ l, OwnL dI 64 2 wr w.heap.size x.1 x.2.ds
  few : l.length ≤ k ∧ ∀ x ∈ l, x.2.ds.length ≤ k
  apart : ∀ a x, l = a ++ [x] → ∀ y ∈ a, y.1.ownBlock = none ∨ y.1.ownBlock ≠ x.1.ownBlock
  below : Below w.heap.size w wr

theorem RpM.start (w : World) : RpM w 0 [] (.slice none 0 0) [] w :=
  ⟨rfl, OwnL.nil _ _, by simp, by simp, fun a x e => by simp at e, Below.refl _ _⟩
theorem RpM.on {w wr w2 : World} {k : Nat} {L : List P} {v : Value} {l : List (Value × P)} (h : RpM w k L v l wr) (hb : Below wr.heap.size wr w2) : RpM w k L v l w2 :=
  ⟨h.list, h.own.below_size hb, fun x hx => (h.each x hx).below_size hb, h.few, h.apart, h.below.trans (hb.mono h.below.size)⟩

theorem RpM.hdr {w wr w1 : World} {k : Nat} {L : List P} {v v1 : Value} {l : List (Value × P)} (h : RpM w k L v l wr) (p : P)
    (hown : OwnL pvP 66 5 w1 w.heap.size v1 (l ++ [(.slice none 0 0, { p with ds := [] })])) (hg : wr.grownBy w1 v.ownBlock) : RpM w (k + 1) (readStep L (.hdr p)) v1 (l ++ [(.slice none 0 0, { p with ds := [] })]) w1 := by
  refine ⟨by rw [List.map_append, h.list]; rfl, hown, fun x hx => ?_, ⟨by simp; exact h.few.1, fun x hx => ?_⟩, fun a x e y hy => ?_, h.below.trans (below_of_gb hg h.below.size fun g e => (h.own.lt g e).1)⟩
  · rcases List.mem_append.1 hx with hx | hx
    · exact (h.each x hx).kept hg (own_ne (h.each x hx) h.own (by omega))
    · rw [List.mem_singleton.1 hx]; exact OwnL.nil _ _
  · rcases List.mem_append.1 hx with hx | hx
    · have := h.few.2 x hx; omega
    · rw [List.mem_singleton.1 hx]; simp
  · obtain ⟨rfl, e2⟩ := List.append_inj' e rfl
    injection e2 with e2 _
    subst e2
    show _ ∨ y.1.ownBlock ≠ none
    cases y.1.ownBlock with
    | none => exact .inl rfl
    | some g => exact .inr (by simp)

theorem RpM.dif {w wr w1 : World} {k g n c : Nat} {L : List P} {v1 : Value} {a : List (Value × P)} {x : Value × P} (h : RpM w k L (.slice (some ⟨g, 0, none⟩) n c) (a ++ [x]) wr) (d : D)
    (hown : OwnL dI 64 2 w1 w.heap.size v1 (x.2.ds ++ [d])) (hg : wr.grownBy w1 x.1.ownBlock) (hat : v1.ownBlock = x.1.ownBlock ∨ ∀ q, v1.ownBlock = some q → wr.heap.size ≤ q) :
    RpM w (k + 1) (readStep L (.dif d)) (.slice (some ⟨g, 0, none⟩) n c) (a ++ [(v1, addD d x.2)]) (w1.setCell ⟨g, a.length * 5, none⟩ v1) := by
  have hx : x ∈ a ++ [x] := by simp
  have hgb : Below w.heap.size w w1 := h.below.trans (below_of_gb hg h.below.size fun q e => ((h.each x hx).lt q e).1)
  have hgo : w.heap.size ≤ g := (h.own.lt g rfl).1
  have ho1 : OwnL pvP 66 5 w1 w.heap.size (.slice (some ⟨g, 0, none⟩) n c) (a ++ [x]) := h.own.kept hg (own_ne h.own (h.each x hx) (by omega))
  have ho2 := ho1.setAt (i := a.length) (j := 0) (x := x) (x' := (v1, addD d x.2)) (u := v1) pvP_len (by simp) (by omega) rfl
  rw [Nat.add_zero, List.set_append_right _ _ (Nat.le_refl _), Nat.sub_self, List.set_cons_zero] at ho2
  have hne : ∀ y : Value × P, OwnL dI 64 2 w1 w.heap.size y.1 y.2.ds → y.1.ownBlock ≠ some g := fun y hy e => by
    rcases own_ne hy ho1 (by omega) with h1 | h1
    · rw [h1] at e; cases e
    · exact h1 (by rw [e]; rfl)
  refine ⟨?_, ho2, fun y hy => ?_, ⟨by have := h.few.1; simp at this ⊢; omega, fun y hy => ?_⟩, fun b z e y hy => ?_, below_set8 hgb hgo _⟩
  · rw [← h.list, List.map_append, List.map_append]
    show _ = readStep (_ ++ [x.2]) _
    rw [readStep_dif]; rfl
  · rcases List.mem_append.1 hy with hy | hy
    · have h1 := (h.each y (by simp [hy])).kept hg (h.apart a x rfl y hy)
      exact h1.setCell_other (hne y h1) _
    · rw [List.mem_singleton.1 hy]
      have h1 : OwnL dI 64 2 w1 w.heap.size (v1, addD d x.2).1 (v1, addD d x.2).2.ds := hown
      exact h1.setCell_other (hne _ h1) _
  · rcases List.mem_append.1 hy with hy | hy
    · have := h.few.2 y (by simp [hy]); omega
    · rw [List.mem_singleton.1 hy]
      have := h.few.2 x hx
      show (x.2.ds ++ [d]).length ≤ _
      rw [List.length_append, List.length_singleton]; omega
  · obtain ⟨rfl, e2⟩ := List.append_inj' e rfl
    injection e2 with e2 _
    subst e2
    show _ ∨ y.1.ownBlock ≠ v1.ownBlock
    rcases hat with hat | hat
    · rw [hat]; exact h.apart a x rfl y hy
    · cases hb : y.1.ownBlock with
      | none => exact .inl rfl
      | some q =>
        refine .inr fun e => ?_
        have h1 := hat q e.symm
        have h2 := ((h.each y (by simp [hy])).lt q hb).2
        omega
end Go.Proofs.YtjebgfpcmooniaaGreatDoor

namespace Go.Proofs.YtjebgfpcmooniaaGreatDoor
open Go Go.RowKit

/-- the numbers of a span, in either form -/
theorem numbers_any (s : ByteArray) (st n : Int) (w : World) (h : Hid (Coord (tb s) st n)) :
    Calls Tryz.prog 88 #[.string s] w fun e w' => e = .returned (.tuple #[.int .i64 st, .int .i64 n, .bool true]) ∧ Below w.heap.size w w' := by
  cases h.out with
  | one hd h0 h9 hs hn => subst hs hn; exact numbers_one s w hd h0 h9
  | two p q e hp hq h0 h9 hs hn => subst hs hn; exact numbers_two s p q w e hp hq h0 h9

theorem take_drop3 {a b c : List UInt8} {i j : Nat} (hi : i = a.length) (hj : j = a.length + b.length) : ((a ++ (b ++ c)).take j).drop i = b := by
  subst hi hj
  rw [← List.append_assoc, List.take_left' (by rw [List.length_append]), List.drop_left' rfl]

set_option maxRecDepth 100000 in
set_option maxHeartbeats 2000000 in
theorem header_any (s : ByteArray) (p : P) (w : World) (hst : Hid (tb s = hdrL p)) (hp : Hid (NumP p)) :
    Calls Tryz.prog 51 #[.string s] w fun e w' => e = .returned (.tuple #[.agg #[.slice none 0 0, .int .i64 p.s1, .int .i64 p.s2, .int .i64 p.l1, .int .i64 p.l2], .bool true]) ∧ Below w.heap.size w w' := by
  obtain ⟨⟨a1, a2⟩, ⟨b1, b2⟩, ⟨a3, a4⟩, ⟨b3, b4⟩⟩ := hp.out
  have c1 := Lib.hid (spanL_coord a1 a3 a2 a4)
  have c2 := Lib.hid (spanL_coord b1 b3 b2 b4)
  have n1 := Lib.hid (spanL_sign a1 a3)
  have n2 := Lib.hid (spanL_sign b1 b3)
  have z1 := spanL_len a1 a3 a2 a4
  have z2 := spanL_len b1 b3 b2 b4
  have hdef : tb s = hdrL p := hst.out
  rw [hdrL] at hdef
  obtain ⟨S1, h1⟩ : ∃ S1, spanL p.s1 p.l1 = S1 := ⟨_, rfl⟩
  obtain ⟨S2, h2⟩ : ∃ S2, spanL p.s2 p.l2 = S2 := ⟨_, rfl⟩
  rw [h1] at hdef c1 n1 z1
  rw [h2] at hdef c2 n2 z2
  have hsz : s.size = S1.length + S2.length + 9 := by
    have := congrArg List.length hdef
    rw [tb_length] at this
    simp only [List.length_append, List.length_cons, List.length_nil] at this
    omega
  have e1 : (s.extract 0 4).toList = [64, 64, 32, 45] := by
    rw [toList_tb, tb_extract, hdef]; rfl
  have e2 : (s.extract (s.size - 3) s.size).toList = [32, 64, 64] := by
    rw [toList_tb, tb_extract, hdef, List.take_of_length_le (by rw [← hdef, tb_length]; omega)]
    rw [List.drop_left' (by simp only [List.length_append, List.length_cons, List.length_nil]; omega)]
  obtain ⟨m, hm⟩ : ∃ m, m = s.extract 4 (s.size - 3) := ⟨_, rfl⟩
  have hmt : Hid (tb m = S1 ++ 32 :: 43 :: S2) := by
    show _ = _
    rw [hm, tb_extract, hdef]
    rw [show [64, 64, 32, 45] ++ S1 ++ [32, 43] ++ S2 ++ [32, 64, 64] = [64, 64, 32, 45] ++ ((S1 ++ 32 :: 43 :: S2) ++ [32, 64, 64]) by simp]
    exact take_drop3 rfl (by simp only [List.length_append, List.length_cons, List.length_nil]; omega)
  have hmz : m.size = S1.length + S2.length + 2 := by
    have := congrArg List.length hmt.out
    rw [tb_length] at this
    simp only [List.length_append, List.length_cons] at this
    omega
  have h6n : 6 ≤ s.size := by omega
  have h3n : 3 ≤ s.size := by omega
  have h100 : s.size ≤ 100 := by omega
  have h4n : 4 ≤ s.size - 3 := by omega
  have h6 : ¬ ((s.size : Int) < 6) := by omega
  have h6' : decide ((s.size : Int) < 6) = false := by simp; omega
  have hm' := hm.symm
  have Hmz := Lib.hid hmz
  have hm10 : m.size ≤ 50 := by omega
  clear hdef hm hsz hmz a1 a2 a3 a4 b1 b2 b3 b4 h1 h2
  go_enter Tryz.func51, Tryz.ntmps51
  go_wp2_with (go_at_call 50; refine Hid.out ?_)
  refine Lib.hid ?_
  have hbA : Below w.heap.size w (w.alloc (.cells #[.slice none 0 0, .int .i64 0, .int .i64 0, .int .i64 0, .int .i64 0] 66)) := (Below.refl _ _).alloc (Nat.le_refl _) _
  have hh := heap_alloc_new w (.cells #[.slice none 0 0, .int .i64 0, .int .i64 0, .int .i64 0, .int .i64 0] 66)
  have hsA : w.heap.size < (w.alloc (.cells #[.slice none 0 0, .int .i64 0, .int .i64 0, .int .i64 0, .int .i64 0] 66)).heap.size := by simp
  generalize w.alloc (.cells #[.slice none 0 0, .int .i64 0, .int .i64 0, .int .i64 0, .int .i64 0] 66) = W at hbA hh hsA ⊢
  refine (split_any m 32 W (by omega)).mono ?_
  rintro e w1 ⟨v, l, rfl, hl, hown, hll, hb1⟩
  have hno : ∀ b ∈ S1, b ≠ 32 := by
    intro b hb e
    have := (n1.out b hb).1
    subst e
    revert this; decide
  have hno2 : ∀ b ∈ 43 :: S2, b ≠ 32 := by
    intro b hb e
    rcases List.mem_cons.1 hb with h | hb
    · subst h; revert e; decide
    · have := (n2.out b hb).1
      subst e
      revert this; decide
  rw [hmt.out, splitL_one hno, splitL_none hno2] at hl
  obtain ⟨x, y, rfl⟩ := two_of (show l.length = 2 by have := congrArg List.length hl; simpa using this)
  simp only [List.map_cons, List.map_nil, List.cons.injEq, and_true] at hl
  obtain ⟨hx, hy⟩ := hl
  obtain ⟨A, c, rfl, hr⟩ := hown.rd sC_len
  obtain ⟨ad, x', rfl, hab, hx', hc⟩ := rd_sC hr (show 0 < 2 by omega)
  obtain ⟨ad', y', he, hab', hy', hc'⟩ := rd_sC hr (show 1 < 2 by omega)
  injection he with he
  subst he
  have q1 : x = x' := by simpa using hx'
  have q2 : y = y' := by simpa using hy'
  subst q1 q2
  rw [add_zero'] at hc
  have hc1 : w1.cell? ⟨ad.block, ad.off + 1, none⟩ = some (.string y) := by simpa [Addr.add] using hc'
  have hh1 : w1.heap[w.heap.size]? = some (.cells #[.slice none 0 0, .int .i64 0, .int .i64 0, .int .i64 0, .int .i64 0] 66 (0, 0)) := (hb1.block _ hsA).trans hh
  have hys : y.size = S2.length + 1 := by rw [← tb_length, hy]; simp
  have hy1 : 1 ≤ y.size := by omega
  have hy100 : y.size ≤ 50 := by omega
  have hye : y.toList.isEmpty = false := by rw [toList_tb, hy]; rfl
  have hy0 : ∃ h0 : 0 < y.size, y[0]'h0 = 43 := by
    refine ⟨by omega, ?_⟩
    have : (tb y)[0]? = some 43 := by rw [hy]; rfl
    rw [List.getElem?_eq_getElem (by rw [tb_length]; omega)] at this
    injection this
  obtain ⟨hy0, hyc⟩ := hy0
  have hyb : ((((y[0]'hy0).toNat : Nat) : Int) != 43) = false := by rw [hyc]; decide
  obtain ⟨z, hz⟩ : ∃ z, y.extract 1 y.size = z := ⟨_, rfl⟩
  have hzt : tb z = S2 := by
    rw [← hz, tb_extract, hy, List.take_of_length_le (by simp; omega)]; rfl
  have Hx := Lib.hid hx
  have Hz := Lib.hid hzt
  clear hx hy hys hzt hyc hc' hx' hy' hno hno2
  go_wp2_with (go_at_call 88; refine Hid.out ?_)
  refine Lib.hid ?_
  refine (numbers_any x p.s1 p.l1 w1 (Lib.hid (by rw [Hx.out]; exact c1.out))).mono ?_
  rintro e w2 ⟨rfl, hb2⟩
  have hc1' : w2.cell? ⟨ad.block, ad.off + 1, none⟩ = some (.string y) := (hb2.cell (p := ⟨ad.block, ad.off + 1, none⟩) hab).trans hc1
  go_wp2_with (go_at_call 88; refine Hid.out ?_)
  refine Lib.hid ?_
  refine (numbers_any z p.s2 p.l2 w2 (Lib.hid (by rw [Hz.out]; exact c2.out))).mono ?_
  rintro e w3 ⟨rfl, hb3⟩
  have hsz1 := hb1.size
  have hh3 : w3.heap[w.heap.size]? = some (.cells #[.slice none 0 0, .int .i64 0, .int .i64 0, .int .i64 0, .int .i64 0] 66 (0, 0)) :=
    (hb3.block _ (by have := hb2.size; omega)).trans ((hb2.block _ (by omega)).trans hh1)
  have y0 := blk_cell hh3 0
  have y1 := blk_cell hh3 1
  have y2 := blk_cell hh3 2
  have y3 := blk_cell hh3 3
  have y4 := blk_cell hh3 4
  have fy0 := blk_frozen hh3 0
  have fy1 := blk_frozen hh3 1
  have fy2 := blk_frozen hh3 2
  have fy3 := blk_frozen hh3 3
  have fy4 := blk_frozen hh3 4
  simp at y0 y1 y2 y3 y4
  have hb03 : Below w.heap.size w w3 := (hbA.trans (hb1.mono hbA.size)).trans ((hb2.mono (Nat.le_trans hbA.size hb1.size)).trans (hb3.mono (Nat.le_trans hbA.size (Nat.le_trans hb1.size hb2.size))))
  go_wp2_with fail
  have fb : Below w.heap.size w (stR w3 w.heap.size (.slice none 0 0) p.s1 p.s2 p.l1 p.l2) :=
    ((((hb03.setCell (by simp) _).setCell (by simp) _).setCell (by simp) _).setCell (by simp) _).setCell (by simp) _
  have fh : (stR w3 w.heap.size (.slice none 0 0) p.s1 p.s2 p.l1 p.l2).heap[w.heap.size]? = some (.cells #[.slice none 0 0, .int .i64 p.s1, .int .i64 p.s2, .int .i64 p.l1, .int .i64 p.l2] 66 (0, 0)) := by
    have e2 := blk_set (blk_set (blk_set (blk_set (blk_set hh3 0 (.slice none 0 0)) 1 (.int .i64 p.s1)) 2 (.int .i64 p.s2)) 3 (.int .i64 p.l1)) 4 (.int .i64 p.l2)
    simpa [stR] using e2
  change bodyPost _ _ _ _ _ (stR w3 w.heap.size (.slice none 0 0) p.s1 p.s2 p.l1 p.l2)
  generalize stR w3 w.heap.size (.slice none 0 0) p.s1 p.s2 p.l1 p.l2 = wF at fb fh ⊢
  have z0 := blk_cell fh 0
  have z1 := blk_cell fh 1
  have z2 := blk_cell fh 2
  have z3 := blk_cell fh 3
  have z4 := blk_cell fh 4
  simp at z0 z1 z2 z3 z4
  exact bodyPost_ret (v := .tuple #[.agg #[.slice none 0 0, .int .i64 p.s1, .int .i64 p.s2, .int .i64 p.l1, .int .i64 p.l2], .bool true]) (by simp [results, Tryz.results51, go_sem, z0, z1, z2, z3, z4]) rfl ⟨rfl, fb⟩
end Go.Proofs.YtjebgfpcmooniaaGreatDoor
