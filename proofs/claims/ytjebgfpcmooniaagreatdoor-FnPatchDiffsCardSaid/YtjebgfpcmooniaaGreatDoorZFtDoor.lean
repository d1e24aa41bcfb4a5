/- Patches that are read by the package: their numbers, their lines, the rows while they grow. No program in sight but its types. -/
import Derived.Test.YtjebgfpcmooniaaGreatDoorZZhead
import Derived.Test.YtjebgfpcmooniaaGreatDoorZUnq
import Derived.Test.YtjebgfpcmooniaaGreatDoorZMkBase
import Derived.Test.YtjebgfpcmooniaaGreatDoorZRead
import Derived.Lib.Atoi
namespace Go.Proofs.YtjebgfpcmooniaaGreatDoor
open Go Go.RowKit

/-! numbers -/
theorem decFrom_digs (l : List UInt8) (h : ∀ b ∈ l, 48 ≤ b.toNat ∧ b.toNat ≤ 57) (acc : Nat) : Lib.decFrom acc l = some (l.foldl (fun n b => n * 10 + (b.toNat - 48)) acc) := by
  induction l generalizing acc with
  | nil => rfl
  | cons b l ih =>
    have hb := h b (by simp)
    unfold Lib.decFrom Lib.digitVal
    rw [if_pos hb]
    exact ih (fun x hx => h x (by simp [hx])) _
theorem atoi_digs {l : List UInt8} (h : Digs l) : Lib.atoi l = some (numL l : Int) := by
  cases l with
  | nil => have := h.pos; simp at this
  | cons b r =>
    have hb := h.dig b (by simp)
    have h1 : (b == 45) = false := by rw [beq_eq_false_iff_ne]; intro e; subst e; revert hb; decide
    have h2 : (b == 43) = false := by rw [beq_eq_false_iff_ne]; intro e; subst e; revert hb; decide
    have h3 : Lib.decNat (b :: r) = some (numL (b :: r)) := decFrom_digs _ h.dig 0
    simp only [Lib.atoi, h1, h2, h3, Bool.false_eq_true, if_false]
    rfl
/-- what a span's parts say -/
inductive SpanIs (s n : Int) (p q : List UInt8) : Prop
  | zero (hn : n = 0) (hq : q = [48]) (ha : Lib.atoi p = some s)
  | one (hn : n = 1) (hq : q = []) (ha : Lib.atoi p = some (s + 1))
  | many (hn : n ≠ 0) (h0 : 0 < q.length) (h1 : q ≠ [48]) (hl : q.length ≤ 18) (ha : Lib.atoi p = some (s + 1)) (hb : Lib.atoi q = some n)
theorem span_of {s n : Int} (hs : 0 ≤ s) (hn : 0 ≤ n) (hs9 : s < 100000000) (hn9 : n < 100000000) : ∃ p q, Span (spanL s n) p q ∧ SpanIs s n p q ∧ p.length ≤ 18 := by
  obtain ⟨s, rfl⟩ := Int.eq_ofNat_of_zero_le hs
  obtain ⟨n, rfl⟩ := Int.eq_ofNat_of_zero_le hn
  unfold spanL
  have d0 := dec_digs (u := s) (by omega)
  have d1 := dec_digs (u := s + 1) (by omega)
  have d2 := dec_digs (u := n) (by omega)
  have e : ((s : Int) + 1) = ((s + 1 : Nat) : Int) := by omega
  split
  · rename_i h
    have h48 : Digs [48] := ⟨by simp, by simp, by simp⟩
    refine ⟨Lib.itoa (s : Int), [48], ⟨by rw [itoa_nat]; exact d0, .inr ⟨h48, rfl⟩⟩, .zero h rfl (by rw [itoa_nat, atoi_digs d0, dec_num]), by rw [itoa_nat]; have := d0.few; omega⟩
  · split
    · rename_i h
      rw [e, itoa_nat]
      exact ⟨_, [], ⟨d1, .inl ⟨rfl, rfl⟩⟩, .one h rfl (by rw [atoi_digs d1, dec_num]; rfl), by have := d1.few; omega⟩
    · rename_i h0 h1
      rw [e, itoa_nat, itoa_nat]
      refine ⟨_, Lib.decDigits n, ⟨d1, .inr ⟨d2, rfl⟩⟩, .many h0 d2.pos ?_ (by have := d2.few; omega) (by rw [atoi_digs d1, dec_num]; rfl) (by rw [atoi_digs d2, dec_num]), by have := d1.few; omega⟩
      intro h
      have := dec_num n
      rw [h] at this
      have h48 : numL [48] = 0 := rfl
      omega

/-! lines -/
def preN (ps : List P) (j : Nat) : Nat := (items (ps.take j)).length
theorem items_cons (p : P) (ps : List P) : items (p :: ps) = .hdr p :: (p.ds.map .dif ++ items ps) := by simp [items, itemsP]
theorem items_append (a b : List P) : items (a ++ b) = items a ++ items b := by simp [items]
theorem items_split {ps : List P} {j : Nat} {p : P} (h : ps[j]? = some p) : items ps = items (ps.take j) ++ (.hdr p :: (p.ds.map .dif ++ items (ps.drop (j + 1)))) := by
  obtain ⟨hj, e⟩ := List.getElem?_eq_some_iff.1 h
  rw [← items_cons, ← items_append]
  congr 1
  rw [← e, ← List.drop_eq_getElem_cons hj, List.take_append_drop]
theorem preN_hdr {ps : List P} {j : Nat} {p : P} (h : ps[j]? = some p) : (items ps)[preN ps j]? = some (.hdr p) := by
  rw [items_split h, preN, List.getElem?_append_right (Nat.le_refl _), Nat.sub_self]; rfl
theorem preN_dif {ps : List P} {j i : Nat} {p : P} {d : D} (h : ps[j]? = some p) (hd : p.ds[i]? = some d) : (items ps)[preN ps j + 1 + i]? = some (.dif d) := by
  have hi : i < p.ds.length := (List.getElem?_eq_some_iff.1 hd).1
  rw [items_split h, preN, List.getElem?_append_right (by omega), show (items (ps.take j)).length + 1 + i - (items (ps.take j)).length = i + 1 by omega, List.getElem?_cons_succ, List.getElem?_append_left (by rw [List.length_map]; exact hi), List.getElem?_map, hd]
  rfl
theorem preN_succ {ps : List P} {j : Nat} {p : P} (h : ps[j]? = some p) : preN ps (j + 1) = preN ps j + 1 + p.ds.length := by
  unfold preN
  rw [take_succ_some h, items_append, List.length_append]
  simp [items, itemsP]
  omega
theorem preN_all (ps : List P) : preN ps ps.length = (items ps).length := by rw [preN, List.take_length]
theorem preN_le (ps : List P) (j : Nat) : preN ps j ≤ (items ps).length := by
  have : items ps = items (ps.take j) ++ items (ps.drop j) := by rw [← items_append, List.take_append_drop]
  rw [this, List.length_append]; unfold preN; omega

/-- what stands behind a line's sign reads as escaped text -/
theorem plain_44 : ∀ n : Nat, n < 58 → 44 ≤ n → encU (UInt8.ofNat n) = [UInt8.ofNat n] := by decide +kernel
theorem encU_44 {b : UInt8} (h : 44 ≤ b.toNat ∧ b.toNat ≤ 57) : encU b = [b] := by
  have := plain_44 b.toNat (by omega) h.1
  rwa [UInt8.ofNat_toNat] at this
theorem hdr_plain {p : P} (h : NumP p) : ((hdrL p).drop 1).flatMap pluE = ((hdrL p).drop 1).flatMap encV := by
  have h1 : ∀ b ∈ hdrL p, encU b = [b] := by
    intro b hb
    have c1 : encU 64 = [64] := by decide +kernel
    have c2 : encU 32 = [32] := by decide +kernel
    have c3 : encU 45 = [45] := by decide +kernel
    have c4 : encU 43 = [43] := by decide +kernel
    unfold hdrL at hb
    simp only [List.mem_append, List.mem_cons, List.not_mem_nil, or_false] at hb
    rcases hb with ((((rfl | rfl | rfl | rfl) | hb) | rfl | rfl) | hb) | rfl | rfl | rfl
    all_goals first | exact c1 | exact c2 | exact c3 | exact c4 | skip
    · exact encU_44 (spanL_sign h.s1.1 h.l1.1 b hb)
    · exact encU_44 (spanL_sign h.s2.1 h.l2.1 b hb)
  have h2 : ∀ b ∈ (hdrL p).drop 1, encU b = [b] := fun b hb => h1 b (List.mem_of_mem_drop hb)
  generalize (hdrL p).drop 1 = l at h2
  induction l with
  | nil => rfl
  | cons b l ih =>
    rw [List.flatMap_cons, List.flatMap_cons, ih fun x hx => h2 x (by simp [hx])]
    congr 1
    unfold encV
    rw [h2 b (by simp)]
    simp

/-! rows -/
/-- between two patches: the cell of the patch under way lies at G -/
structure FO (w : World) (G : Nat) (vs : Value) (ll : List ByteArray) (wr : World) (v6 : Value) (L : List (Value × P)) : Prop where
  gB : w.heap.size ≤ G
  bk : ∃ dv p, wr.heap[G]? = some (.cells (pC dv p) 114 (0, 0))
  pat : OwnL pvP 114 5 wr w.heap.size v6 L
  pne : v6.ownBlock ≠ some G
  each : ∀ x ∈ L, OwnL dP 128 2 wr w.heap.size x.1 x.2.ds
  lines : OwnL sC 9 1 wr w.heap.size vs ll
  bel : Below w.heap.size w wr
/-- while a patch is made -/
structure FW (w : World) (G : Nat) (vs : Value) (ll : List ByteArray) (wr : World) (v6 dv : Value) (cur : P) (L : List (Value × P)) (m : Nat) : Prop where
  gB : w.heap.size ≤ G
  bk : wr.heap[G]? = some (.cells (pC dv cur) 114 (0, 0))
  own : OwnL dP 128 2 wr w.heap.size dv cur.ds
  pat : OwnL pvP 114 5 wr w.heap.size v6 L
  pne : v6.ownBlock ≠ some G
  each : ∀ x ∈ L, OwnL dP 128 2 wr w.heap.size x.1 x.2.ds ∧ ∀ g, x.1.ownBlock = some g → g < m
  cm : ∀ g, dv.ownBlock = some g → m ≤ g
  msz : m ≤ wr.heap.size
  lines : OwnL sC 9 1 wr w.heap.size vs ll
  bel : Below w.heap.size w wr

section
variable {w wr w1 : World} {G : Nat} {vs v6 v6' dv dv' : Value} {ll : List ByteArray} {cur : P} {L : List (Value × P)} {m : Nat}
theorem FO.on (h : FO w G vs ll wr v6 L) (hb : Below wr.heap.size wr w1) : FO w G vs ll w1 v6 L := by
  obtain ⟨dv, p, hk⟩ := h.bk
  exact ⟨h.gB, ⟨dv, p, (hb.block _ (Array.getElem?_eq_some_iff.1 hk).1).trans hk⟩, h.pat.below_size hb, h.pne, fun x hx => (h.each x hx).below_size hb, h.lines.below_size hb, h.bel.trans (hb.mono h.bel.size)⟩
theorem FW.on (h : FW w G vs ll wr v6 dv cur L m) (hb : Below wr.heap.size wr w1) : FW w G vs ll w1 v6 dv cur L m :=
  ⟨h.gB, (hb.block _ (Array.getElem?_eq_some_iff.1 h.bk).1).trans h.bk, h.own.below_size hb, h.pat.below_size hb, h.pne, fun x hx => ⟨(h.each x hx).1.below_size hb, (h.each x hx).2⟩, h.cm, Nat.le_trans h.msz hb.size, h.lines.below_size hb, h.bel.trans (hb.mono h.bel.size)⟩
theorem FO.begin (h : FO w G vs ll wr v6 L) : FW w G vs ll (stR wr G (.slice none 0 0) 0 0 0 0) v6 (.slice none 0 0) noP L wr.heap.size := by
  obtain ⟨dv, p, hk⟩ := h.bk
  unfold stR
  refine ⟨h.gB, ?_, OwnL.nil _ _, ?_, h.pne, fun x hx => ?_, fun g e => by simp [Value.ownBlock] at e, by simp [World.setCell], ?_, ?_⟩
  · have e2 := blk_set (blk_set (blk_set (blk_set (blk_set hk 0 (.slice none 0 0)) 1 (.int .i64 0)) 2 (.int .i64 0)) 3 (.int .i64 0)) 4 (.int .i64 0)
    simpa [pC, noP] using e2
  · exact ((((h.pat.setCell_other h.pne _).setCell_other h.pne _).setCell_other h.pne _).setCell_other h.pne _).setCell_other h.pne _
  · have o := h.each x hx
    have t := own_block_ty o hk (by omega)
    exact ⟨((((o.setCell_other t _).setCell_other t _).setCell_other t _).setCell_other t _).setCell_other t _, fun g e => (o.lt g e).2⟩
  · have t := own_block_ty h.lines hk (by omega)
    exact ((((h.lines.setCell_other t _).setCell_other t _).setCell_other t _).setCell_other t _).setCell_other t _
  · exact ((((h.bel.setCell (by simpa using h.gB) _).setCell (by simpa using h.gB) _).setCell (by simpa using h.gB) _).setCell (by simpa using h.gB) _).setCell (by simpa using h.gB) _
theorem FW.store (h : FW w G vs ll wr v6 dv cur L m) (i : Nat) (u : Value) (cur' : P) (hc : (pC dv cur).setIfInBounds i u = pC dv cur') (hd : cur'.ds = cur.ds) :
    FW w G vs ll (wr.setCell ⟨G, i, none⟩ u) v6 dv cur' L m := by
  have t1 := own_block_ty h.own h.bk (by omega)
  exact ⟨h.gB, by rw [blk_set h.bk i u, hc], by rw [hd]; exact h.own.setCell_other t1 u, h.pat.setCell_other h.pne u, h.pne, fun x hx => ⟨(h.each x hx).1.setCell_other (own_block_ty (h.each x hx).1 h.bk (by omega)) u, (h.each x hx).2⟩, h.cm, by simpa [World.setCell] using h.msz, h.lines.setCell_other (own_block_ty h.lines h.bk (by omega)) u, h.bel.setCell (by simpa using h.gB) u⟩
theorem FW.n1 (h : FW w G vs ll wr v6 dv cur L m) (x : Int) : FW w G vs ll (wr.setCell ⟨G, 1, none⟩ (.int .i64 x)) v6 dv ⟨cur.ds, x, cur.s2, cur.l1, cur.l2⟩ L m := h.store _ _ _ (by simp [pC]) rfl
theorem FW.n2 (h : FW w G vs ll wr v6 dv cur L m) (x : Int) : FW w G vs ll (wr.setCell ⟨G, 2, none⟩ (.int .i64 x)) v6 dv ⟨cur.ds, cur.s1, x, cur.l1, cur.l2⟩ L m := h.store _ _ _ (by simp [pC]) rfl
theorem FW.n3 (h : FW w G vs ll wr v6 dv cur L m) (x : Int) : FW w G vs ll (wr.setCell ⟨G, 3, none⟩ (.int .i64 x)) v6 dv ⟨cur.ds, cur.s1, cur.s2, x, cur.l2⟩ L m := h.store _ _ _ (by simp [pC]) rfl
theorem FW.n4 (h : FW w G vs ll wr v6 dv cur L m) (x : Int) : FW w G vs ll (wr.setCell ⟨G, 4, none⟩ (.int .i64 x)) v6 dv ⟨cur.ds, cur.s1, cur.s2, cur.l1, x⟩ L m := h.store _ _ _ (by simp [pC]) rfl
/-- one difference more in the patch under way -/
theorem FW.turn (h : FW w G vs ll wr v6 dv cur L m) (hg : wr.grownBy w1 dv.ownBlock) {ds' : List D} (hown : OwnL dP 128 2 w1 w.heap.size dv' ds') (hb : dv'.ownBlock = dv.ownBlock ∨ ∀ g, dv'.ownBlock = some g → wr.heap.size ≤ g) :
    FW w G vs ll (w1.setCell ⟨G, 0, none⟩ dv') v6 dv' ⟨ds', cur.s1, cur.s2, cur.l1, cur.l2⟩ L m := by
  have t0 := own_block_ty h.own h.bk (by omega)
  have hG : G < wr.heap.size := (Array.getElem?_eq_some_iff.1 h.bk).1
  have b1 := gb_heap hg (i := G) hG (fun e => t0 e.symm) h.bk
  have t1 := own_block_ty hown b1 (by omega)
  have hwb : Below w.heap.size wr w1 := below_of_gb hg h.bel.size (fun g e => (h.own.lt g e).1)
  have hm := h.msz
  refine ⟨h.gB, by rw [blk_set b1 0 dv']; simp [pC], hown.setCell_other t1 _, ?_, h.pne, ?_, ?_, ?_, ?_, (h.bel.trans hwb).setCell (by simpa using h.gB) _⟩
  · exact (h.pat.kept hg (own_ne h.pat h.own (by omega))).setCell_other h.pne _
  · intro x hx
    obtain ⟨a, b⟩ := h.each x hx
    refine ⟨?_, b⟩
    have a1 : OwnL dP 128 2 w1 w.heap.size x.1 x.2.ds := a.kept hg (by
      by_cases hn : x.1.ownBlock = none
      · exact .inl hn
      · refine .inr fun e => ?_
        obtain ⟨g, hgx⟩ := Option.ne_none_iff_exists'.1 hn
        have k1 := b g hgx
        have k2 := h.cm g (by rw [← e]; exact hgx)
        omega)
    exact a1.setCell_other (own_block_ty a1 b1 (by omega)) _
  · intro g e
    rcases hb with hb | hb
    · exact h.cm g (by rw [← hb]; exact e)
    · have := hb g e; omega
  · have := hg.size; simp [World.setCell]; omega
  · have o := h.lines.kept hg (own_ne h.lines h.own (by omega))
    exact o.setCell_other (own_block_ty o b1 (by omega)) _
/-- the patch goes into the row of patches -/
theorem FW.close (h : FW w G vs ll wr v6 dv cur L m) (hg : wr.grownBy w1 v6.ownBlock) (hown : OwnL pvP 114 5 w1 w.heap.size v6' (L ++ [(dv, cur)])) (hb : v6'.ownBlock = v6.ownBlock ∨ ∀ g, v6'.ownBlock = some g → wr.heap.size ≤ g) :
    FO w G vs ll w1 v6' (L ++ [(dv, cur)]) := by
  have hG : G < wr.heap.size := (Array.getElem?_eq_some_iff.1 h.bk).1
  have b1 := gb_heap hg (i := G) hG (fun e => h.pne e.symm) h.bk
  refine ⟨h.gB, ⟨dv, cur, b1⟩, hown, ?_, ?_, h.lines.kept hg (own_ne h.lines h.pat (by omega)), h.bel.trans (below_of_gb hg h.bel.size (fun g e => (h.pat.lt g e).1))⟩
  · rcases hb with hb | hb
    · rw [hb]; exact h.pne
    · intro e; have := hb _ e; omega
  · intro x hx
    rcases List.mem_append.1 hx with hx | hx
    · exact (h.each x hx).1.kept hg (own_ne (h.each x hx).1 h.pat (by omega))
    · rw [List.mem_singleton.1 hx]
      exact h.own.kept hg (own_ne h.own h.pat (by omega))
end
end Go.Proofs.YtjebgfpcmooniaaGreatDoor
