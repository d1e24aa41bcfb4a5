/- Patches that are read by the package: their numbers, their lines, the rows while they grow. No program in sight but its types. Patches that are read by the package: the lines of a text of patches; the query's unescape. PatchFromText: the text of patches is read back by the package. FromText: the door. -/
import Derived.Test.YtjebgfpcmooniaaGreatDoorZZhead
import Derived.Test.YtjebgfpcmooniaaGreatDoorZUnq
import Derived.Test.YtjebgfpcmooniaaGreatDoorZMkBase
import Derived.Test.YtjebgfpcmooniaaGreatDoorZRead
import Derived.Lib.Atoi
import Derived.Deep.DeepCutAuto
import Derived.Deep.CutBlock
import Derived.Test.YtjebgfpcmooniaaGreatDoorZOpen
import Derived.Test.YtjebgfpcmooniaaGreatDoorZIdle
namespace Go.Proofs.YtjebgfpcmooniaaGreatDoor
open Go Go.RowKit

/-! numbers -/
theorem decFrom_digs (l : List UInt8) (h : ∀ b ∈ l, 48 ≤ b.toNat ∧ b.toNat ≤ 57) (acc : Nat) : Lib.decFrom acc l = some (l.foldl (fun n b => n * 10 + (b.toNat - 48)) acc) := by
  induction l generalizing acc with
  | nil => rfl
  | cons b l ih =>
    have hb := h b (by simp)
    unfold Lib.decFrom Lib.digitVal
    rw [if_pos hb]
    exact ih (fun x hx => h x (by simp [hx])) _
theorem atoi_digs {l : List UInt8} (h : Digs l) : Lib.atoi l = some (numL l : Int) := by
  cases l with
  | nil => have := h.pos; simp at this
  | cons b r =>
    have hb := h.dig b (by simp)
    have h1 : (b == 45) = false := by rw [beq_eq_false_iff_ne]; intro e; subst e; revert hb; decide
    have h2 : (b == 43) = false := by rw [beq_eq_false_iff_ne]; intro e; subst e; revert hb; decide
    have h3 : Lib.decNat (b :: r) = some (numL (b :: r)) := decFrom_digs _ h.dig 0
    simp only [Lib.atoi, h1, h2, h3, Bool.false_eq_true, if_false]
    rfl
/-- what a span's parts say -/
inductive SpanIs (s n : Int) (p q : List UInt8) : Prop
  | zero (hn : n = 0) (hq : q = [48]) (ha : Lib.atoi p = some s)
  | one (hn : n = 1) (hq : q = []) (ha : Lib.atoi p = some (s + 1))
  | many (hn : n ≠ 0) (h0 : 0 < q.length) (h1 : q ≠ [48]) (hl : q.length ≤ 18) (ha : Lib.atoi p = some (s + 1)) (hb : Lib.atoi q = some n)
theorem span_of {s n : Int} (hs : 0 ≤ s) (hn : 0 ≤ n) (hs9 : s < 100000000) (hn9 : n < 100000000) : ∃ p q, Span (spanL s n) p q ∧ SpanIs s n p q ∧ p.length ≤ 18 := by
  obtain ⟨s, rfl⟩ := Int.eq_ofNat_of_zero_le hs
  obtain ⟨n, rfl⟩ := Int.eq_ofNat_of_zero_le hn
  unfold spanL
  have d0 := dec_digs (u := s) (by omega)
  have d1 := dec_digs (u := s + 1) (by omega)
  have d2 := dec_digs (u := n) (by omega)
  have e : ((s : Int) + 1) = ((s + 1 : Nat) : Int) := by omega
  split
  · rename_i h
    have h48 : Digs [48] := ⟨by simp, by simp, by simp⟩
    refine ⟨Lib.itoa (s : Int), [48], ⟨by rw [itoa_nat]; exact d0, .inr ⟨h48, rfl⟩⟩, .zero h rfl (by rw [itoa_nat, atoi_digs d0, dec_num]), by rw [itoa_nat]; have := d0.few; omega⟩
  · split
    · rename_i h
      rw [e, itoa_nat]
      exact ⟨_, [], ⟨d1, .inl ⟨rfl, rfl⟩⟩, .one h rfl (by rw [atoi_digs d1, dec_num]; rfl), by have := d1.few; omega⟩
    · rename_i h0 h1
      rw [e, itoa_nat, itoa_nat]
      refine ⟨_, Lib.decDigits n, ⟨d1, .inr ⟨d2, rfl⟩⟩, .many h0 d2.pos ?_ (by have := d2.few; omega) (by rw [atoi_digs d1, dec_num]; rfl) (by rw [atoi_digs d2, dec_num]), by have := d1.few; omega⟩
      intro h
      have := dec_num n
      rw [h] at this
      have h48 : numL [48] = 0 := rfl
      omega

/-! lines -/
def preN (ps : List P) (j : Nat) : Nat := (items (ps.take j)).length
theorem items_cons (p : P) (ps : List P) : items (p :: ps) = .hdr p :: (p.ds.map .dif ++ items ps) := by simp [items, itemsP]
theorem items_append (a b : List P) : items (a ++ b) = items a ++ items b := by simp [items]
theorem items_split {ps : List P} {j : Nat} {p : P} (h : ps[j]? = some p) : items ps = items (ps.take j) ++ (.hdr p :: (p.ds.map .dif ++ items (ps.drop (j + 1)))) := by
  obtain ⟨hj, e⟩ := List.getElem?_eq_some_iff.1 h
  rw [← items_cons, ← items_append]
  congr 1
  rw [← e, ← List.drop_eq_getElem_cons hj, List.take_append_drop]
theorem preN_hdr {ps : List P} {j : Nat} {p : P} (h : ps[j]? = some p) : (items ps)[preN ps j]? = some (.hdr p) := by
  rw [items_split h, preN, List.getElem?_append_right (Nat.le_refl _), Nat.sub_self]; rfl
theorem preN_dif {ps : List P} {j i : Nat} {p : P} {d : D} (h : ps[j]? = some p) (hd : p.ds[i]? = some d) : (items ps)[preN ps j + 1 + i]? = some (.dif d) := by
  have hi : i < p.ds.length := (List.getElem?_eq_some_iff.1 hd).1
  rw [items_split h, preN, List.getElem?_append_right (by omega), show (items (ps.take j)).length + 1 + i - (items (ps.take j)).length = i + 1 by omega, List.getElem?_cons_succ, List.getElem?_append_left (by rw [List.length_map]; exact hi), List.getElem?_map, hd]
  rfl
theorem preN_succ {ps : List P} {j : Nat} {p : P} (h : ps[j]? = some p) : preN ps (j + 1) = preN ps j + 1 + p.ds.length := by
  unfold preN
  rw [take_succ_some h, items_append, List.length_append]
  simp [items, itemsP]
  omega
theorem preN_all (ps : List P) : preN ps ps.length = (items ps).length := by rw [preN, List.take_length]
theorem preN_le (ps : List P) (j : Nat) : preN ps j ≤ (items ps).length := by
  have : items ps = items (ps.take j) ++ items (ps.drop j) := by rw [← items_append, List.take_append_drop]
  rw [this, List.length_append]; unfold preN; omega

/-- what stands behind a line's sign reads as escaped text -/
theorem plain_44 : ∀ n : Nat, n < 58 → 44 ≤ n → encU (UInt8.ofNat n) = [UInt8.ofNat n] := by decide +kernel
theorem encU_44 {b : UInt8} (h : 44 ≤ b.toNat ∧ b.toNat ≤ 57) : encU b = [b] := by
  have := plain_44 b.toNat (by omega) h.1
  rwa [UInt8.ofNat_toNat] at this
theorem hdr_plain {p : P} (h : NumP p) : ((hdrL p).drop 1).flatMap pluE = ((hdrL p).drop 1).flatMap encV := by
  have h1 : ∀ b ∈ hdrL p, encU b = [b] := by
    intro b hb
    have c1 : encU 64 = [64] := by decide +kernel
    have c2 : encU 32 = [32] := by decide +kernel
    have c3 : encU 45 = [45] := by decide +kernel
    have c4 : encU 43 = [43] := by decide +kernel
    unfold hdrL at hb
    simp only [List.mem_append, List.mem_cons, List.not_mem_nil, or_false] at hb
    rcases hb with ((((rfl | rfl | rfl | rfl) | hb) | rfl | rfl) | hb) | rfl | rfl | rfl
    all_goals first | exact c1 | exact c2 | exact c3 | exact c4 | skip
    · exact encU_44 (spanL_sign h.s1.1 h.l1.1 b hb)
    · exact encU_44 (spanL_sign h.s2.1 h.l2.1 b hb)
  have h2 : ∀ b ∈ (hdrL p).drop 1, encU b = [b] := fun b hb => h1 b (List.mem_of_mem_drop hb)
  generalize (hdrL p).drop 1 = l at h2
  induction l with
  | nil => rfl
  | cons b l ih =>
    rw [List.flatMap_cons, List.flatMap_cons, ih fun x hx => h2 x (by simp [hx])]
    congr 1
    unfold encV
    rw [h2 b (by simp)]
    simp

/-! rows -/
/-- between two patches: the cell of the patch under way lies at G -/
structure FO (w : World) (G : Nat) (vs : Value) (ll : List ByteArray) (wr : World) (v6 : Value) (L : List (Value × P)) : Prop where
  gB : w.heap.size ≤ G
  bk : ∃ dv p, wr.heap[G]? = some (.cells (pC dv p) 114 (0, 0))
  pat : OwnL pvP 114 5 wr w.heap.size v6 L
  pne : v6.ownBlock ≠ some G
  each : ∀ x ∈ L, OwnL dP 128 2 wr w.heap.size x.1 x.2.ds
  lines : OwnL sC 9 1 wr w.heap.size vs ll
  bel : Below w.heap.size w wr
/-- while a patch is made -/
structure FW (w : World) (G : Nat) (vs : Value) (ll : List ByteArray) (wr : World) (v6 dv : Value) (cur : P) (L : List (Value × P)) (m : Nat) : Prop where
  gB : w.heap.size ≤ G
  bk : wr.heap[G]? = some (.cells (pC dv cur) 114 (0, 0))
  own : OwnL dP 128 2 wr w.heap.size dv cur.ds
  pat : OwnL pvP 114 5 wr w.heap.size v6 L
  pne : v6.ownBlock ≠ some G
  each : ∀ x ∈ L, OwnL dP 128 2 wr w.heap.size x.1 x.2.ds ∧ ∀ g, x.1.ownBlock = some g → g < m
  cm : ∀ g, dv.ownBlock = some g → m ≤ g
  msz : m ≤ wr.heap.size
  lines : OwnL sC 9 1 wr w.heap.size vs ll
  bel : Below w.heap.size w wr

section
variable {w wr w1 : World} {G : Nat} {vs v6 v6' dv dv' : Value} {ll : List ByteArray} {cur : P} {L : List (Value × P)} {m : Nat}
theorem FO.on (h : FO w G vs ll wr v6 L) (hb : Below wr.heap.size wr w1) : FO w G vs ll w1 v6 L := by
  obtain ⟨dv, p, hk⟩ := h.bk
  exact ⟨h.gB, ⟨dv, p, (hb.block _ (Array.getElem?_eq_some_iff.1 hk).1).trans hk⟩, h.pat.below_size hb, h.pne, fun x hx => (h.each x hx).below_size hb, h.lines.below_size hb, h.bel.trans (hb.mono h.bel.size)⟩
theorem FW.on (h : FW w G vs ll wr v6 dv cur L m) (hb : Below wr.heap.size wr w1) : FW w G vs ll w1 v6 dv cur L m :=
  ⟨h.gB, (hb.block _ (Array.getElem?_eq_some_iff.1 h.bk).1).trans h.bk, h.own.below_size hb, h.pat.below_size hb, h.pne, fun x hx => ⟨(h.each x hx).1.below_size hb, (h.each x hx).2⟩, h.cm, Nat.le_trans h.msz hb.size, h.lines.below_size hb, h.bel.trans (hb.mono h.bel.size)⟩
theorem FO.begin (h : FO w G vs ll wr v6 L) : FW w G vs ll (stR wr G (.slice none 0 0) 0 0 0 0) v6 (.slice none 0 0) noP L wr.heap.size := by
  obtain ⟨dv, p, hk⟩ := h.bk
  unfold stR
  refine ⟨h.gB, ?_, OwnL.nil _ _, ?_, h.pne, fun x hx => ?_, fun g e => by simp [Value.ownBlock] at e, by simp [World.setCell], ?_, ?_⟩
  · have e2 := blk_set (blk_set (blk_set (blk_set (blk_set hk 0 (.slice none 0 0)) 1 (.int .i64 0)) 2 (.int .i64 0)) 3 (.int .i64 0)) 4 (.int .i64 0)
    simpa [pC, noP] using e2
  · exact ((((h.pat.setCell_other h.pne _).setCell_other h.pne _).setCell_other h.pne _).setCell_other h.pne _).setCell_other h.pne _
  · have o := h.each x hx
    have t := own_block_ty o hk (by omega)
    exact ⟨((((o.setCell_other t _).setCell_other t _).setCell_other t _).setCell_other t _).setCell_other t _, fun g e => (o.lt g e).2⟩
  · have t := own_block_ty h.lines hk (by omega)
    exact ((((h.lines.setCell_other t _).setCell_other t _).setCell_other t _).setCell_other t _).setCell_other t _
  · exact ((((h.bel.setCell (by simpa using h.gB) _).setCell (by simpa using h.gB) _).setCell (by simpa using h.gB) _).setCell (by simpa using h.gB) _).setCell (by simpa using h.gB) _
theorem FW.store (h : FW w G vs ll wr v6 dv cur L m) (i : Nat) (u : Value) (cur' : P) (hc : (pC dv cur).setIfInBounds i u = pC dv cur') (hd : cur'.ds = cur.ds) :
    FW w G vs ll (wr.setCell ⟨G, i, none⟩ u) v6 dv cur' L m := by
  have t1 := own_block_ty h.own h.bk (by omega)
  exact ⟨h.gB, by rw [blk_set h.bk i u, hc], by rw [hd]; exact h.own.setCell_other t1 u, h.pat.setCell_other h.pne u, h.pne, fun x hx => ⟨(h.each x hx).1.setCell_other (own_block_ty (h.each x hx).1 h.bk (by omega)) u, (h.each x hx).2⟩, h.cm, by simpa [World.setCell] using h.msz, h.lines.setCell_other (own_block_ty h.lines h.bk (by omega)) u, h.bel.setCell (by simpa using h.gB) u⟩
theorem FW.n1 (h : FW w G vs ll wr v6 dv cur L m) (x : Int) : FW w G vs ll (wr.setCell ⟨G, 1, none⟩ (.int .i64 x)) v6 dv ⟨cur.ds, x, cur.s2, cur.l1, cur.l2⟩ L m := h.store _ _ _ (by simp [pC]) rfl
theorem FW.n2 (h : FW w G vs ll wr v6 dv cur L m) (x : Int) : FW w G vs ll (wr.setCell ⟨G, 2, none⟩ (.int .i64 x)) v6 dv ⟨cur.ds, cur.s1, x, cur.l1, cur.l2⟩ L m := h.store _ _ _ (by simp [pC]) rfl
theorem FW.n3 (h : FW w G vs ll wr v6 dv cur L m) (x : Int) : FW w G vs ll (wr.setCell ⟨G, 3, none⟩ (.int .i64 x)) v6 dv ⟨cur.ds, cur.s1, cur.s2, x, cur.l2⟩ L m := h.store _ _ _ (by simp [pC]) rfl
theorem FW.n4 (h : FW w G vs ll wr v6 dv cur L m) (x : Int) : FW w G vs ll (wr.setCell ⟨G, 4, none⟩ (.int .i64 x)) v6 dv ⟨cur.ds, cur.s1, cur.s2, cur.l1, x⟩ L m := h.store _ _ _ (by simp [pC]) rfl
/-- one difference more in the patch under way -/
theorem FW.turn (h : FW w G vs ll wr v6 dv cur L m) (hg : wr.grownBy w1 dv.ownBlock) {ds' : List D} (hown : OwnL dP 128 2 w1 w.heap.size dv' ds') (hb : dv'.ownBlock = dv.ownBlock ∨ ∀ g, dv'.ownBlock = some g → wr.heap.size ≤ g) :
    FW w G vs ll (w1.setCell ⟨G, 0, none⟩ dv') v6 dv' ⟨ds', cur.s1, cur.s2, cur.l1, cur.l2⟩ L m := by
  have t0 := own_block_ty h.own h.bk (by omega)
  have hG : G < wr.heap.size := (Array.getElem?_eq_some_iff.1 h.bk).1
  have b1 := gb_heap hg (i := G) hG (fun e => t0 e.symm) h.bk
  have t1 := own_block_ty hown b1 (by omega)
  have hwb : Below w.heap.size wr w1 := below_of_gb hg h.bel.size (fun g e => (h.own.lt g e).1)
  have hm := h.msz
  refine ⟨h.gB, by rw [blk_set b1 0 dv']; simp [pC], hown.setCell_other t1 _, ?_, h.pne, ?_, ?_, ?_, ?_, (h.bel.trans hwb).setCell (by simpa using h.gB) _⟩
  · exact (h.pat.kept hg (own_ne h.pat h.own (by omega))).setCell_other h.pne _
  · intro x hx
    obtain ⟨a, b⟩ := h.each x hx
    refine ⟨?_, b⟩
    have a1 : OwnL dP 128 2 w1 w.heap.size x.1 x.2.ds := a.kept hg (by
      by_cases hn : x.1.ownBlock = none
      · exact .inl hn
      · refine .inr fun e => ?_
        obtain ⟨g, hgx⟩ := Option.ne_none_iff_exists'.1 hn
        have k1 := b g hgx
        have k2 := h.cm g (by rw [← e]; exact hgx)
        omega)
    exact a1.setCell_other (own_block_ty a1 b1 (by omega)) _
  · intro g e
    rcases hb with hb | hb
    · exact h.cm g (by rw [← hb]; exact e)
    · have := hb g e; omega
  · have := hg.size; simp [World.setCell]; omega
  · have o := h.lines.kept hg (own_ne h.lines h.own (by omega))
    exact o.setCell_other (own_block_ty o b1 (by omega)) _
/-- the patch goes into the row of patches -/
theorem FW.close (h : FW w G vs ll wr v6 dv cur L m) (hg : wr.grownBy w1 v6.ownBlock) (hown : OwnL pvP 114 5 w1 w.heap.size v6' (L ++ [(dv, cur)])) (hb : v6'.ownBlock = v6.ownBlock ∨ ∀ g, v6'.ownBlock = some g → wr.heap.size ≤ g) :
    FO w G vs ll w1 v6' (L ++ [(dv, cur)]) := by
  have hG : G < wr.heap.size := (Array.getElem?_eq_some_iff.1 h.bk).1
  have b1 := gb_heap hg (i := G) hG (fun e => h.pne e.symm) h.bk
  refine ⟨h.gB, ⟨dv, cur, b1⟩, hown, ?_, ?_, h.lines.kept hg (own_ne h.lines h.pat (by omega)), h.bel.trans (below_of_gb hg h.bel.size (fun g e => (h.pat.lt g e).1))⟩
  · rcases hb with hb | hb
    · rw [hb]; exact h.pne
    · intro e; have := hb _ e; omega
  · intro x hx
    rcases List.mem_append.1 hx with hx | hx
    · exact (h.each x hx).1.kept hg (own_ne (h.each x hx).1 h.pat (by omega))
    · rw [List.mem_singleton.1 hx]
      exact h.own.kept hg (own_ne h.own h.pat (by omega))
end
end Go.Proofs.YtjebgfpcmooniaaGreatDoor

namespace Go.Proofs.YtjebgfpcmooniaaGreatDoor
open Go Go.RowKit

theorem unquery_any (s : ByteArray) (t : List UInt8) (w : World) (hs : s.size ≤ 50000000) (hst : Hid (tb s = t.flatMap encV)) (ht : Tabs w) :
    Calls Tryz.prog 110 #[.string s] w fun e w' => e = .returned (.tuple #[.string ⟨t.toArray⟩, .nilIface]) ∧ Below w.heap.size w w' := by
  go_enter Tryz.func110, Tryz.ntmps110
  go_wp2_with (go_at_call 146; refine Hid.out ?_)
  refine Lib.hid ?_
  refine (unq_any s t w hs hst ht).mono ?_
  rintro e w1 ⟨rfl, hb⟩
  go_wp2_with fail
  go_ret2
  exact ⟨rfl, hb⟩

/-- a text's lines are the items of patches, and an empty one -/
def Lines (ps : List P) (ll : List ByteArray) : Prop := ll.map tb = (items ps).map Item.line ++ [[]]
theorem Lines.length {ps : List P} {ll : List ByteArray} (h : Lines ps ll) : ll.length = (items ps).length + 1 := by
  have := congrArg List.length h
  simpa using this
theorem Lines.at_ {ps : List P} {ll : List ByteArray} (h : Lines ps ll) {k : Nat} {x : Item} (hx : (items ps)[k]? = some x) : ∃ z, ll[k]? = some z ∧ tb z = x.line := by
  have hk : k < (items ps).length := (List.getElem?_eq_some_iff.1 hx).1
  have hk2 : k < ll.length := by have := h.length; omega
  refine ⟨ll[k], List.getElem?_eq_getElem hk2, ?_⟩
  have h1 := congrArg (fun q => q[k]?) h
  simp only [List.getElem?_map, List.getElem?_eq_getElem hk2, Option.map_some] at h1
  rw [List.getElem?_append_left (by rw [List.length_map]; exact hk), List.getElem?_map, hx] at h1
  injection h1
theorem Lines.hdr {ps : List P} {ll : List ByteArray} (h : Lines ps ll) {j : Nat} {p : P} (hj : ps[j]? = some p) : ∃ z, ll[preN ps j]? = some z ∧ tb z = hdrL p := h.at_ (preN_hdr hj)
theorem Lines.dif {ps : List P} {ll : List ByteArray} (h : Lines ps ll) {i j : Nat} {p : P} {d : D} (hj : ps[j]? = some p) (hd : p.ds[i]? = some d) : ∃ z, ll[preN ps j + 1 + i]? = some z ∧ tb z = sgn d.op :: (tb d.t).flatMap encU := h.at_ (preN_dif hj hd)
theorem Lines.last {ps : List P} {ll : List ByteArray} (h : Lines ps ll) : ∃ z, ll[(items ps).length]? = some z ∧ tb z = [] := by
  have hk2 : (items ps).length < ll.length := by have := h.length; omega
  refine ⟨ll[(items ps).length], List.getElem?_eq_getElem hk2, ?_⟩
  have h1 := congrArg (fun q => q[(items ps).length]?) h
  simp only [List.getElem?_map, List.getElem?_eq_getElem hk2, Option.map_some] at h1
  rw [List.getElem?_append_right (by rw [List.length_map]; exact Nat.le_refl _), List.length_map, Nat.sub_self] at h1
  injection h1
theorem own_rd {α : Type} {f : α → List Value} {e sz : Nat} {w : World} {base : Nat} {A : Option Addr} {n c : Nat} {l : List α} (h : OwnL f e sz w base (.slice A n c) l) (hf : ∀ x, (f x).length = sz) : RdL f sz w w.heap.size A n l := by
  obtain ⟨A', c', e, hr⟩ := h.rd hf
  injection e with e1 e2 e3
  subst e1 e2
  exact hr
/-- a line of the text, as it lies -/
theorem line_cell {w : World} {base : Nat} {A : Option Addr} {n c k : Nat} {ll : List ByteArray} {z : ByteArray} (h : OwnL sC 9 1 w base (.slice A n c) ll) (hz : ll[k]? = some z) : ∃ ad, A = some ad ∧ w.cell? (ad.add k) = some (.string z) := by
  have hr := own_rd h sC_len
  have hk : k < n := by have := hr.1; have := (List.getElem?_eq_some_iff.1 hz).1; omega
  obtain ⟨ad, x, e, _, hx, hc⟩ := rd_sC hr hk
  rw [hz] at hx
  injection hx with hx
  subst hx
  exact ⟨ad, e, hc⟩

/-- where the text stands between two patches -/
def ptN (ps : List P) (j : Nat) : Nat := if j = ps.length then (items ps).length + 1 else preN ps j
theorem ptN_lt {ps : List P} {j : Nat} {p : P} (h : ps[j]? = some p) : ptN ps j = preN ps j ∧ preN ps j < (items ps).length := by
  have h1 := (List.getElem?_eq_some_iff.1 h).1
  exact ⟨by unfold ptN; rw [if_neg (by omega)], (List.getElem?_eq_some_iff.1 (preN_hdr h)).1⟩
theorem ptN_end (ps : List P) : ptN ps ps.length = (items ps).length + 1 := by unfold ptN; rw [if_pos rfl]
theorem preN_next {ps : List P} {j : Nat} {p : P} (h : ps[j]? = some p) : preN ps j + 1 + p.ds.length ≤ (items ps).length := by
  rw [← preN_succ h]; exact preN_le _ _
theorem preN_last {ps : List P} {j : Nat} {p : P} (h : ps[j]? = some p) (hl : j + 1 = ps.length) : preN ps j + 1 + p.ds.length = (items ps).length := by
  rw [← preN_succ h, hl, preN_all]
theorem ptN_zero {ps : List P} (h : ps ≠ []) : 0 = ptN ps 0 := by
  have : 0 < ps.length := List.length_pos_iff.2 h
  unfold ptN; rw [if_neg (by omega)]; rfl
theorem heap_size_al (w : World) (o : Obj) : (w.alloc o).heap.size = w.heap.size + 1 := by simp
theorem atoi_any (s : ByteArray) (l : List UInt8) (n : Int) (w : World) (hs : tb s = l) (hl : l.length ≤ 18) (h : Lib.atoi l = some n) :
    Calls Tryz.prog 121 #[.string s] w fun e w' => e = .returned (.tuple #[.int .i64 n, .nilIface]) ∧ Below w.heap.size w w' :=
  (Tryz.strconv_Atoi s n (by rw [← tb_length, hs]; exact hl) (by rw [show s.data.toList = tb s from rfl, hs]; exact h) w).mono fun _ _ ⟨he, t, hw⟩ => ⟨he, by rw [hw]; exact below_bytes (Nat.le_refl _)⟩
/-- what a span's start reads as -/
def startV (s n : Int) : Int := if n = 0 then s else s + 1
theorem SpanIs.start {s n : Int} {p q : List UInt8} (h : SpanIs s n p q) : Lib.atoi p = some (startV s n) := by
  unfold startV
  cases h with
  | zero hn hq ha => rw [if_pos hn]; exact ha
  | one hn hq ha => rw [if_neg (by omega)]; exact ha
  | many hn h0 h1 hl ha hb => rw [if_neg hn]; exact ha
theorem startV_bd {s n : Int} (h0 : 0 ≤ s) (h1 : s < 100000000) : 0 ≤ startV s n ∧ startV s n ≤ 100000000 := by unfold startV; split <;> omega
theorem items_len (ps : List P) : ps.length ≤ (items ps).length := by
  induction ps with
  | nil => simp
  | cons p ps ih => rw [items_cons]; simp only [List.length_cons, List.length_append, List.length_map]; omega
theorem line_size {ps : List P} {ll : List ByteArray} {s z : ByteArray} {k : Nat} (h : Lines ps ll) (hz : ll[k]? = some z) (hs : tb s = ps.flatMap textP) : z.size ≤ s.size := by
  have h1 := congrArg (fun q => q[k]?) h
  simp only [List.getElem?_map, hz, Option.map_some] at h1
  by_cases hk : k < (items ps).length
  · rw [List.getElem?_append_left (by rw [List.length_map]; exact hk), List.getElem?_map, List.getElem?_eq_getElem hk] at h1
    injection h1 with h1
    have h2 := mem_flat_len (f := fun x : Item => x.line ++ [10]) (List.getElem_mem hk)
    rw [← text_items, ← hs, tb_length, List.length_append, ← h1, tb_length] at h2
    omega
  · rw [List.getElem?_append_right (by rw [List.length_map]; omega)] at h1
    have h2 : tb z ∈ [([] : List UInt8)] := List.mem_of_getElem? h1.symm
    have h3 : tb z = [] := List.mem_singleton.1 h2
    rw [← tb_length, h3]; exact Nat.zero_le _
theorem plu_len (l : List UInt8) : (l.flatMap pluE).length ≤ 3 * l.length := by
  induction l with
  | nil => simp
  | cons b l ih =>
    have : (pluE b).length ≤ 3 := by unfold pluE; split <;> simp
    rw [List.flatMap_cons, List.length_append, List.length_cons]; omega
theorem ptN_up {ps : List P} {j : Nat} {p : P} (h : ps[j]? = some p) : preN ps j < ptN ps (j + 1) := by
  unfold ptN
  split
  · have := (ptN_lt h).2; omega
  · rw [preN_succ h]; omega
theorem ba_list (l : List UInt8) : tb ⟨l.toArray⟩ = l := by simp [tb]
theorem text_pos {ps : List P} {s : ByteArray} (h : ps ≠ []) (hs : tb s = ps.flatMap textP) : 0 < s.size := by
  obtain ⟨p, q, rfl⟩ := List.exists_cons_of_ne_nil h
  have h2 := mem_flat_len (f := fun x : Item => x.line ++ [10]) (l := items (p :: q)) (x := .hdr p) (by rw [items_cons]; simp)
  rw [← text_items, ← hs, tb_length, List.length_append, List.length_singleton] at h2
  omega
theorem plu_size {z1 z2 : ByteArray} (h : z2 = ⟨((tb z1).flatMap pluE).toArray⟩) (hs : z1.size ≤ 16000000) : z2.size ≤ 50000000 := by
  have h1 : tb z2 = (tb z1).flatMap pluE := by rw [h, ba_list]
  have h2 := plu_len (tb z1)
  rw [← h1, tb_length, tb_length] at h2
  omega
end Go.Proofs.YtjebgfpcmooniaaGreatDoor

namespace Go.Proofs.YtjebgfpcmooniaaGreatDoor
open Go Go.RowKit

def FtPost (w : World) (ps : List P) (e : Ending) (w' : World) : Prop :=
  ∃ (v : Value) (L : List (Value × P)), e = .returned (.tuple #[v, .nilIface]) ∧ L.map (·.2) = ps ∧ OwnL pvP 114 5 w' w.heap.size v L ∧ (∀ x ∈ L, OwnL dP 128 2 w' w.heap.size x.1 x.2.ds) ∧ Below w.heap.size w w'

set_option maxRecDepth 100000 in
set_option maxHeartbeats 4000000 in
theorem ptext_any (dv : Value) (s : ByteArray) (ps : List P) (w : World) (hs : s.size ≤ 16000000) (hst : Hid (tb s = ps.flatMap textP)) (hok : Hid (∀ p ∈ ps, ReadOk p)) (hne : ps ≠ []) (ht : Tabs w) :
    Calls Tryz.prog 78 #[dv, .string s] w (FtPost w ps) := by
  have hs0 : ((s.size : Int) == 0) = false := by rw [beq_eq_false_iff_ne]; have := text_pos hne hst.out; omega
  have he79 : ∀ (w : World) (a : Addr) (n c : Nat), (binOp .eql 79 (.slice (some a) n c) (.slice none 0 0)).run Tryz.prog w = .ok (.bool false) w := fun _ _ _ _ => rfl
  go_enter Tryz.func78, Tryz.ntmps78
  go_wp2_with (go_at_call 109; refine Hid.out ?_)
  refine Lib.hid ?_
  refine (splitz_any s _ (by omega)).mono ?_
  rintro e w1 ⟨v, ll, rfl, hl, hownl, hll, hb1⟩
  rw [hst.out, split_text fun p hp => (hok.out p hp).num] at hl
  have HL : Hid (Lines ps ll) := hl
  obtain ⟨A, c, rfl, -⟩ := hownl.rd sC_len
  rw [HL.out.length] at hownl ⊢
  obtain ⟨n0, hn0⟩ : ∃ n, n = (items ps).length := ⟨_, rfl⟩
  rw [← hn0] at hownl ⊢
  have Hn0 := Lib.hid hn0
  have hn0b : n0 ≤ 16000000 := by have := HL.out.length; omega
  have hpn : ps.length ≤ n0 := by rw [hn0]; exact items_len ps
  clear hn0 hl hll
  have hfo0 : Hid (FO w w1.heap.size (.slice A (n0 + 1) c) ll (w1.alloc (.cells #[.slice none 0 0, .int .i64 0, .int .i64 0, .int .i64 0, .int .i64 0] 114)) (.slice (some ⟨w.heap.size, 0, none⟩) 0 0) []) := by
    have hsz := hb1.size
    simp only [heap_size_al] at hsz
    refine ⟨by omega, ⟨.slice none 0 0, noP, heap_alloc_new _ _⟩, ?_, ?_, by simp, (hownl.alloc _).base_le (by simp), ?_⟩
    · refine ⟨by simp, .inr ⟨w.heap.size, 0, #[], rfl, Nat.le_refl _, ?_, Nat.le_refl _, by simp, by simp, by simp⟩⟩
      exact (Below.heap_alloc _ _ _ (by omega)).trans ((hb1.block _ (by simp)).trans (heap_alloc_new _ _))
    · simp [Value.ownBlock]; omega
    · exact (((Below.refl _ _).alloc (Nat.le_refl _) _).trans (hb1.mono (by simp))).alloc (by omega) _
  have hsz1 : w.heap.size + 1 ≤ w1.heap.size := by have := hb1.size; simpa using this
  have hbw1 : Below w.heap.size w w1 := ((Below.refl _ _).alloc (Nat.le_refl _) _).trans (hb1.mono (by simp))
  have HTw := Lib.hid ht
  clear hb1 hownl
  go_wp2_with fail
  go_loopw [6, 8] (fun v6 v8 wr => ∃ (j q : Nat) (L : List (Value × P)), j ≤ ps.length ∧ q ≤ n0 + 1 ∧ v8 = .int .i64 q ∧ Hid (q = ptN ps j) ∧ Hid (L.map (·.2) = ps.take j) ∧ Hid (FO w w1.heap.size (.slice A (n0 + 1) c) ll wr v6 L)) (fun _ v8 _ => n0 + 2 - (intOf v8).toNat)
  case atStart => exact ⟨0, 0, [], Nat.zero_le _, by omega, rfl, by show _ = _; exact ptN_zero hne, rfl, hfo0⟩
  case round =>
    obtain ⟨j, q, L, hj, hq, rfl, Hq, HL2, Hfo⟩ := hrel
    by_cases hlt : j < ps.length
    · obtain ⟨p, hp⟩ : ∃ p, ps[j]? = some p := ⟨_, List.getElem?_eq_getElem hlt⟩
      have hpo := hok.out p (List.mem_of_getElem? hp)
      have Hp := Lib.hid hp
      obtain ⟨e1, e2⟩ := ptN_lt hp
      have hqk : Hid (q = preN ps j) := by show _ = _; rw [Hq.out, e1]
      have hqn : q < n0 := by rw [hqk.out, Hn0.out]; exact e2
      have hnx : q + 1 + p.ds.length ≤ n0 := by rw [hqk.out, Hn0.out]; exact preN_next hp
      obtain ⟨z, hz, hzl⟩ := HL.out.hdr hp
      rw [← hqk.out] at hz
      obtain ⟨⟨a1, a2⟩, ⟨b1, b2⟩, ⟨a3, a4⟩, ⟨b3, b4⟩⟩ := hpo.num
      obtain ⟨p1, q1, hS1, hI1, hl1⟩ := span_of a1 a3 a2 a4
      obtain ⟨p2, q2, hS2, hI2, hl2⟩ := span_of b1 b3 b2 b4
      have Hz := Lib.hid hz
      have Hzl := Lib.hid hzl
      have Hpo := Lib.hid hpo
      have hT4 : Hid (Told4 p p1 q1 p2 q2) := ⟨hS1, hS2⟩
      have HI1 := Lib.hid hI1
      have HI2 := Lib.hid hI2
      obtain ⟨ad, hA, hc⟩ := line_cell Hfo.out.lines hz
      subst hA
      clear hz hzl hpo hp e1 e2 hS1 hS2 hI1 hI2 a3 a4 b3 b4
      go_wp2_with (go_at_call 120; refine Hid.out ?_)
      refine Lib.hid ?_
      refine (zheader_any z p p1 q1 p2 q2 wr Hzl (Lib.hid Hpo.out.num) hT4).mono ?_
      rintro e w2 ⟨g0, _, _, _, _, rfl, -, -, -, -, hb2⟩
      have Hfo2 := Lib.hid (Hfo.out.on hb2)
      have hc2 := (line_cell Hfo2.out.lines Hz.out)
      obtain ⟨ad', hA, hc2⟩ := hc2
      injection hA with hA
      subst hA
      have HFb := Lib.hid Hfo2.out.begin
      have hFl := (line_cell HFb.out.lines Hz.out)
      obtain ⟨ad', hA, hFl⟩ := hFl
      injection hA with hA
      subst hA
      simp only [stR] at hFl
      obtain ⟨dv0, cur0, hbk0⟩ := Hfo2.out.bk
      have y0 := blk_cell hbk0 0
      have y1 := blk_cell hbk0 1
      have y2 := blk_cell hbk0 2
      have y3 := blk_cell hbk0 3
      have y4 := blk_cell hbk0 4
      have fy0 := blk_frozen hbk0 0
      have fy1 := blk_frozen hbk0 1
      have fy2 := blk_frozen hbk0 2
      have fy3 := blk_frozen hbk0 3
      have fy4 := blk_frozen hbk0 4
      simp [pC] at y0 y1 y2 y3 y4
      clear hc hbk0
      go_wp2_with (go_at_call 120; refine Hid.out ?_)
      refine Lib.hid ?_
      refine (zheader_any z p p1 q1 p2 q2 _ Hzl (Lib.hid Hpo.out.num) hT4).mono ?_
      rintro e w3 ⟨g, A1, B1, A2, B2, rfl, hgg, hblk, ⟨hA1, hB1⟩, ⟨hA2, hB2⟩, hb3⟩
      have HF3 := Lib.hid (HFb.out.on hb3)
      have hGg : w1.heap.size < g := Nat.lt_of_lt_of_le (Array.getElem?_eq_some_iff.1 HFb.out.bk).1 hgg
      have HA1 := Lib.hid hA1
      have HB1 := Lib.hid hB1
      have HA2 := Lib.hid hA2
      have HB2 := Lib.hid hB2
      clear hA1 hB1 hA2 hB2 hb2 hb3 hc2 hFl hgg HFb Hfo2 y0 y1 y2 y3 y4 fy0 fy1 fy2 fy3 fy4
      have y1 := blk_cell hblk 1
      have y2 := blk_cell hblk 2
      simp at y1 y2
      obtain ⟨hx0, hx1⟩ := startV_bd (n := p.l1) a1 a2
      have hst1 := HI1.out.start
      obtain ⟨x, hxe⟩ : ∃ x, x = startV p.s1 p.l1 := ⟨_, rfl⟩
      rw [← hxe] at hst1 hx0 hx1
      have Hxe := Lib.hid hxe
      have Hst1 := Lib.hid hst1
      clear hxe hst1
      go_wp2_with (go_at_call 121; refine Hid.out ?_)
      refine Lib.hid ?_
      refine (atoi_any A1 p1 x w3 HA1.out hl1 Hst1.out).mono ?_
      rintro e w4 ⟨rfl, hb4⟩
      have HF4 := Lib.hid (HF3.out.on hb4)
      have hblk4 := (hb4.block _ (Array.getElem?_eq_some_iff.1 hblk).1).trans hblk
      have fr1 := blk_frozen HF4.out.bk 1
      have k9 := blk_cell HF4.out.bk 1
      simp [pC] at k9
      have HF5 := Lib.hid (HF4.out.n1 x)
      have hblk5 := blk_far hblk4 (p := ⟨w1.heap.size, 1, none⟩) (by simp; omega) (.int .i64 x)
      have y2 := blk_cell hblk5 2
      simp at y2
      go_upto_if 50 with (fail)
      clear y1 hb4 fr1 k9 HF4 HF3
      generalize w4.setCell ⟨w1.heap.size, 1, none⟩ (.int .i64 x) = w5 at HF5 hblk5 y2 ⊢
      go_cut [] (fun wx => FW w w1.heap.size (.slice (some ad) (n0 + 1) c) ll wx u6 (.slice none 0 0) ⟨[], p.s1, 0, p.l1, 0⟩ L w2.heap.size ∧ wx.heap[g]? = some (.cells #[.string z, .string A1, .string B1, .string A2, .string B2] 9 (0, 0)))
      case first =>
        have k1 := blk_cell HF5.out.bk 1
        have k3 := blk_cell HF5.out.bk 3
        have f1 := blk_frozen HF5.out.bk 1
        have f3 := blk_frozen HF5.out.bk 3
        simp [pC] at k1 k3
        have hS := HI1.out
        rcases hS with ⟨hn, hq, -⟩ | ⟨hn, hq, -⟩ | ⟨hn, h0, h1, hl, -, hb⟩
        · have e1 : ((B1.size : Int) == 0) = false := by rw [← tb_length, HB1.out, hq]; rfl
          have e2 : (B1.toList == [48]) = true := by rw [toList_tb, HB1.out, hq]; rfl
          have Hn := Lib.hid hn
          have Hxs : Hid (x = p.s1) := by show _ = _; rw [Hxe.out, startV, if_pos hn]
          clear hn hq
          go_wp2_with fail
          go_meet
          have hF := HF5.out.n3 0
          simp only at hF
          rw [Hxs.out] at hF
          rw [Hn.out]
          exact ⟨hF, blk_far hblk5 (by simp; omega) _⟩
        · have e1 : ((B1.size : Int) == 0) = true := by rw [← tb_length, HB1.out, hq]; rfl
          have Hn := Lib.hid hn
          have Hxs : Hid (x - 1 = p.s1) := by show _ = _; rw [Hxe.out, startV, if_neg (by omega)]; omega
          clear hn hq
          go_wp2_with fail
          go_meet
          have hF := (HF5.out.n1 (x - 1)).n3 1
          simp only at hF
          rw [Hxs.out] at hF ⊢
          rw [Hn.out]
          exact ⟨hF, blk_far (blk_far hblk5 (by simp; omega) _) (by simp; omega) _⟩
        · have e1 : ((B1.size : Int) == 0) = false := by rw [← tb_length, HB1.out, beq_eq_false_iff_ne]; omega
          have e2 : (B1.toList == [48]) = false := by rw [toList_tb, HB1.out, beq_eq_false_iff_ne]; exact h1
          have Hxs : Hid (x - 1 = p.s1) := by show _ = _; rw [Hxe.out, startV, if_neg hn]; omega
          have Hb := Lib.hid hb
          have hblk6 := blk_far hblk5 (p := ⟨w1.heap.size, 1, none⟩) (by simp; omega) (.int .i64 (x - 1))
          have y2' := blk_cell hblk6 2
          simp at y2'
          clear hn h1 hb
          go_wp2_with (go_at_call 121; refine Hid.out ?_)
          refine Lib.hid ?_
          refine (atoi_any B1 q1 p.l1 _ HB1.out hl Hb.out).mono ?_
          rintro e w6 ⟨rfl, hb6⟩
          have HF6 := Lib.hid ((HF5.out.n1 (x - 1)).on hb6)
          have hblk7 := (hb6.block _ (Array.getElem?_eq_some_iff.1 hblk6).1).trans hblk6
          have k3' := blk_cell HF6.out.bk 3
          have f3' := blk_frozen HF6.out.bk 3
          simp [pC] at k3'
          go_wp2_with fail
          go_meet
          have hF := HF6.out.n3 p.l1
          simp only at hF
          rw [Hxs.out] at hF
          exact ⟨hF, blk_far hblk7 (by simp; omega) _⟩
      case rest =>
        obtain ⟨hF8, hblk8⟩ := hcut
        rename World => WC
        have HF8 := Lib.hid hF8
        have y3 := blk_cell hblk8 3
        simp at y3
        obtain ⟨hx20, hx21⟩ := startV_bd (n := p.l2) b1 b2
        have hst2 := HI2.out.start
        obtain ⟨x2, hxe2⟩ : ∃ x, x = startV p.s2 p.l2 := ⟨_, rfl⟩
        rw [← hxe2] at hst2 hx20 hx21
        have Hxe2 := Lib.hid hxe2
        have Hst2 := Lib.hid hst2
        clear hxe2 hst2 hF8 HF5 hblk5 y2 hblk
        go_wp2_with (go_at_call 121; refine Hid.out ?_)
        refine Lib.hid ?_
        refine (atoi_any A2 p2 x2 _ HA2.out hl2 Hst2.out).mono ?_
        rintro e w4b ⟨rfl, hb4⟩
        have HF9 := Lib.hid (HF8.out.on hb4)
        have hblk9 := (hb4.block _ (Array.getElem?_eq_some_iff.1 hblk8).1).trans hblk8
        have fr1 := blk_frozen HF9.out.bk 2
        have k9 := blk_cell HF9.out.bk 2
        simp [pC] at k9
        have HF10 := Lib.hid (HF9.out.n2 x2)
        have hblk10 := blk_far hblk9 (p := ⟨w1.heap.size, 2, none⟩) (by simp; omega) (.int .i64 x2)
        have y4 := blk_cell hblk10 4
        simp at y4
        go_upto_if 85 with (fail)
        clear y3 hb4 fr1 k9 HF9 HF8
        generalize w4b.setCell ⟨w1.heap.size, 2, none⟩ (.int .i64 x2) = w5b at HF10 hblk10 y4 ⊢
        go_cut [] (fun wx => FW w w1.heap.size (.slice (some ad) (n0 + 1) c) ll wx u6 (.slice none 0 0) ⟨[], p.s1, p.s2, p.l1, p.l2⟩ L w2.heap.size)
        case first =>
          have k1 := blk_cell HF10.out.bk 2
          have k3 := blk_cell HF10.out.bk 4
          have f1 := blk_frozen HF10.out.bk 2
          have f3 := blk_frozen HF10.out.bk 4
          simp [pC] at k1 k3
          have hS := HI2.out
          rcases hS with ⟨hn, hq, -⟩ | ⟨hn, hq, -⟩ | ⟨hn, h0, h1, hl, -, hb⟩
          · have e1 : ((B2.size : Int) == 0) = false := by rw [← tb_length, HB2.out, hq]; rfl
            have e2 : (B2.toList == [48]) = true := by rw [toList_tb, HB2.out, hq]; rfl
            have Hn := Lib.hid hn
            have Hxs : Hid (x2 = p.s2) := by show _ = _; rw [Hxe2.out, startV, if_pos hn]
            clear hn hq
            go_wp2_with fail
            go_meet
            have hF := HF10.out.n4 0
            simp only at hF
            rw [Hxs.out] at hF
            rw [Hn.out]
            exact hF
          · have e1 : ((B2.size : Int) == 0) = true := by rw [← tb_length, HB2.out, hq]; rfl
            have Hn := Lib.hid hn
            have Hxs : Hid (x2 - 1 = p.s2) := by show _ = _; rw [Hxe2.out, startV, if_neg (by omega)]; omega
            clear hn hq
            go_wp2_with fail
            go_meet
            have hF := (HF10.out.n2 (x2 - 1)).n4 1
            simp only at hF
            rw [Hxs.out] at hF ⊢
            rw [Hn.out]
            exact hF
          · have e1 : ((B2.size : Int) == 0) = false := by rw [← tb_length, HB2.out, beq_eq_false_iff_ne]; omega
            have e2 : (B2.toList == [48]) = false := by rw [toList_tb, HB2.out, beq_eq_false_iff_ne]; exact h1
            have Hxs : Hid (x2 - 1 = p.s2) := by show _ = _; rw [Hxe2.out, startV, if_neg hn]; omega
            have Hb := Lib.hid hb
            have hblk6 := blk_far hblk10 (p := ⟨w1.heap.size, 2, none⟩) (by simp; omega) (.int .i64 (x2 - 1))
            have y2' := blk_cell hblk6 4
            simp at y2'
            clear hn h1 hb
            go_wp2_with (go_at_call 121; refine Hid.out ?_)
            refine Lib.hid ?_
            refine (atoi_any B2 q2 p.l2 _ HB2.out hl Hb.out).mono ?_
            rintro e w6 ⟨rfl, hb6⟩
            have HF6 := Lib.hid ((HF10.out.n2 (x2 - 1)).on hb6)
            have k3' := blk_cell HF6.out.bk 4
            have f3' := blk_frozen HF6.out.bk 4
            simp [pC] at k3'
            go_wp2_with fail
            go_meet
            have hF := HF6.out.n4 p.l2
            simp only at hF
            rw [Hxs.out] at hF
            exact hF
        case rest =>
          have HF11 := Lib.hid hcut
          rename World => WD
          clear hcut HF10 hblk10 y4 HI1 HI2 HA1 HB1 HA2 HB2 Hxe Hxe2 hx0 hx1 hx20 hx21 Hst1 Hst2 hT4 hl1 hl2 a1 a2 b1 b2
          go_upto_block 2 with (fail)
          go_cut [8] (fun v8 wx => ∃ (r : Nat) (dv1 : Value), r ≤ n0 + 1 ∧ v8 = .int .i64 r ∧ Hid (r = ptN ps (j + 1)) ∧ Hid (FW w w1.heap.size (.slice (some ad) (n0 + 1) c) ll wx u6 dv1 p L w2.heap.size))
          case first =>
            go_wp2_with fail
            go_loopw [8] (fun v8 wx => ∃ (i r : Nat) (C : List D) (dv1 : Value), i ≤ p.ds.length ∧ r ≤ n0 + 1 ∧ v8 = .int .i64 r ∧ C.length ≤ i ∧ Hid (C = p.ds.take i) ∧ Hid ((r = q + 1 + i) ∨ (r = n0 + 1 ∧ i = p.ds.length ∧ j + 1 = ps.length)) ∧ Hid (FW w w1.heap.size (.slice (some ad) (n0 + 1) c) ll wx u6 dv1 ⟨C, p.s1, p.s2, p.l1, p.l2⟩ L w2.heap.size)) (fun v8 _ => n0 + 2 - (intOf v8).toNat)
            case atStart => exact ⟨0, q + 1, [], _, Nat.zero_le _, by omega, by go_num, Nat.le_refl _, rfl, .inl (by omega), HF11⟩
            case round =>
              obtain ⟨i, r, C, dv1, hi, hr, rfl, hCl, HC, Hr, HF⟩ := hrel
              rename World => WI
              have hdc := Hr.out
              rcases hdc with hr1 | ⟨hr1, hi1, hj1⟩
              · have Hr1 := Lib.hid hr1
                by_cases hi2 : i < p.ds.length
                · obtain ⟨d, hd⟩ : ∃ d, p.ds[i]? = some d := ⟨_, List.getElem?_eq_getElem hi2⟩
                  obtain ⟨z, hz, hzl⟩ := HL.out.dif Hp.out hd
                  rw [← hqk.out, ← hr1] at hz
                  have Htk := Lib.hid (take_succ_some hd)
                  have hop := Hpo.out.op d (List.mem_of_getElem? hd)
                  have hz0 : ∃ h0 : 0 < z.size, z[0]'h0 = sgn d.op := by
                    have h1 : (tb z)[0]? = some (sgn d.op) := by rw [hzl]; rfl
                    obtain ⟨h2, h3⟩ := List.getElem?_eq_some_iff.1 h1
                    exact ⟨by rw [← tb_length]; exact h2, h3⟩
                  obtain ⟨hz0, hz0c⟩ := hz0
                  have Hz0 := Lib.hid hz0c
                  have hzs : z.size ≤ s.size := line_size HL.out hz hst.out
                  obtain ⟨z1, hz1⟩ : ∃ z1, z.extract 1 z.size = z1 := ⟨_, rfl⟩
                  have hz1t : tb z1 = (tb d.t).flatMap encU := by
                    rw [← hz1, tb_extract, hzl, List.take_of_length_le (by rw [← hzl, tb_length]; exact Nat.le_refl _)]; rfl
                  have hz1s : z1.size ≤ z.size := by rw [← hz1]; simp
                  obtain ⟨z2, hz2⟩ : ∃ z2 : ByteArray, z2 = ⟨((tb z1).flatMap pluE).toArray⟩ := ⟨_, rfl⟩
                  have Hz2t : Hid (tb z2 = (tb d.t).flatMap encV) := by show _ = _; rw [hz2, ba_list, hz1t, encV_flat]
                  have hz2s : z2.size ≤ 50000000 := plu_size hz2 (by omega)
                  have Hz2 := Lib.hid hz2
                  have hrn : r < n0 := by omega
                  have hzn : 1 ≤ z.size := hz0
                  obtain ⟨ad', hA, hc5⟩ := line_cell HF.out.lines hz
                  injection hA with hA
                  subst hA
                  have ho3 : d.op = -1 ∨ d.op = 1 ∨ d.op = 0 := by omega
                  clear hz hzl hd hz1t hz2 hr1 hz0c hop
                  rcases ho3 with ho | ho | ho
                  · have Ho := Lib.hid ho
                    clear ho
                    have t45 : ((((z[0]'hz0).toNat : Nat) : Int) == 45) = true := by rw [Hz0.out, Ho.out]; decide
                    go_wp2_with (go_at_call 103; refine Hid.out ?_)
                    refine Lib.hid ?_
                    refine (replace2_any z1 _ (by omega)).mono ?_
                    rintro e w12 ⟨rfl, hb12⟩
                    rw [← Hz2.out]
                    go_wp2_with (go_at_call 110; refine Hid.out ?_)
                    refine Lib.hid ?_
                    refine (unquery_any z2 (tb d.t) _ hz2s Hz2t (HTw.out.below (HF.out.bel.trans (hb12.mono HF.out.bel.size)))).mono ?_
                    rintro e w13 ⟨rfl, hb13⟩
                    rw [ba_tb]
                    have HF13 := Lib.hid ((HF.out.on hb12).on hb13)
                    have k0 := blk_cell HF13.out.bk 0
                    simp [pC] at k0
                    go_wp2_with (at_builtin; refine Hid.out ?_)
                    refine Lib.hid ?_
                    have HF14 := Lib.hid (HF13.out.on ((Below.refl _ _).alloc (Nat.le_refl _) (.cells #[.int .i8 (-1), .string d.t] 128)))
                    have hde : (⟨-1, d.t⟩ : D) = d := by rw [← Ho.out]
                    have Hde := Lib.hid hde
                    clear hde
                    refine wpList_push (P := Tryz.prog) (v := dv1) st77 rfl (.tmp 142) (.tmp 145) rfl rfl HF14.out.own ⟨-1, d.t⟩ ⟨w13.heap.size, 0, none⟩ 1 (by rfl) dP_len (dP_one _) (show C.length < 100000000 by omega) (le_al HF13.out.bel.size) (cells2_of (heap_alloc_new _ _)) ?_
                    intro g7 c7 w15 hown7 hg7 hat7
                    have hT := HF14.out.turn hg7 hown7 (by
                      rcases hat7 with h | h
                      · exact .inl h.symm
                      · exact .inr fun y e => by injection e with e; rw [← e, h]; exact Nat.le_refl _)
                    have b15 := gb_heap hg7 (i := w1.heap.size) (Array.getElem?_eq_some_iff.1 HF14.out.bk).1 (fun e => own_block_ty HF14.out.own HF14.out.bk (by omega) e.symm) HF14.out.bk
                    have k0' := blk_cell b15 0
                    have f0' := blk_frozen b15 0
                    simp [pC] at k0'
                    simp only at hT
                    rw [Hde.out] at hT
                    have HT := Lib.hid hT
                    clear k0 hat7 hT
                    go_wp2_with fail
                    go_roundw
                    case rel => exact ⟨i + 1, r + 1, C ++ [d], _, by omega, by omega, by go_num, by rw [List.length_append, List.length_singleton]; omega, by show _ = _; rw [Htk.out, HC.out], .inl (by have := Hr1.out; omega), HT⟩
                    case measure => simp [intOf]; omega
                  · have Ho := Lib.hid ho
                    clear ho
                    have t45 : ((((z[0]'hz0).toNat : Nat) : Int) == 45) = false := by rw [Hz0.out, Ho.out]; decide
                    have t43 : ((((z[0]'hz0).toNat : Nat) : Int) == 43) = true := by rw [Hz0.out, Ho.out]; decide
                    go_wp2_with (go_at_call 103; refine Hid.out ?_)
                    refine Lib.hid ?_
                    refine (replace2_any z1 _ (by omega)).mono ?_
                    rintro e w12 ⟨rfl, hb12⟩
                    rw [← Hz2.out]
                    go_wp2_with (go_at_call 110; refine Hid.out ?_)
                    refine Lib.hid ?_
                    refine (unquery_any z2 (tb d.t) _ hz2s Hz2t (HTw.out.below (HF.out.bel.trans (hb12.mono HF.out.bel.size)))).mono ?_
                    rintro e w13 ⟨rfl, hb13⟩
                    rw [ba_tb]
                    have HF13 := Lib.hid ((HF.out.on hb12).on hb13)
                    have k0 := blk_cell HF13.out.bk 0
                    simp [pC] at k0
                    go_wp2_with (at_builtin; refine Hid.out ?_)
                    refine Lib.hid ?_
                    have HF14 := Lib.hid (HF13.out.on ((Below.refl _ _).alloc (Nat.le_refl _) (.cells #[.int .i8 (1), .string d.t] 128)))
                    have hde : (⟨1, d.t⟩ : D) = d := by rw [← Ho.out]
                    have Hde := Lib.hid hde
                    clear hde
                    refine wpList_push (P := Tryz.prog) (v := dv1) st77 rfl (.tmp 151) (.tmp 154) rfl rfl HF14.out.own ⟨1, d.t⟩ ⟨w13.heap.size, 0, none⟩ 1 (by rfl) dP_len (dP_one _) (show C.length < 100000000 by omega) (le_al HF13.out.bel.size) (cells2_of (heap_alloc_new _ _)) ?_
                    intro g7 c7 w15 hown7 hg7 hat7
                    have hT := HF14.out.turn hg7 hown7 (by
                      rcases hat7 with h | h
                      · exact .inl h.symm
                      · exact .inr fun y e => by injection e with e; rw [← e, h]; exact Nat.le_refl _)
                    have b15 := gb_heap hg7 (i := w1.heap.size) (Array.getElem?_eq_some_iff.1 HF14.out.bk).1 (fun e => own_block_ty HF14.out.own HF14.out.bk (by omega) e.symm) HF14.out.bk
                    have k0' := blk_cell b15 0
                    have f0' := blk_frozen b15 0
                    simp [pC] at k0'
                    simp only at hT
                    rw [Hde.out] at hT
                    have HT := Lib.hid hT
                    clear k0 hat7 hT
                    go_wp2_with fail
                    go_roundw
                    case rel => exact ⟨i + 1, r + 1, C ++ [d], _, by omega, by omega, by go_num, by rw [List.length_append, List.length_singleton]; omega, by show _ = _; rw [Htk.out, HC.out], .inl (by have := Hr1.out; omega), HT⟩
                    case measure => simp [intOf]; omega
                  · have Ho := Lib.hid ho
                    clear ho
                    have t45 : ((((z[0]'hz0).toNat : Nat) : Int) == 45) = false := by rw [Hz0.out, Ho.out]; decide
                    have t43 : ((((z[0]'hz0).toNat : Nat) : Int) == 43) = false := by rw [Hz0.out, Ho.out]; decide
                    have t32 : ((((z[0]'hz0).toNat : Nat) : Int) == 32) = true := by rw [Hz0.out, Ho.out]; decide
                    go_wp2_with (go_at_call 103; refine Hid.out ?_)
                    refine Lib.hid ?_
                    refine (replace2_any z1 _ (by omega)).mono ?_
                    rintro e w12 ⟨rfl, hb12⟩
                    rw [← Hz2.out]
                    go_wp2_with (go_at_call 110; refine Hid.out ?_)
                    refine Lib.hid ?_
                    refine (unquery_any z2 (tb d.t) _ hz2s Hz2t (HTw.out.below (HF.out.bel.trans (hb12.mono HF.out.bel.size)))).mono ?_
                    rintro e w13 ⟨rfl, hb13⟩
                    rw [ba_tb]
                    have HF13 := Lib.hid ((HF.out.on hb12).on hb13)
                    have k0 := blk_cell HF13.out.bk 0
                    simp [pC] at k0
                    go_wp2_with (at_builtin; refine Hid.out ?_)
                    refine Lib.hid ?_
                    have HF14 := Lib.hid (HF13.out.on ((Below.refl _ _).alloc (Nat.le_refl _) (.cells #[.int .i8 (0), .string d.t] 128)))
                    have hde : (⟨0, d.t⟩ : D) = d := by rw [← Ho.out]
                    have Hde := Lib.hid hde
                    clear hde
                    refine wpList_push (P := Tryz.prog) (v := dv1) st77 rfl (.tmp 160) (.tmp 163) rfl rfl HF14.out.own ⟨0, d.t⟩ ⟨w13.heap.size, 0, none⟩ 1 (by rfl) dP_len (dP_one _) (show C.length < 100000000 by omega) (le_al HF13.out.bel.size) (cells2_of (heap_alloc_new _ _)) ?_
                    intro g7 c7 w15 hown7 hg7 hat7
                    have hT := HF14.out.turn hg7 hown7 (by
                      rcases hat7 with h | h
                      · exact .inl h.symm
                      · exact .inr fun y e => by injection e with e; rw [← e, h]; exact Nat.le_refl _)
                    have b15 := gb_heap hg7 (i := w1.heap.size) (Array.getElem?_eq_some_iff.1 HF14.out.bk).1 (fun e => own_block_ty HF14.out.own HF14.out.bk (by omega) e.symm) HF14.out.bk
                    have k0' := blk_cell b15 0
                    have f0' := blk_frozen b15 0
                    simp [pC] at k0'
                    simp only at hT
                    rw [Hde.out] at hT
                    have HT := Lib.hid hT
                    clear k0 hat7 hT
                    go_wp2_with fail
                    go_roundw
                    case rel => exact ⟨i + 1, r + 1, C ++ [d], _, by omega, by omega, by go_num, by rw [List.length_append, List.length_singleton]; omega, by show _ = _; rw [Htk.out, HC.out], .inl (by have := Hr1.out; omega), HT⟩
                    case measure => simp [intOf]; omega

                · have hie : i = p.ds.length := by omega
                  have Hie := Lib.hid hie
                  have HFp : Hid (FW w w1.heap.size (.slice (some ad) (n0 + 1) c) ll WI u6 dv1 p L w2.heap.size) := by
                    have h1 := HF.out
                    rw [HC.out, hie, List.take_length] at h1
                    exact h1
                  by_cases hj2 : j + 1 < ps.length
                  · obtain ⟨p', hp'⟩ : ∃ p', ps[j + 1]? = some p' := ⟨_, List.getElem?_eq_getElem hj2⟩
                    obtain ⟨z, hz, hzl⟩ := HL.out.hdr hp'
                    have hrp : r = preN ps (j + 1) := by rw [preN_succ Hp.out, ← hqk.out, hr1, hie]
                    obtain ⟨e1, e2⟩ := ptN_lt hp'
                    rw [← hrp] at hz e1 e2
                    have Hrp : Hid (r = ptN ps (j + 1)) := e1.symm
                    rw [← Hn0.out] at e2
                    have hz0 : ∃ h0 : 0 < z.size, z[0]'h0 = 64 := by
                      have h1 : (tb z)[0]? = some 64 := by rw [hzl]; rfl
                      obtain ⟨h2, h3⟩ := List.getElem?_eq_some_iff.1 h1
                      exact ⟨by rw [← tb_length]; exact h2, h3⟩
                    obtain ⟨hz0, hz0c⟩ := hz0
                    have Hz0 := Lib.hid hz0c
                    have hzs : z.size ≤ s.size := line_size HL.out hz hst.out
                    obtain ⟨z1, hz1⟩ : ∃ z1, z.extract 1 z.size = z1 := ⟨_, rfl⟩
                    have hz1t : tb z1 = (hdrL p').drop 1 := by
                      rw [← hz1, tb_extract, hzl, List.take_of_length_le (by rw [← hzl, tb_length]; exact Nat.le_refl _)]
                    have hz1s : z1.size ≤ z.size := by rw [← hz1]; simp
                    obtain ⟨z2, hz2⟩ : ∃ z2 : ByteArray, z2 = ⟨((tb z1).flatMap pluE).toArray⟩ := ⟨_, rfl⟩
                    have Hz2t : Hid (tb z2 = ((hdrL p').drop 1).flatMap encV) := by show _ = _; rw [hz2, ba_list, hz1t, hdr_plain (hok.out p' (List.mem_of_getElem? hp')).num]
                    have hz2s : z2.size ≤ 50000000 := plu_size hz2 (by omega)
                    have Hz2 := Lib.hid hz2
                    have hzn : 1 ≤ z.size := hz0
                    obtain ⟨ad', hA, hc5⟩ := line_cell HF.out.lines hz
                    injection hA with hA
                    subst hA
                    have t45 : ((((z[0]'hz0).toNat : Nat) : Int) == 45) = false := by rw [Hz0.out]; decide
                    have t43 : ((((z[0]'hz0).toNat : Nat) : Int) == 43) = false := by rw [Hz0.out]; decide
                    have t32 : ((((z[0]'hz0).toNat : Nat) : Int) == 32) = false := by rw [Hz0.out]; decide
                    have t64 : ((((z[0]'hz0).toNat : Nat) : Int) == 64) = true := by rw [Hz0.out]; decide
                    clear hz hzl hz1t hz2 hr1 hz0c hp' hrp e1 hie
                    go_wp2_with (go_at_call 103; refine Hid.out ?_)
                    refine Lib.hid ?_
                    refine (replace2_any z1 _ (by omega)).mono ?_
                    rintro e w12 ⟨rfl, hb12⟩
                    rw [← Hz2.out]
                    go_wp2_with (go_at_call 110; refine Hid.out ?_)
                    refine Lib.hid ?_
                    refine (unquery_any z2 ((hdrL p').drop 1) _ hz2s Hz2t (HTw.out.below (HF.out.bel.trans (hb12.mono HF.out.bel.size)))).mono ?_
                    rintro e w13 ⟨rfl, hb13⟩
                    have HF13 := Lib.hid ((HFp.out.on hb12).on hb13)
                    go_wp2_with fail
                    go_meet
                    exact ⟨r, dv1, by omega, rfl, Hrp, HF13⟩
                  · have hje : j + 1 = ps.length := by omega
                    have hrn : r = n0 := by rw [hr1, hie, hqk.out, Hn0.out]; exact preN_last Hp.out hje
                    subst hrn
                    obtain ⟨z, hz, hzl⟩ := HL.out.last
                    rw [← Hn0.out] at hz
                    have hzs : ¬ 0 < z.size := by rw [← tb_length, hzl]; simp
                    have hzs' : ¬ (0 : Int) < (z.size : Int) := by omega
                    obtain ⟨ad', hA, hc5⟩ := line_cell HF.out.lines hz
                    injection hA with hA
                    subst hA
                    have Hje := Lib.hid hje
                    clear hz hzl hr1 hie hje
                    go_wp2_with fail
                    go_roundw
                    case rel => exact ⟨i, r + 1, C, _, by omega, by omega, by go_num, hCl, HC, .inr ⟨rfl, Hie.out, Hje.out⟩, HF⟩
                    case measure => simp [intOf]
              · subst hr1
                have HFp : Hid (FW w w1.heap.size (.slice (some ad) (n0 + 1) c) ll WI u6 dv1 p L w2.heap.size) := by
                  have h1 := HF.out
                  rw [HC.out, hi1, List.take_length] at h1
                  exact h1
                have Hrp : Hid (n0 + 1 = ptN ps (j + 1)) := by show _ = _; rw [hj1, ptN_end, Hn0.out]
                clear hi1 hj1
                go_wp2_with fail
                go_meet
                exact ⟨n0 + 1, dv1, Nat.le_refl _, by go_num, Hrp, HFp⟩
          case rest =>
            obtain ⟨r, dv1, hr, rfl, Hr, HF⟩ := hcut
            rename World => WE
            have k0 := blk_cell HF.out.bk 0
            have k1 := blk_cell HF.out.bk 1
            have k2 := blk_cell HF.out.bk 2
            have k3 := blk_cell HF.out.bk 3
            have k4 := blk_cell HF.out.bk 4
            simp [pC] at k0 k1 k2 k3 k4
            have hLl : L.length ≤ n0 := by
              have := congrArg List.length HL2.out
              rw [List.length_map, List.length_take] at this
              omega
            obtain ⟨A7, c7, hdv, -⟩ := HF.out.own.rd dP_len
            subst hdv
            go_wp2_with (at_builtin; refine Hid.out ?_)
            refine Lib.hid ?_
            have HF2 := Lib.hid (HF.out.on ((Below.refl _ _).alloc (Nat.le_refl _) (.cells #[.slice A7 p.ds.length c7, .int .i64 p.s1, .int .i64 p.s2, .int .i64 p.l1, .int .i64 p.l2] 114)))
            refine wpList_push (P := Tryz.prog) (v := u6) st73 rfl (.tmp 172) (.tmp 174) rfl rfl HF2.out.pat (.slice A7 p.ds.length c7, p) ⟨WE.heap.size, 0, none⟩ 1 (by rfl) pvP_len (pvP_one _ _ _ _) (by omega) (le_al HF.out.bel.size) (cells5_of (heap_alloc_new _ _)) ?_
            intro g7 c8 w15 hown7 hg7 hat7
            have HO := Lib.hid (HF2.out.close hg7 hown7 (by
              rcases hat7 with h | h
              · exact .inl h.symm
              · exact .inr fun y e => by injection e with e; rw [← e, h]; exact Nat.le_refl _))
            clear k0 k1 k2 k3 k4 hat7
            have Htk := Lib.hid (take_succ_some Hp.out)
            have hrq : q < r := by rw [Hr.out, hqk.out]; exact ptN_up Hp.out
            go_wp2_with fail
            go_roundw
            case rel => exact ⟨j + 1, r, L ++ [(.slice A7 p.ds.length c7, p)], by omega, by omega, rfl, Hr, by show _ = _; rw [List.map_append, HL2.out, Htk.out]; rfl, HO⟩
            case measure => simp [intOf]; omega
    · have hje : j = ps.length := by omega
      have hqe : q = n0 + 1 := by rw [Hq.out, hje, ptN_end, Hn0.out]
      subst hqe
      have HLf : Hid (L.map (·.2) = ps) := by show _ = _; rw [HL2.out, hje, List.take_length]
      clear hje hlt
      go_wp2_with fail
      go_ret2
      exact ⟨_, L, rfl, HLf.out, Hfo.out.pat, Hfo.out.each, Hfo.out.bel⟩
end Go.Proofs.YtjebgfpcmooniaaGreatDoor

namespace Go.Proofs.YtjebgfpcmooniaaGreatDoor
open Go Go.RowKit

theorem idle77 (p q : Addr) (w : World) :
    CallsD Tryz.prog 77 #[.pointer (some p), .pointer (some q)] .returning w fun e u' w' => e = .returned (.tuple #[]) ∧ u' = .returning ∧ w' = w := by
  refine callsD_of_wpS Tryz.func77 rfl fun c₀ cs hu => ?_
  apply wpS_seq
  apply wpS_region
  simp [wpOpsS, go_sem, recoverD, hu, Tryz.ntmps77, Exit.thenS]
  refine wpS_cond (t := false) (by simp [Act.eval, Array.replicate]) ?_
  simp only [Bool.false_eq_true, if_false]
  refine wpS_of_wp (wp_skip ?_)
  cases c₀
  simp_all [bodyPostS, results, Tryz.results77]

set_option maxRecDepth 100000 in
theorem ptext_nil (dv : Value) (s : ByteArray) (w : World) (hs : s.size = 0) : Calls Tryz.prog 78 #[dv, .string s] w (FtPost w []) := by
  have hs0 : ((s.size : Int) == 0) = true := by simp [hs]
  clear hs
  go_enter Tryz.func78, Tryz.ntmps78
  go_wp2_with fail
  go_ret2
  refine ⟨_, [], rfl, rfl, ?_, by simp, (Below.refl _ _).alloc (Nat.le_refl _) _⟩
  exact ⟨by simp, .inr ⟨w.heap.size, 0, #[], rfl, Nat.le_refl _, heap_alloc_new _ _, Nat.le_refl _, by simp, by simp, by simp⟩⟩

theorem ptext_all (dv : Value) (s : ByteArray) (ps : List P) (w : World) (hs : s.size ≤ 16000000) (hst : Hid (tb s = ps.flatMap textP)) (hok : Hid (∀ p ∈ ps, ReadOk p)) (ht : Tabs w) :
    Calls Tryz.prog 78 #[dv, .string s] w (FtPost w ps) := by
  by_cases h : ps = []
  · subst h
    refine ptext_nil dv s w ?_
    rw [← tb_length, hst.out]; rfl
  · exact ptext_any dv s ps w hs hst hok h ht

/-- the thin package's patches of a text -/
def FdPost (w : World) (ps : List P) (e : Ending) (w' : World) : Prop :=
  ∃ (v : Value) (l' : List (Value × P)), e = .returned (.tuple #[v, .int .i64 0]) ∧ l'.map (·.2) = ps ∧ OwnL pvP 66 5 w' w.heap.size v l' ∧ (∀ x ∈ l', OwnL dI 64 2 w' w.heap.size x.1 x.2.ds) ∧ Below w.heap.size w w'

set_option maxRecDepth 100000 in
set_option maxHeartbeats 1000000 in
theorem fromText_any (s : ByteArray) (ps : List P) (w : World) (hs : s.size ≤ 16000000) (hst : Hid (tb s = ps.flatMap textP)) (hok : Hid (∀ p ∈ ps, ReadOk p)) (hpn : ps.length ≤ 1000000) (hds : Hid (∀ p ∈ ps, p.ds.length ≤ 1000000)) (ht : Tabs w) :
    Calls Tryz.prog 42 #[.string s] w (FdPost w ps) := by
  have hmf : ∀ (fn : Fn) (first cap : Array Value) (w : World), (Instr.makeFunc fn first cap).run Tryz.prog w = .ok (.func fn first cap) w := fun _ _ _ _ => rfl
  have hne : ∀ (w : World), (binOp .neq 100 .nilIface .nilIface).run Tryz.prog w = .ok (.bool false) w := fun _ => rfl
  go_enter_defers Tryz.func42, Tryz.ntmps42
  go_wp2_with (go_at_call 53; refine Hid.out ?_)
  refine Lib.hid ?_
  have hsz3 : ((w.alloc (.cells #[.slice none 0 0] 29)).alloc (.cells #[.int .i64 0] 3)).heap.size = w.heap.size + 2 := by simp
  have hbe : Below w.heap.size w ((w.alloc (.cells #[.slice none 0 0] 29)).alloc (.cells #[.int .i64 0] 3)) := ((Below.refl _ _).alloc (Nat.le_refl _) _).alloc (by simp) _
  have ho4 : ((w.alloc (.cells #[.slice none 0 0] 29)).alloc (.cells #[.int .i64 0] 3)).heap[w.heap.size]? = some (.cells #[.slice none 0 0] 29 (0, 0)) :=
    (Below.heap_alloc _ _ _ (by simp)).trans (heap_alloc_at _ _ _ (by simp))
  have ho5 : ((w.alloc (.cells #[.slice none 0 0] 29)).alloc (.cells #[.int .i64 0] 3)).heap[w.heap.size + 1]? = some (.cells #[.int .i64 0] 3 (0, 0)) := heap_alloc_at _ _ _ (by simp)
  generalize (w.alloc (.cells #[.slice none 0 0] 29)).alloc (.cells #[.int .i64 0] 3) = W at hsz3 hbe ho4 ho5 ⊢
  refine (new_any W).mono ?_
  rintro e w1 ⟨dv, rfl, hb1⟩
  go_wp2_with (go_at_call 78; refine Hid.out ?_)
  refine Lib.hid ?_
  refine (ptext_all dv s ps w1 hs hst hok (ht.below (hbe.trans (hb1.mono hbe.size)))).mono ?_
  rintro e w3 ⟨v3, L, rfl, hL, k1, k2, k3⟩
  obtain ⟨A3, c3, rfl, hr3⟩ := k1.rd pvP_len
  have HL := Lib.hid hL
  have hLn : L.length ≤ 1000000 := by have := congrArg List.length hL; rw [List.length_map] at this; omega
  clear hL
  go_wp2_with (go_at_call 46; refine Hid.out ?_)
  refine Lib.hid ?_
  refine (patches_any A3 L.length c3 L w3 hr3 hLn (Lib.hid fun x hx => Rows.of_own dP_len (k2 x hx)) (Lib.hid fun x hx => ?_)).mono ?_
  · have hm : x.2 ∈ ps := by rw [← HL.out]; exact List.mem_map_of_mem hx
    exact ⟨hds.out _ hm, (hok.out _ hm).op⟩
  rintro e w4 ⟨v4, l', rfl, j1, j2, j3, j4⟩
  obtain ⟨A4, c4, rfl, _⟩ := j2.rd pvP_len
  have hall : Below W.heap.size W w4 := hb1.trans ((k3.mono hb1.size).trans (j4.mono (Nat.le_trans hb1.size k3.size)))
  have hbel : Below w.heap.size w w4 := hbe.trans (hall.mono hbe.size)
  have q4 := (hall.block w.heap.size (by omega)).trans ho4
  have q5 := (hall.block (w.heap.size + 1) (by omega)).trans ho5
  have hbase : w.heap.size + 2 ≤ w3.heap.size := by have := hb1.size; have := k3.size; omega
  have x4 := blk_cell q4 0
  have f4 := blk_frozen q4 0
  have x5 := blk_cell q5 0
  have f5 := blk_frozen q5 0
  simp at x4 x5
  have J1 := Lib.hid j1
  clear hbe ho4 ho5 hb1 k1 k2 k3 hr3 j4 hall j1
  go_wp2_with fail
  have n4 : ∀ v : Value, (∀ g, v.ownBlock = some g → w3.heap.size ≤ g) → v.ownBlock ≠ some w.heap.size ∧ v.ownBlock ≠ some (w.heap.size + 1) := fun v hv => ⟨fun e => by have := hv _ e; omega, fun e => by have := hv _ e; omega⟩
  have o2 := n4 _ (fun g e => (j2.lt g e).1)
  have r2 : OwnL pvP 66 5 ((w4.setCell ⟨w.heap.size, 0, none⟩ (.slice A4 l'.length c4)).setCell ⟨w.heap.size + 1, 0, none⟩ (.int .i64 0)) w.heap.size (.slice A4 l'.length c4) l' := ((j2.base_le (by omega)).setCell_other o2.1 _).setCell_other o2.2 _
  have r3 : ∀ x ∈ l', OwnL dI 64 2 ((w4.setCell ⟨w.heap.size, 0, none⟩ (.slice A4 l'.length c4)).setCell ⟨w.heap.size + 1, 0, none⟩ (.int .i64 0)) w.heap.size x.1 x.2.ds := fun x hx => by
    have o := n4 x.1 (fun g e => ((j3 x hx).lt g e).1)
    exact (((j3 x hx).base_le (by omega)).setCell_other o.1 _).setCell_other o.2 _
  have r4 : Below w.heap.size w ((w4.setCell ⟨w.heap.size, 0, none⟩ (.slice A4 l'.length c4)).setCell ⟨w.heap.size + 1, 0, none⟩ (.int .i64 0)) := (hbel.setCell (by simp) _).setCell (by simp) _
  have t4 := blk_cell (blk_far (blk_set q4 0 (.slice A4 l'.length c4)) (p := ⟨w.heap.size + 1, 0, none⟩) (by simp) (.int .i64 0)) 0
  have t5 := blk_cell (blk_set (blk_far q5 (p := ⟨w.heap.size, 0, none⟩) (by simp) (.slice A4 l'.length c4)) 0 (.int .i64 0)) 0
  simp at t4 t5
  generalize (w4.setCell ⟨w.heap.size, 0, none⟩ (.slice A4 l'.length c4)).setCell ⟨w.heap.size + 1, 0, none⟩ (.int .i64 0) = wF at r2 r3 r4 t4 t5 ⊢
  have hfin : FdPost w ps (.returned (.tuple #[.slice A4 l'.length c4, .int .i64 0])) wF := ⟨_, l', rfl, by rw [J1.out, HL.out], r2, r3, r4⟩
  refine leaves_cons (f := 77) (args := #[.pointer (some ⟨w.heap.size, 0, none⟩), .pointer (some ⟨w.heap.size + 1, 0, none⟩)]) (by simp) (by simp [go_sem]) ?_
  refine (idle77 ⟨w.heap.size, 0, none⟩ ⟨w.heap.size + 1, 0, none⟩ wF).mono ?_
  rintro e u' w'' ⟨rfl, rfl, rfl⟩
  simp [Leaves, settle, results, Tryz.results42, go_sem, t4, t5]
  exact hfin
end Go.Proofs.YtjebgfpcmooniaaGreatDoor
