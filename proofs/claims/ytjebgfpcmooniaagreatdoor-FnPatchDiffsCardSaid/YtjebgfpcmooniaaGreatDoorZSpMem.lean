/- Rows of patches that are changed in place: each patch owns its row, no two the same. No program in sight. Rows of patches by their address, as a walk spells it. No program in sight. A patch is divided: the memory. No program in sight. -/
import Derived.Test.YtjebgfpcmooniaaGreatDoorZFtDoor
namespace Go.Proofs.YtjebgfpcmooniaaGreatDoor
open Go Go.RowKit

theorem OwnL.same {α : Type} {f : α → List Value} {e sz : Nat} {w w' : World} {base : Nat} {v : Value} {l : List α} (h : OwnL f e sz w base v l) (hs : ∀ g, v.ownBlock = some g → w'.heap[g]? = w.heap[g]?) : OwnL f e sz w' base v l := by
  refine ⟨h.1, ?_⟩
  rcases h.2 with hn | ⟨g, cap, cur, rfl, hbg, hgg, rest⟩
  · exact .inl hn
  · exact .inr ⟨g, cap, cur, rfl, hbg, (hs g rfl).trans hgg, rest⟩

/-- rows of which no two are one -/
def Apart (L : List (Value × P)) : Prop := ∀ (i j : Nat) (x y : Value × P), L[i]? = some x → L[j]? = some y → i ≠ j → x.1.ownBlock = none ∨ x.1.ownBlock ≠ y.1.ownBlock
theorem Apart.snoc {L : List (Value × P)} {z : Value × P} (h : Apart L) (hz : ∀ x ∈ L, x.1.ownBlock = none ∨ x.1.ownBlock ≠ z.1.ownBlock) : Apart (L ++ [z]) := by
  intro i j x y hx hy hij
  have hi := (List.getElem?_eq_some_iff.1 hx).1
  have hj := (List.getElem?_eq_some_iff.1 hy).1
  rw [List.length_append, List.length_singleton] at hi hj
  by_cases h1 : i < L.length
  · rw [List.getElem?_append_left h1] at hx
    by_cases h2 : j < L.length
    · rw [List.getElem?_append_left h2] at hy
      exact h i j x y hx hy hij
    · have e : j = L.length := by omega
      subst e
      rw [List.getElem?_append_right (Nat.le_refl _), Nat.sub_self] at hy
      injection hy with hy
      subst hy
      exact hz x (List.mem_of_getElem? hx)
  · have e : i = L.length := by omega
    subst e
    rw [List.getElem?_append_right (Nat.le_refl _), Nat.sub_self] at hx
    injection hx with hx
    subst hx
    have h2 : j < L.length := by omega
    rw [List.getElem?_append_left h2] at hy
    rcases hz y (List.mem_of_getElem? hy) with k | k
    · cases hb : z.1.ownBlock with
      | none => exact .inl rfl
      | some g => rw [k]; exact .inr (by simp)
    · exact .inr fun e => k e.symm
theorem Apart.set {L : List (Value × P)} {i : Nat} {z : Value × P} (h : Apart L) (hz : ∀ (j : Nat) (y : Value × P), L[j]? = some y → j ≠ i → y.1.ownBlock = none ∨ y.1.ownBlock ≠ z.1.ownBlock) : Apart (L.set i z) := by
  intro a b x y hx hy hab
  rw [List.getElem?_set] at hx hy
  split at hx
  · rename_i ea
    subst ea
    rw [if_neg hab] at hy
    split at hx
    · injection hx with hx
      subst hx
      rcases hz b y hy (fun e => hab e.symm) with k | k
      · cases hb : z.1.ownBlock with
        | none => exact .inl rfl
        | some g => rw [k]; exact .inr (by simp)
      · exact .inr fun e => k e.symm
    · cases hx
  · rename_i ea
    split at hy
    · rename_i eb
      subst eb
      split at hy
      · injection hy with hy
        subst hy
        exact hz a x hx (fun e => hab e)
      · cases hy
    · exact h a b x y hx hy hab

/-- a row of patches that is changed in place -/
structure Rw (B : Nat) (w : World) (v : Value) (L : List (Value × P)) : Prop where
  pat : OwnL pvP 114 5 w B v L
  each : ∀ x ∈ L, OwnL dP 128 2 w B x.1 x.2.ds
  apart : Apart L

section
variable {B : Nat} {w w1 w' : World} {v v' dv' : Value} {L : List (Value × P)} {i : Nat} {x x' : Value × P}
theorem Rw.same (h : Rw B w v L) (hs : ∀ g, (v.ownBlock = some g ∨ ∃ x ∈ L, x.1.ownBlock = some g) → w'.heap[g]? = w.heap[g]?) : Rw B w' v L :=
  ⟨h.pat.same fun g e => hs g (.inl e), fun x hx => (h.each x hx).same fun g e => hs g (.inr ⟨x, hx, e⟩), h.apart⟩
theorem Rw.on (h : Rw B w v L) (hb : Below w.heap.size w w') : Rw B w' v L :=
  ⟨h.pat.below_size hb, fun x hx => (h.each x hx).below_size hb, h.apart⟩
theorem Rw.alloc (h : Rw B w v L) (o : Obj) : Rw B (w.alloc o) v L := h.on ((Below.refl _ _).alloc (Nat.le_refl _) _)
theorem Rw.drewN (h : Rw B w v L) (n : Nat) : Rw B (w.drewN n) v L := ⟨h.pat, h.each, h.apart⟩
theorem Rw.drew (h : Rw B w v L) : Rw B w.drew v L := ⟨h.pat, h.each, h.apart⟩
/-- a cell of the row -/
theorem Rw.cell {g n c : Nat} (h : Rw B w (.slice (some ⟨g, 0, none⟩) n c) L) (hx : L[i]? = some x) {j : Nat} {u : Value} (hu : (pvP x)[j]? = some u) : w.cell? ⟨g, i * 5 + j, none⟩ = some u := by
  have hj : j < 5 := (List.getElem?_eq_some_iff.1 hu).1
  have h1 := h.pat.at_cells (i * 5 + j) u (by rw [flat_at pvP_len L i x hx j hj]; exact hu)
  have e : ((⟨g, 0, none⟩ : Addr).add (i * 5 + j)) = ⟨g, i * 5 + j, none⟩ := by unfold Addr.add; split <;> simp_all
  rwa [e] at h1
theorem Rw.fro {g n c : Nat} (h : Rw B w (.slice (some ⟨g, 0, none⟩) n c) L) (k : Nat) : w.frozen? ⟨g, k, none⟩ = false := own_fro h.pat k
/-- the row and a patch's row are two blocks -/
theorem Rw.ne (h : Rw B w v L) (hx : x ∈ L) : ∀ g, v.ownBlock = some g → x.1.ownBlock ≠ some g := by
  intro g e e2
  rcases own_ne (h.each x hx) h.pat (by omega) with h1 | h1
  · rw [h1] at e2; cases e2
  · exact h1 (by rw [e2, e])
/-- a number of a patch is stored -/
theorem Rw.num {g n c j : Nat} {u : Value} (h : Rw B w (.slice (some ⟨g, 0, none⟩) n c) L) (hx : L[i]? = some x) (hj : j < 5) (he : pvP x' = (pvP x).set j u) (h1 : x'.1 = x.1) (h2 : x'.2.ds = x.2.ds) :
    Rw B (w.setCell ⟨g, i * 5 + j, none⟩ u) (.slice (some ⟨g, 0, none⟩) n c) (L.set i x') := by
  have hne : ∀ y ∈ L, y.1.ownBlock ≠ some g := fun y hy => h.ne hy g rfl
  refine ⟨h.pat.setAt pvP_len hx hj he, fun y hy => ?_, h.apart.set fun a y hy ha => ?_⟩
  · rcases List.mem_or_eq_of_mem_set hy with hy | rfl
    · exact (h.each y hy).setCell_other (hne y hy) u
    · rw [h1, h2]
      have hm := List.mem_of_getElem? hx
      exact (h.each x hm).setCell_other (hne x hm) u
  · rw [h1]
    exact h.apart a i y x hy hx ha
/-- a patch gets another row -/
theorem Rw.swap {g n c : Nat} {ds' : List D} (h : Rw B w (.slice (some ⟨g, 0, none⟩) n c) L) (hx : L[i]? = some x) (hg : w.grownBy w1 x.1.ownBlock) (hown : OwnL dP 128 2 w1 B dv' ds') (hb : dv'.ownBlock = x.1.ownBlock ∨ ∀ q, dv'.ownBlock = some q → w.heap.size ≤ q) :
    Rw B (w1.setCell ⟨g, i * 5, none⟩ dv') (.slice (some ⟨g, 0, none⟩) n c) (L.set i (dv', ⟨ds', x.2.s1, x.2.s2, x.2.l1, x.2.l2⟩)) := by
  have hm := List.mem_of_getElem? hx
  have hxg : x.1.ownBlock ≠ some g := h.ne hm g rfl
  have p1 : OwnL pvP 114 5 w1 B (.slice (some ⟨g, 0, none⟩) n c) L := h.pat.kept hg (.inr fun e => hxg e.symm)
  have hdg : dv'.ownBlock ≠ some g := by
    rcases hb with hb | hb
    · rw [hb]; exact hxg
    · intro e
      have := hb g e
      have := (h.pat.lt g rfl).2
      omega
  have p2 := p1.setAt (i := i) (j := 0) (x' := (dv', (⟨ds', x.2.s1, x.2.s2, x.2.l1, x.2.l2⟩ : P))) (u := dv') pvP_len hx (by omega) rfl
  rw [Nat.add_zero] at p2
  have hap : Apart (L.set i (dv', (⟨ds', x.2.s1, x.2.s2, x.2.l1, x.2.l2⟩ : P))) := h.apart.set fun a y hy ha => by
    rcases hb with hb | hb
    · show _ ∨ _ ≠ dv'.ownBlock
      rw [hb]; exact h.apart a i y x hy hx ha
    · cases hyb : y.1.ownBlock with
      | none => exact .inl rfl
      | some q =>
        refine .inr fun e => ?_
        have h1 := hb q e.symm
        have h2 := ((h.each y (List.mem_of_getElem? hy)).lt q hyb).2
        omega
  refine ⟨p2, fun y hy => ?_, hap⟩
  obtain ⟨a, ha⟩ := List.getElem?_of_mem hy
  rw [List.getElem?_set] at ha
  split at ha
  · split at ha
    · injection ha with ha
      subst ha
      exact hown.setCell_other hdg _
    · cases ha
  · rename_i hia
    have hyL := List.mem_of_getElem? ha
    have k1 := (h.each y hyL).kept hg (h.apart a i y x ha hx (fun e => hia e.symm))
    exact k1.setCell_other (h.ne hyL g rfl) _
/-- a text in a patch's row is stored -/
theorem Rw.text {gd nd cd k : Nat} {d : D} {t : ByteArray} (h : Rw B w v L) (hx : L[i]? = some x) (hv : x.1 = .slice (some ⟨gd, 0, none⟩) nd cd) (hd : x.2.ds[k]? = some d) :
    Rw B (w.setCell ⟨gd, k * 2 + 1, none⟩ (.string t)) v (L.set i (x.1, ⟨x.2.ds.set k ⟨d.op, t⟩, x.2.s1, x.2.s2, x.2.l1, x.2.l2⟩)) := by
  have hm := List.mem_of_getElem? hx
  have hxb : x.1.ownBlock = some gd := by rw [hv]; rfl
  have hvg : v.ownBlock ≠ some gd := fun e => h.ne hm gd e hxb
  have p1 : OwnL pvP 114 5 (w.setCell ⟨gd, k * 2 + 1, none⟩ (.string t)) B v (L.set i (x.1, (⟨x.2.ds.set k ⟨d.op, t⟩, x.2.s1, x.2.s2, x.2.l1, x.2.l2⟩ : P))) := by
    have p0 := h.pat.setCell_other (a := ⟨gd, k * 2 + 1, none⟩) hvg (.string t)
    have hfl : (L.set i (x.1, (⟨x.2.ds.set k ⟨d.op, t⟩, x.2.s1, x.2.s2, x.2.l1, x.2.l2⟩ : P))).flatMap pvP = L.flatMap pvP := by
      rw [flat_set (f := pvP) (sz := 5) (j := 0) (u := x.1) (x' := (x.1, (⟨x.2.ds.set k ⟨d.op, t⟩, x.2.s1, x.2.s2, x.2.l1, x.2.l2⟩ : P))) pvP_len hx (by omega) rfl]
      apply List.ext_getElem?
      intro q
      rw [List.getElem?_set]
      split
      · rename_i e
        subst e
        split
        · rename_i hq
          have := flat_at pvP_len L i x hx 0 (by omega)
          rw [this]; rfl
        · rename_i hq
          rw [List.getElem?_eq_none (by omega)]
      · rfl
    unfold OwnL at p0 ⊢
    rw [hfl, List.length_set]
    exact p0
  refine ⟨p1, fun y hy => ?_, h.apart.set fun a y hy ha => h.apart a i y x hy hx ha⟩
  obtain ⟨a, ha⟩ := List.getElem?_of_mem hy
  rw [List.getElem?_set] at ha
  split at ha
  · split at ha
    · injection ha with ha
      subst ha
      have hw := h.each x hm
      rw [hv] at hw ⊢
      exact hw.setAt (i := k) (j := 1) (x := d) (x' := ⟨d.op, t⟩) dP_len hd (by omega) rfl
    · cases ha
  · rename_i hia
    have hyL := List.mem_of_getElem? ha
    refine (h.each y hyL).setCell_other ?_ _
    intro e
    rcases h.apart a i y x ha hx (fun e => hia e.symm) with k1 | k1
    · rw [k1] at e; cases e
    · exact k1 (by rw [hxb]; exact e)
end

section
variable {w wr w1 : World} {G : Nat} {vs v6 v6' dv dv' : Value} {ll : List ByteArray} {cur : P} {L : List (Value × P)} {m : Nat}
/-- a patch under way beside a row -/
theorem Rw.begin (h : Rw w.heap.size wr v6 L) (hb : Below w.heap.size w wr) (o : Obj) (hm : m = ((wr.alloc o).alloc (.cells #[.slice none 0 0, .int .i64 0, .int .i64 0, .int .i64 0, .int .i64 0] 114)).heap.size) (hG : G = wr.heap.size + 1) :
    FW w G (.slice none 0 0) [] ((wr.alloc o).alloc (.cells #[.slice none 0 0, .int .i64 0, .int .i64 0, .int .i64 0, .int .i64 0] 114)) v6 (.slice none 0 0) noP L m := by
  have hsz := hb.size
  have h2 := (h.alloc o).alloc (.cells #[.slice none 0 0, .int .i64 0, .int .i64 0, .int .i64 0, .int .i64 0] 114)
  refine ⟨by omega, heap_alloc_at _ _ _ (by simp; omega), OwnL.nil _ _, h2.pat, ?_, fun x hx => ⟨h2.each x hx, fun g e => ?_⟩, fun g e => by simp [Value.ownBlock] at e, by omega, OwnL.nil _ _, (hb.alloc hsz _).alloc (by simp; omega) _⟩
  · intro e
    have := h.pat.lt _ e
    omega
  · have := ((h.each x hx).lt g e).2
    rw [hm]; simp; omega
/-- the patch goes into the row -/
theorem FW.closeRw (h : FW w G vs ll wr v6 dv cur L m) (ha : Apart L) (hg : wr.grownBy w1 v6.ownBlock) (hown : OwnL pvP 114 5 w1 w.heap.size v6' (L ++ [(dv, cur)])) (hb : v6'.ownBlock = v6.ownBlock ∨ ∀ g, v6'.ownBlock = some g → wr.heap.size ≤ g) :
    Rw w.heap.size w1 v6' (L ++ [(dv, cur)]) := by
  have ho := h.close hg hown hb
  refine ⟨ho.pat, ho.each, ha.snoc fun x hx => ?_⟩
  cases hxb : x.1.ownBlock with
  | none => exact .inl rfl
  | some g =>
    refine .inr fun e => ?_
    have h1 := (h.each x hx).2 g hxb
    have h2 := h.cm g e.symm
    omega
end
end Go.Proofs.YtjebgfpcmooniaaGreatDoor

namespace Go.Proofs.YtjebgfpcmooniaaGreatDoor
open Go Go.RowKit

def bumpV (m : Nat) (x : Value × P) : Value × P := (x.1, ⟨x.2.ds, x.2.s1 + m, x.2.s2 + m, x.2.l1, x.2.l2⟩)

theorem drop_cons' {α : Type} {l : List α} {i : Nat} {d : α} (h : l[i]? = some d) : l.drop i = d :: l.drop (i + 1) := by
  obtain ⟨hi, rfl⟩ := List.getElem?_eq_some_iff.1 h
  exact List.drop_eq_getElem_cons hi
theorem addr_add (g k : Nat) : ((⟨g, 0, none⟩ : Addr).add k) = ⟨g, k, none⟩ := by unfold Addr.add; split <;> simp_all

section
variable {B : Nat} {w w1 : World} {dv' : Value} {L : List (Value × P)} {i n c : Nat} {x x' : Value × P} {ad : Addr}
theorem Rw.adr (h : Rw B w (.slice (some ad) n c) L) : ∃ g, ad = ⟨g, 0, none⟩ ∧ B ≤ g ∧ g < w.heap.size := h.pat.shape2
structure CellsA (w : World) (ad : Addr) (i : Nat) (x : Value × P) : Prop where
  c0 : w.cell? (ad.add (i * 5)) = some x.1
  c1 : w.cell? ⟨(ad.add (i * 5)).block, (ad.add (i * 5)).off + 1, none⟩ = some (.int .i64 x.2.s1)
  c2 : w.cell? ⟨(ad.add (i * 5)).block, (ad.add (i * 5)).off + 2, none⟩ = some (.int .i64 x.2.s2)
  c3 : w.cell? ⟨(ad.add (i * 5)).block, (ad.add (i * 5)).off + 3, none⟩ = some (.int .i64 x.2.l1)
  c4 : w.cell? ⟨(ad.add (i * 5)).block, (ad.add (i * 5)).off + 4, none⟩ = some (.int .i64 x.2.l2)
  f0 : w.frozen? (ad.add (i * 5)) = false
  f1 : w.frozen? ⟨(ad.add (i * 5)).block, (ad.add (i * 5)).off + 1, none⟩ = false
  f2 : w.frozen? ⟨(ad.add (i * 5)).block, (ad.add (i * 5)).off + 2, none⟩ = false
  f3 : w.frozen? ⟨(ad.add (i * 5)).block, (ad.add (i * 5)).off + 3, none⟩ = false
  f4 : w.frozen? ⟨(ad.add (i * 5)).block, (ad.add (i * 5)).off + 4, none⟩ = false
theorem Rw.cellsA (h : Rw B w (.slice (some ad) n c) L) (hx : L[i]? = some x) : CellsA w ad i x := by
  obtain ⟨g, rfl, _, _⟩ := h.adr
  refine ⟨?_, ?_, ?_, ?_, ?_, ?_, ?_, ?_, ?_, ?_⟩
  all_goals rw [addr_add]
  · exact h.cell hx (j := 0) rfl
  · exact h.cell hx (j := 1) rfl
  · exact h.cell hx (j := 2) rfl
  · exact h.cell hx (j := 3) rfl
  · exact h.cell hx (j := 4) rfl
  all_goals exact h.fro _
/-- a number of a patch is stored -/
theorem Rw.numA (h : Rw B w (.slice (some ad) n c) L) (hx : L[i]? = some x) :
    (∀ y : Int, Rw B (w.setCell ⟨(ad.add (i * 5)).block, (ad.add (i * 5)).off + 1, none⟩ (.int .i64 y)) (.slice (some ad) n c) (L.set i (x.1, ⟨x.2.ds, y, x.2.s2, x.2.l1, x.2.l2⟩))) ∧
    (∀ y : Int, Rw B (w.setCell ⟨(ad.add (i * 5)).block, (ad.add (i * 5)).off + 2, none⟩ (.int .i64 y)) (.slice (some ad) n c) (L.set i (x.1, ⟨x.2.ds, x.2.s1, y, x.2.l1, x.2.l2⟩))) ∧
    (∀ y : Int, Rw B (w.setCell ⟨(ad.add (i * 5)).block, (ad.add (i * 5)).off + 3, none⟩ (.int .i64 y)) (.slice (some ad) n c) (L.set i (x.1, ⟨x.2.ds, x.2.s1, x.2.s2, y, x.2.l2⟩))) ∧
    (∀ y : Int, Rw B (w.setCell ⟨(ad.add (i * 5)).block, (ad.add (i * 5)).off + 4, none⟩ (.int .i64 y)) (.slice (some ad) n c) (L.set i (x.1, ⟨x.2.ds, x.2.s1, x.2.s2, x.2.l1, y⟩))) := by
  obtain ⟨g, rfl, _, _⟩ := h.adr
  rw [addr_add]
  exact ⟨fun y => h.num hx (j := 1) (by omega) rfl rfl rfl, fun y => h.num hx (j := 2) (by omega) rfl rfl rfl, fun y => h.num hx (j := 3) (by omega) rfl rfl rfl, fun y => h.num hx (j := 4) (by omega) rfl rfl rfl⟩
theorem Rw.swapA {ds' : List D} (h : Rw B w (.slice (some ad) n c) L) (hx : L[i]? = some x) (hg : w.grownBy w1 x.1.ownBlock) (hown : OwnL dP 128 2 w1 B dv' ds') (hb : dv'.ownBlock = x.1.ownBlock ∨ ∀ q, dv'.ownBlock = some q → w.heap.size ≤ q) :
    Rw B (w1.setCell (ad.add (i * 5)) dv') (.slice (some ad) n c) (L.set i (dv', ⟨ds', x.2.s1, x.2.s2, x.2.l1, x.2.l2⟩)) := by
  obtain ⟨g, rfl, _, _⟩ := h.adr
  rw [addr_add]
  exact h.swap hx hg hown hb
end
theorem Rw.cells0 {B : Nat} {w : World} {ad : Addr} {n c : Nat} {x : Value × P} {L : List (Value × P)} (h : Rw B w (.slice (some ad) n c) (x :: L)) :
    w.cell? ad = some x.1 ∧ w.cell? ⟨ad.block, ad.off + 1, none⟩ = some (.int .i64 x.2.s1) ∧ w.cell? ⟨ad.block, ad.off + 2, none⟩ = some (.int .i64 x.2.s2) ∧ w.cell? ⟨ad.block, ad.off + 3, none⟩ = some (.int .i64 x.2.l1) ∧ w.cell? ⟨ad.block, ad.off + 4, none⟩ = some (.int .i64 x.2.l2) ∧
    w.frozen? ad = false ∧ w.frozen? ⟨ad.block, ad.off + 1, none⟩ = false ∧ w.frozen? ⟨ad.block, ad.off + 2, none⟩ = false ∧ w.frozen? ⟨ad.block, ad.off + 3, none⟩ = false ∧ w.frozen? ⟨ad.block, ad.off + 4, none⟩ = false := by
  obtain ⟨c0, c1, c2, c3, c4, f0, f1, f2, f3, f4⟩ := h.cellsA (i := 0) rfl
  simp only [Nat.zero_mul, add_zero'] at c0 c1 c2 c3 c4 f0 f1 f2 f3 f4
  exact ⟨c0, c1, c2, c3, c4, f0, f1, f2, f3, f4⟩
theorem Rw.four {B : Nat} {w : World} {ad : Addr} {n c : Nat} {x : Value × P} {L : List (Value × P)} (h : Rw B w (.slice (some ad) n c) (x :: L)) (a b c' d : Int) :
    Rw B ((((w.setCell ⟨ad.block, ad.off + 1, none⟩ (.int .i64 a)).setCell ⟨ad.block, ad.off + 2, none⟩ (.int .i64 b)).setCell ⟨ad.block, ad.off + 3, none⟩ (.int .i64 c')).setCell ⟨ad.block, ad.off + 4, none⟩ (.int .i64 d)) (.slice (some ad) n c) ((x.1, ⟨x.2.ds, a, b, c', d⟩) :: L) := by
  have h1 := (h.numA (i := 0) rfl).1 a
  simp only [Nat.zero_mul, add_zero', List.set_cons_zero] at h1
  have h2 := (h1.numA (i := 0) rfl).2.1 b
  simp only [Nat.zero_mul, add_zero', List.set_cons_zero] at h2
  have h3 := (h2.numA (i := 0) rfl).2.2.1 c'
  simp only [Nat.zero_mul, add_zero', List.set_cons_zero] at h3
  have h4 := (h3.numA (i := 0) rfl).2.2.2 d
  simp only [Nat.zero_mul, add_zero', List.set_cons_zero] at h4
  exact h4
theorem below_four {B : Nat} {w wr : World} {ad : Addr} (h : Below B w wr) (hg : B ≤ ad.block) (a b c d : Value) : Below B w ((((wr.setCell ⟨ad.block, ad.off + 1, none⟩ a).setCell ⟨ad.block, ad.off + 2, none⟩ b).setCell ⟨ad.block, ad.off + 3, none⟩ c).setCell ⟨ad.block, ad.off + 4, none⟩ d) :=
  (((h.setCell (p := ⟨ad.block, ad.off + 1, none⟩) hg a).setCell (p := ⟨ad.block, ad.off + 2, none⟩) hg b).setCell (p := ⟨ad.block, ad.off + 3, none⟩) hg c).setCell (p := ⟨ad.block, ad.off + 4, none⟩) hg d
theorem set_last {α : Type} {l : List α} {m : Nat} (h : l.length = m) (x y : α) : (l ++ [x]).set m y = l ++ [y] := by
  subst h
  rw [List.set_append_right _ _ (Nat.le_refl _), Nat.sub_self, List.set_cons_zero]
theorem get_last {α : Type} {l : List α} {m : Nat} (h : l.length = m) (x : α) : (l ++ [x])[m]? = some x := by
  subst h
  rw [List.getElem?_append_right (Nat.le_refl _), Nat.sub_self]; rfl
theorem Rw.two {B : Nat} {w : World} {ad : Addr} {n c m : Nat} {x : Value × P} {L : List (Value × P)} (h : Rw B w (.slice (some ad) n c) (L ++ [x])) (hm : L.length = m) (a b : Int) :
    Rw B ((w.setCell ⟨(ad.add (m * 5)).block, (ad.add (m * 5)).off + 3, none⟩ (.int .i64 a)).setCell ⟨(ad.add (m * 5)).block, (ad.add (m * 5)).off + 4, none⟩ (.int .i64 b)) (.slice (some ad) n c) (L ++ [(x.1, ⟨x.2.ds, x.2.s1, x.2.s2, a, b⟩)]) := by
  have h1 := (h.numA (i := m) (get_last hm x)).2.2.1 a
  rw [set_last hm] at h1
  have h2 := (h1.numA (i := m) (get_last hm _)).2.2.2 b
  rw [set_last hm] at h2
  exact h2
theorem Rw.lastF {B : Nat} {w : World} {ad : Addr} {n c m g2 q2 e9 : Nat} {xq : Value × P} {L : List (Value × P)} {rq : List D} {dq : D} (h : Rw B w (.slice (some ad) n c) L) (hx : L[m]? = some xq) (hy : xq.1 = .slice (some ⟨g2, 0, none⟩) e9 q2) (hd : xq.2.ds = rq ++ [dq]) :
    w.cell? (ad.add (m * 5)) = some (.slice (some ⟨g2, 0, none⟩) e9 q2) ∧ w.cell? ⟨g2, rq.length * 2, none⟩ = some (.int .i8 dq.op) ∧ w.cell? ⟨g2, rq.length * 2 + 1, none⟩ = some (.string dq.t) ∧ w.frozen? ⟨g2, rq.length * 2 + 1, none⟩ = false := by
  have ho := h.each xq (List.mem_of_getElem? hx)
  have c0 := (h.cellsA hx).c0
  rw [hy] at ho c0
  rw [hd] at ho
  have k0 := ho.at_cells (rq.length * 2) (.int .i8 dq.op) (by have := flat_at dP_len (rq ++ [dq]) rq.length dq (by simp) 0 (by omega); rw [Nat.add_zero] at this; rw [this]; rfl)
  have k1 := ho.at_cells (rq.length * 2 + 1) (.string dq.t) (by have := flat_at dP_len (rq ++ [dq]) rq.length dq (by simp) 1 (by omega); rw [this]; rfl)
  rw [addr_add] at k0 k1
  exact ⟨c0, k0, k1, own_fro ho _⟩
theorem bump_at {m k : Nat} {L : List (Value × P)} {x : Value × P} (h : L[k]? = some x) : ((L.take k).map (bumpV m) ++ L.drop k)[k]? = some x := by
  have hk := (List.getElem?_eq_some_iff.1 h).1
  rw [List.getElem?_append_right (by rw [List.length_map, List.length_take]; omega), List.length_map, List.length_take, List.getElem?_drop]
  rw [show k + (k - min k L.length) = k by omega]; exact h
theorem bump_set {m k : Nat} {L : List (Value × P)} {x : Value × P} (h : L[k]? = some x) : ((L.take k).map (bumpV m) ++ L.drop k).set k (bumpV m x) = (L.take (k + 1)).map (bumpV m) ++ L.drop (k + 1) := by
  have hk := (List.getElem?_eq_some_iff.1 h).1
  rw [List.set_append_right _ _ (by rw [List.length_map, List.length_take]; omega), List.length_map, List.length_take, show k - min k L.length = 0 by omega, drop_cons' h, List.set_cons_zero, take_succ_some h, List.map_append]
  simp
theorem below_setA {B j o : Nat} {w wr : World} {ad : Addr} (h : Below B w wr) (hg : B ≤ ad.block) (u : Value) : Below B w (wr.setCell ⟨(ad.add j).block, o, none⟩ u) :=
  h.setCell (by rw [block_of_add]; exact hg) u
end Go.Proofs.YtjebgfpcmooniaaGreatDoor

namespace Go.Proofs.YtjebgfpcmooniaaGreatDoor
open Go Go.RowKit

/-- a piece of a block of parts -/
structure View (w : World) (gb : Nat) (v : Value) (R : List D) : Prop where
  sh : ∃ A c, v = .slice A R.length c ∧ R.length ≤ c ∧ (R ≠ [] → ∃ o cs, A = some ⟨gb, o, none⟩ ∧ w.heap[gb]? = some (.cells cs 128 (0, 0)) ∧ ∀ i d, R[i]? = some d → cs[o + i * 2]? = some (.int .i8 d.op) ∧ cs[o + i * 2 + 1]? = some (.string d.t))
  lt : gb < w.heap.size

section
variable {w w' : World} {gb B : Nat} {v : Value} {R r : List D} {d : D}
theorem View.of_own (h : OwnL dP 128 2 w B v R) (hv : v.ownBlock = some gb) : View w gb v R := by
  rcases h.2 with ⟨rfl, _⟩ | ⟨g, cap, cur, rfl, hb, hg, hnc, hcm, hcs, htk⟩
  · simp [Value.ownBlock] at hv
  · have e : g = gb := by simpa [Value.ownBlock] using hv
    subst e
    refine ⟨⟨_, _, rfl, hnc, fun _ => ⟨0, cur, rfl, hg, fun i d hd => ?_⟩⟩, (Array.getElem?_eq_some_iff.1 hg).1⟩
    have hi := (List.getElem?_eq_some_iff.1 hd).1
    have h0 := flat_at dP_len R i d hd 0 (by omega)
    have h1 := flat_at dP_len R i d hd 1 (by omega)
    rw [← htk, List.getElem?_take_of_lt (by omega)] at h0 h1
    rw [Nat.zero_add]
    exact ⟨by rw [← Array.getElem?_toList]; exact h0, by rw [← Array.getElem?_toList]; exact h1⟩
theorem View.same (h : View w gb v R) (hs : w'.heap[gb]? = w.heap[gb]?) (hl : w.heap.size ≤ w'.heap.size) : View w' gb v R := by
  obtain ⟨A, c, e, hc, hr⟩ := h.sh
  refine ⟨⟨A, c, e, hc, fun hn => ?_⟩, Nat.lt_of_lt_of_le h.lt hl⟩
  obtain ⟨o, cs, e1, e2, e3⟩ := hr hn
  exact ⟨o, cs, e1, hs.trans e2, e3⟩
theorem View.rd (h : View w gb v R) : ∃ A c, v = .slice A R.length c ∧ RdL dP 2 w w.heap.size A R.length R := by
  obtain ⟨A, c, e, hc, hr⟩ := h.sh
  refine ⟨A, c, e, rfl, fun hn => ?_⟩
  obtain ⟨o, cs, e1, e2, e3⟩ := hr (by intro e; rw [e] at hn; simp at hn)
  refine ⟨_, e1, h.lt, fun i d hd j u hu => ?_⟩
  have hc : ∀ k, w.cell? ⟨gb, k, none⟩ = cs[k]? := fun k => blk_cell e2 k
  have ha : (((⟨gb, o, none⟩ : Addr).add (i * 2)).add j) = ⟨gb, o + i * 2 + j, none⟩ := by
    rw [add_of_add]; unfold Addr.add; split <;> simp_all <;> omega
  rw [ha, hc]
  obtain ⟨k0, k1⟩ := e3 i d hd
  rcases j with _ | _ | j
  · simp [dP] at hu; subst hu; exact k0
  · simp [dP] at hu; subst hu; exact k1
  · simp [dP] at hu
theorem View.head (h : View w gb v (d :: r)) : ∃ o c, v = .slice (some ⟨gb, o, none⟩) (r.length + 1) c ∧ r.length + 1 ≤ c ∧ w.cell? ⟨gb, o, none⟩ = some (.int .i8 d.op) ∧ w.cell? ⟨gb, o + 1, none⟩ = some (.string d.t) ∧ ∀ k, w.frozen? ⟨gb, k, none⟩ = false := by
  obtain ⟨A, c, e, hc, hr⟩ := h.sh
  obtain ⟨o, cs, e1, e2, e3⟩ := hr (by simp)
  obtain ⟨k0, k1⟩ := e3 0 d rfl
  subst e1
  refine ⟨o, c, e, hc, ?_, ?_, fun k => blk_frozen e2 k⟩
  · rw [blk_cell e2]; simpa using k0
  · rw [blk_cell e2]; simpa using k1
theorem View.tail {o c : Nat} (h : View w gb (.slice (some ⟨gb, o, none⟩) (r.length + 1) c) (d :: r)) (hc : r.length + 1 ≤ c) : View w gb (.slice (if c = 1 then some ⟨gb, o, none⟩ else some ((⟨gb, o, none⟩ : Addr).add 2)) r.length (c - 1)) r := by
  obtain ⟨A, c', e, _, hr⟩ := h.sh
  obtain ⟨o', cs, e1, e2, e3⟩ := hr (by simp)
  injection e with ea eb ec
  rw [e1] at ea
  injection ea with ea
  injection ea with _ eo
  subst eo
  refine ⟨⟨_, _, rfl, by omega, fun hn => ⟨o + 2, cs, ?_, e2, fun i x hx => ?_⟩⟩, h.lt⟩
  · have : 0 < r.length := List.length_pos_iff.2 hn
    rw [if_neg (by omega)]
    unfold Addr.add; simp
  · have := e3 (i + 1) x hx
    rw [show o + 2 + i * 2 = o + (i + 1) * 2 by omega]
    exact this
theorem View.put {o n c : Nat} (h : View w gb (.slice (some ⟨gb, o, none⟩) n c) (d :: r)) (t : ByteArray) : View (w.setCell ⟨gb, o + 1, none⟩ (.string t)) gb (.slice (some ⟨gb, o, none⟩) n c) (⟨d.op, t⟩ :: r) := by
  obtain ⟨A, c', e, hc, hr⟩ := h.sh
  obtain ⟨o', cs, e1, e2, e3⟩ := hr (by simp)
  injection e with ea eb ec
  rw [e1] at ea
  injection ea with ea
  injection ea with _ eo
  subst eo eb ec
  refine ⟨⟨_, _, rfl, hc, fun _ => ⟨o, _, rfl, blk_set e2 _ _, fun i x hx => ?_⟩⟩, by simpa [World.setCell] using h.lt⟩
  cases i with
  | zero =>
    obtain ⟨k0, k1⟩ := e3 0 d rfl
    injection hx with hx
    subst hx
    have hlt := (Array.getElem?_eq_some_iff.1 k1).1
    simp only [Nat.zero_mul, Nat.add_zero] at k0 k1 hlt ⊢
    exact ⟨by rw [Array.getElem?_setIfInBounds_ne (by omega)]; exact k0, by rw [Array.getElem?_setIfInBounds]; simp [hlt]⟩
  | succ i =>
    obtain ⟨k0, k1⟩ := e3 (i + 1) x hx
    exact ⟨by rw [Array.getElem?_setIfInBounds_ne (by omega)]; exact k0, by rw [Array.getElem?_setIfInBounds_ne (by omega)]; exact k1⟩
end

/-- the patch that is divided -/
structure Big (w : World) (G gb : Nat) (wr : World) (v dvb : Value) (R : List D) (L : List (Value × P)) : Prop where
  bk : ∃ a b c d, wr.heap[G]? = some (.cells #[dvb, a, b, c, d] 114 (0, 0))
  vne : v.ownBlock ≠ some G
  gB : w.heap.size ≤ G
  view : View wr gb dvb R
  gbB : w.heap.size ≤ gb
  each : ∀ x ∈ L, x.1.ownBlock ≠ some gb
  vgb : v.ownBlock ≠ some gb
  ne : G ≠ gb

section
variable {w wr w1 : World} {G gb G2 m : Nat} {v v' dvb dvb' dv dv' : Value} {R : List D} {L : List (Value × P)} {cur : P}
theorem Big.keep (h : Big w G gb wr v dvb R L) (h1 : w1.heap[G]? = wr.heap[G]?) (h2 : w1.heap[gb]? = wr.heap[gb]?) (h3 : wr.heap.size ≤ w1.heap.size) : Big w G gb w1 v dvb R L := by
  obtain ⟨a, b, c, d, hk⟩ := h.bk
  exact ⟨⟨a, b, c, d, h1.trans hk⟩, h.vne, h.gB, h.view.same h2 h3, h.gbB, h.each, h.vgb, h.ne⟩
theorem Big.on (h : Big w G gb wr v dvb R L) (hb : Below wr.heap.size wr w1) : Big w G gb w1 v dvb R L := by
  obtain ⟨a, b, c, d, hk⟩ := h.bk
  exact h.keep (hb.block _ (Array.getElem?_eq_some_iff.1 hk).1) (hb.block _ h.view.lt) hb.size
theorem Big.far (h : Big w G gb wr v dvb R L) {p : Addr} (h1 : G ≠ p.block) (h2 : gb ≠ p.block) (u : Value) : Big w G gb (wr.setCell p u) v dvb R L :=
  h.keep (Below.heap_setCell wr p u G h1) (Below.heap_setCell wr p u gb h2) (by simp [World.setCell])
theorem Big.grown {row : Option Nat} (h : Big w G gb wr v dvb R L) (hg : wr.grownBy w1 row) (h1 : some G ≠ row) (h2 : some gb ≠ row) : Big w G gb w1 v dvb R L := by
  obtain ⟨a, b, c, d, hk⟩ := h.bk
  exact h.keep (hg.block _ (Array.getElem?_eq_some_iff.1 hk).1 h1) (hg.block _ h.view.lt h2) hg.size

/-- while a smaller patch is under way -/
structure SC (w : World) (G gb : Nat) (wr : World) (v dvb : Value) (R : List D) (L : List (Value × P)) (G2 : Nat) (dv : Value) (cur : P) (m : Nat) : Prop where
  fw : FW w G2 (.slice none 0 0) [] wr v dv cur L m
  apart : Apart L
  big : Big w G gb wr v dvb R L
  gm : gb < m
  n1 : G ≠ G2
  n2 : gb ≠ G2
theorem SC.dvG (h : SC w G gb wr v dvb R L G2 dv cur m) : dv.ownBlock ≠ some G := by
  obtain ⟨a, b, c, d, hk⟩ := h.big.bk
  exact own_block_ty h.fw.own hk (by omega)
theorem SC.dvgb (h : SC w G gb wr v dvb R L G2 dv cur m) : dv.ownBlock ≠ some gb := fun e => by have := h.fw.cm _ e; have := h.gm; omega
theorem SC.on (h : SC w G gb wr v dvb R L G2 dv cur m) (hb : Below wr.heap.size wr w1) : SC w G gb w1 v dvb R L G2 dv cur m :=
  ⟨h.fw.on hb, h.apart, h.big.on hb, h.gm, h.n1, h.n2⟩
theorem SC.num (h : SC w G gb wr v dvb R L G2 dv cur m) (x : Int) :
    SC w G gb (wr.setCell ⟨G2, 1, none⟩ (.int .i64 x)) v dvb R L G2 dv ⟨cur.ds, x, cur.s2, cur.l1, cur.l2⟩ m ∧ SC w G gb (wr.setCell ⟨G2, 2, none⟩ (.int .i64 x)) v dvb R L G2 dv ⟨cur.ds, cur.s1, x, cur.l1, cur.l2⟩ m ∧
    SC w G gb (wr.setCell ⟨G2, 3, none⟩ (.int .i64 x)) v dvb R L G2 dv ⟨cur.ds, cur.s1, cur.s2, x, cur.l2⟩ m ∧ SC w G gb (wr.setCell ⟨G2, 4, none⟩ (.int .i64 x)) v dvb R L G2 dv ⟨cur.ds, cur.s1, cur.s2, cur.l1, x⟩ m :=
  ⟨⟨h.fw.n1 x, h.apart, h.big.far h.n1 h.n2 _, h.gm, h.n1, h.n2⟩, ⟨h.fw.n2 x, h.apart, h.big.far h.n1 h.n2 _, h.gm, h.n1, h.n2⟩, ⟨h.fw.n3 x, h.apart, h.big.far h.n1 h.n2 _, h.gm, h.n1, h.n2⟩, ⟨h.fw.n4 x, h.apart, h.big.far h.n1 h.n2 _, h.gm, h.n1, h.n2⟩⟩
/-- the smaller patch gets another part -/
theorem SC.turn (h : SC w G gb wr v dvb R L G2 dv cur m) (hg : wr.grownBy w1 dv.ownBlock) {ds' : List D} (hown : OwnL dP 128 2 w1 w.heap.size dv' ds') (hb : dv'.ownBlock = dv.ownBlock ∨ ∀ g, dv'.ownBlock = some g → wr.heap.size ≤ g) :
    SC w G gb (w1.setCell ⟨G2, 0, none⟩ dv') v dvb R L G2 dv' ⟨ds', cur.s1, cur.s2, cur.l1, cur.l2⟩ m :=
  ⟨h.fw.turn hg hown hb, h.apart, (h.big.grown hg (fun e => h.dvG e.symm) (fun e => h.dvgb e.symm)).far h.n1 h.n2 _, h.gm, h.n1, h.n2⟩
theorem FW.far {vs : Value} {ll : List ByteArray} (h : FW w G2 vs ll wr v dv cur L m) {p : Addr} (u : Value) (h0 : w.heap.size ≤ p.block) (h1 : G2 ≠ p.block) (h2 : dv.ownBlock ≠ some p.block) (h3 : v.ownBlock ≠ some p.block) (h4 : ∀ x ∈ L, x.1.ownBlock ≠ some p.block) (h5 : vs.ownBlock ≠ some p.block) : FW w G2 vs ll (wr.setCell p u) v dv cur L m :=
  ⟨h.gB, blk_far h.bk h1 u, h.own.setCell_other h2 u, h.pat.setCell_other h3 u, h.pne, fun x hx => ⟨(h.each x hx).1.setCell_other (h4 x hx) u, (h.each x hx).2⟩, h.cm, by simpa [World.setCell] using h.msz, h.lines.setCell_other h5 u, h.bel.setCell h0 u⟩
/-- the patch that is divided goes on -/
theorem SC.next (h : SC w G gb wr v dvb R L G2 dv cur m) {R' : List D} (hv : View wr gb dvb' R') : SC w G gb (wr.setCell ⟨G, 0, none⟩ dvb') v dvb' R' L G2 dv cur m := by
  obtain ⟨a, b, c, d, hk⟩ := h.big.bk
  refine ⟨h.fw.far dvb' h.big.gB (fun e => h.n1 e.symm) h.dvG h.big.vne (fun x hx => own_block_ty (h.fw.each x hx).1 hk (by omega)) (by simp [Value.ownBlock]), h.apart, ?_, h.gm, h.n1, h.n2⟩
  refine ⟨⟨a, b, c, d, by simpa using blk_set hk 0 dvb'⟩, h.big.vne, h.big.gB, hv.same (Below.heap_setCell wr ⟨G, 0, none⟩ dvb' gb (fun e => h.big.ne e.symm)) (by simp [World.setCell]), h.big.gbB, h.big.each, h.big.vgb, h.big.ne⟩
/-- a text in what is left -/
theorem SC.put {o n c : Nat} {d : D} {r : List D} (h : SC w G gb wr (v) (.slice (some ⟨gb, o, none⟩) n c) (d :: r) L G2 dv cur m) (t : ByteArray) : SC w G gb (wr.setCell ⟨gb, o + 1, none⟩ (.string t)) v (.slice (some ⟨gb, o, none⟩) n c) (⟨d.op, t⟩ :: r) L G2 dv cur m := by
  obtain ⟨a, b, c', d', hk⟩ := h.big.bk
  refine ⟨h.fw.far _ h.big.gbB (fun e => h.n2 e.symm) h.dvgb h.big.vgb h.big.each (by simp [Value.ownBlock]), h.apart, ?_, h.gm, h.n1, h.n2⟩
  exact ⟨⟨a, b, c', d', blk_far hk h.big.ne _⟩, h.big.vne, h.big.gB, h.big.view.put t, h.big.gbB, h.big.each, h.big.vgb, h.big.ne⟩
end
end Go.Proofs.YtjebgfpcmooniaaGreatDoor
