/- A patch is divided: what holds between the steps. No program in sight. PatchSplitMax: the code of its loops, and what each hands on. -/
import Derived.Test.YtjebgfpcmooniaaGreatDoorZSpMem
import Derived.Test.YtjebgfpcmooniaaGreatDoorZApStep
import Derived.Test.YtjebgfpcmooniaaGreatDoorZDmp
import Derived.Deep.DeepCutAuto
import Derived.Deep.CutBlock
import Derived.Deep.LoopGhost
import Derived.Deep.Light
namespace Go.Proofs.YtjebgfpcmooniaaGreatDoor
open Go Go.RowKit

/-- what is left to divide counts so much -/
def wtD (R : List D) : Nat := R.length + szL R
def wtP (ps : List P) : Nat := (ps.map fun p => wtD p.ds + 1).sum
theorem wtP_cons (p : P) (ps : List P) : wtP (p :: ps) = wtD p.ds + 1 + wtP ps := by simp [wtP]
theorem wtD_cons (d : D) (R : List D) : wtD (d :: R) = d.t.size + 1 + wtD R := by simp [wtD, szL_cons]; omega
theorem wtP_len (ps : List P) : ps.length ≤ wtP ps := by
  induction ps with
  | nil => simp [wtP]
  | cons p ps ih => rw [wtP_cons, List.length_cons]; omega
theorem wtP_le {ps : List P} {K : Nat} (h : ∀ p ∈ ps, wtD p.ds ≤ K) : wtP ps ≤ ps.length * (K + 1) := by
  induction ps with
  | nil => simp [wtP]
  | cons p ps ih =>
    have h1 := h p (by simp)
    have h2 := ih fun q hq => h q (by simp [hq])
    rw [wtP_cons, List.length_cons, Nat.add_mul, Nat.one_mul]; omega
theorem szL_max {l : List D} {K : Nat} (h : ∀ d ∈ l, d.t.size ≤ K) : szL l ≤ l.length * K := by
  induction l with
  | nil => simp [szL]
  | cons d l ih =>
    have h1 := h d (by simp)
    have h2 := ih fun q hq => h q (by simp [hq])
    rw [szL_cons, List.length_cons, Nat.add_mul, Nat.one_mul]; omega
theorem OwnL.len2 {α : Type} {f : α → List Value} {e sz : Nat} {w : World} {base : Nat} {l : List α} {A : Option Addr} {n c : Nat} (h : OwnL f e sz w base (.slice A n c) l) : n = l.length := by
  rcases h.2 with ⟨h0, h1⟩ | ⟨g, cap, cur, h0, _⟩
  · injection h0 with _ h2 _; omega
  · injection h0

/-- the first of a row -/
theorem OwnL.pre {α : Type} {f : α → List Value} {e sz : Nat} {w : World} {base n c : Nat} {A : Option Addr} {l : List α} (hf : ∀ x, (f x).length = sz) (h : OwnL f e sz w base (.slice A n c) l) {x : Nat} (hx : x ≤ l.length) (hA : A ≠ none) : OwnL f e sz w base (.slice A x c) (l.take x) := by
  have hl : (l.take x).length = x := by rw [List.length_take]; omega
  refine ⟨by rw [flat_length hf], ?_⟩
  rw [hl]
  rcases h.2 with ⟨h0, _⟩ | ⟨g, cap, cur, h0, hb, hg, hnc, hcm, hcs, htk⟩
  · injection h0 with h1 _ _; exact absurd h1 hA
  · injection h0 with h1 h2 h3
    subst h1 h3
    refine .inr ⟨g, c, cur, rfl, hb, hg, by omega, hcm, hcs, ?_⟩
    have q : ((l.take x).flatMap f).length = x * sz := by rw [flat_length hf, hl]
    have e0 : l.flatMap f = (l.take x).flatMap f ++ (l.drop x).flatMap f := by rw [← List.flatMap_append, List.take_append_drop]
    have e1 : (l.take x).flatMap f = (l.flatMap f).take (x * sz) := by
      rw [e0, List.take_append_of_le_length (Nat.le_of_eq q.symm), List.take_of_length_le (Nat.le_of_eq q)]
    rw [e1, ← htk, List.take_take]
    congr 1
    exact (Nat.min_eq_left (Nat.mul_le_mul_right _ hx)).symm

/-! rows of which no two are one -/
def AR (x y : Value × P) : Prop := x.1.ownBlock = none ∨ x.1.ownBlock ≠ y.1.ownBlock
theorem AR.symm {x y : Value × P} (h : AR x y) : AR y x := by
  rcases h with h | h
  · cases hy : y.1.ownBlock with
    | none => exact .inl hy
    | some g => right; rw [hy, h]; simp
  · exact .inr fun e => h e.symm
theorem apart_iff (L : List (Value × P)) : Apart L ↔ L.Pairwise AR := by
  rw [List.pairwise_iff_getElem]
  constructor
  · intro h i j hi hj hij
    exact h i j _ _ (List.getElem?_eq_getElem hi) (List.getElem?_eq_getElem hj) (by omega)
  · intro h i j x y hx hy hij
    obtain ⟨hi, rfl⟩ := List.getElem?_eq_some_iff.1 hx
    obtain ⟨hj, rfl⟩ := List.getElem?_eq_some_iff.1 hy
    rcases Nat.lt_or_gt_of_ne hij with k | k
    · exact h i j hi hj k
    · exact (h j i hj hi k).symm
theorem Apart.out {pre post : List (Value × P)} {z : Value × P} (h : Apart (pre ++ z :: post)) : Apart (pre ++ post) ∧ ∀ x ∈ pre ++ post, AR x z := by
  rw [apart_iff, List.pairwise_append, List.pairwise_cons] at h
  obtain ⟨h1, ⟨h2, h3⟩, h4⟩ := h
  refine ⟨?_, fun x hx => ?_⟩
  · rw [apart_iff, List.pairwise_append]
    exact ⟨h1, h3, fun a ha b hb => h4 a ha b (by simp [hb])⟩
  · rcases List.mem_append.1 hx with hx | hx
    · exact h4 x hx z (by simp)
    · exact (h2 x hx).symm
theorem Apart.ins {pre post : List (Value × P)} {z : Value × P} (h : Apart (pre ++ post)) (hz : ∀ x ∈ pre ++ post, AR x z) : Apart (pre ++ z :: post) := by
  rw [apart_iff, List.pairwise_append] at h ⊢
  obtain ⟨h1, h2, h3⟩ := h
  refine ⟨h1, List.pairwise_cons.2 ⟨fun b hb => (hz b (by simp [hb])).symm, h2⟩, fun a ha b hb => ?_⟩
  rcases List.mem_cons.1 hb with rfl | hb
  · exact hz a (by simp [ha])
  · exact h3 a ha b hb

/-! texts -/
theorem mem_srcL {l : List D} {d : D} (h : d ∈ l) (ho : d.op ≠ 1) : d.t.size ≤ (srcL l).length := by
  induction l with
  | nil => simp at h
  | cons x l ih =>
    rw [srcL_cons, List.length_append]
    rcases List.mem_cons.1 h with rfl | h
    · rw [if_neg ho, tb_length]; omega
    · have := ih h; omega
theorem mem_tgtL {l : List D} {d : D} (h : d ∈ l) (ho : d.op ≠ -1) : d.t.size ≤ (tgtL l).length := by
  induction l with
  | nil => simp at h
  | cons x l ih =>
    rw [tgtL_cons, List.length_append]
    rcases List.mem_cons.1 h with rfl | h
    · rw [if_neg ho, tb_length]; omega
    · have := ih h; omega
theorem Ex.texts {M : Nat} {t t' : List UInt8} {ps : List P} (h : Ex M t ps t') : ∀ p ∈ ps, ∀ d ∈ p.ds, d.t.size ≤ M := by
  induction h with
  | nil => simp
  | @cons p ps a b t h hm r ih =>
    intro q hq d hd
    rcases List.mem_cons.1 hq with rfl | hq
    · have h2 := r.small
      simp only [List.length_append] at hm h2
      by_cases ho : d.op = 1
      · have := mem_tgtL hd (by omega); omega
      · have := mem_srcL hd ho; omega
    · exact ih q hq d hd

/-- a patch small enough for what follows -/
def SmallP (W M : Nat) (p : P) : Prop := p.ds.length ≤ W + 2 ∧ ∀ d ∈ p.ds, d.t.size ≤ M

/-- between two patches: so many are done -/
structure OutR (w0 wr : World) (W Wd M : Nat) (v : Value) (pre post : List (Value × P)) (T T' : List UInt8) : Prop where
  row : Rw w0.heap.size wr v (pre ++ post)
  bel : Below w0.heap.size w0 wr
  ex : ∃ Z, Ex M T (pre.map (·.2)) Z ∧ ExS M Z (post.map (·.2)) T'
  wt : pre.length + wtP (post.map (·.2)) ≤ W
  sm : ∀ x ∈ pre ++ post, SmallP Wd M x.2
  smd : ∀ x ∈ post, wtD x.2.ds ≤ Wd
/-- a patch is divided -/
structure MidR (w0 wr : World) (mar W Wd M : Nat) (v dvb : Value) (G gb : Nat) (pre post : List (Value × P)) (X prec : List UInt8) (R : List D) (B T T' : List UInt8) : Prop where
  row : Rw w0.heap.size wr v (pre ++ post)
  bel : Below w0.heap.size w0 wr
  big : Big w0 G gb wr v dvb R (pre ++ post)
  inv : SpInv M T T' (pre.map (·.2)) X prec R B (post.map (·.2))
  wt : pre.length + wtD R + wtP (post.map (·.2)) ≤ W
  wd : wtD R ≤ Wd
  sm : ∀ x ∈ pre ++ post, SmallP Wd M x.2
  smd : ∀ x ∈ post, wtD x.2.ds ≤ Wd
  pl : prec.length ≤ mar
/-- a smaller patch is under way -/
structure InR (w0 wr : World) (mar : Nat) (v dvb dv : Value) (G gb G2 m : Nat) (L : List (Value × P)) (X prec : List UInt8) (R R' : List D) (cur : P) (e : Bool) : Prop where
  sc : SC w0 G gb wr v dvb R' L G2 dv cur m
  cu : SpCur prec R cur.ds R'
  l1 : cur.l1 = (srcL cur.ds).length
  s2 : cur.s2 = X.length
  em : e = true → ∀ d ∈ cur.ds, d.op = 0
  wt : cur.ds.length + wtD R' ≤ 1 + wtD R
  go : wtD R' < wtD R ∨ (R' = R ∧ cur.l1 ≤ mar)

section
variable {w0 wr w1 : World} {mar W Wd M : Nat} {v v' dvb dvb' dv dv' : Value} {G gb G2 m : Nat} {pre post L : List (Value × P)} {p0 : Value × P} {X prec B T T' : List UInt8} {R R' r : List D} {d : D} {cur cur' : P} {e e' : Bool} {Ps Qs : List P}
theorem ExS.step {Z : List UInt8} {p : P} {ps : List P} (h : ExS M Z (p :: ps) T') : ∃ Z', Ex M Z [p] Z' ∧ ExS M Z' ps T' ∧ (p.l1 = (srcL p.ds).length) := by
  cases h with
  | cons ha hm r => exact ⟨_, .cons ha (by omega) (.nil r.small), r, ha.l1⟩
theorem OutR.skip (h : OutR w0 wr W Wd M v pre (p0 :: post) T T') : OutR w0 wr W Wd M v (pre ++ [p0]) post T T' := by
  obtain ⟨Z, h1, h2⟩ := h.ex
  rw [List.map_cons] at h2
  obtain ⟨Z', k1, k2, _⟩ := h2.step
  have hw := h.wt
  rw [List.map_cons, wtP_cons] at hw
  refine ⟨by rw [List.append_assoc]; exact h.row, h.bel, ⟨Z', ?_, k2⟩, ?_, by rw [List.append_assoc]; exact h.sm, fun x hx => h.smd x (by simp [hx])⟩
  · rw [List.map_append]; exact h1.app k1
  · rw [List.length_append, List.length_singleton]; omega
theorem OutR.l1 (h : OutR w0 wr W Wd M v pre (p0 :: post) T T') : 0 ≤ p0.2.l1 ∧ p0.2.l1 ≤ 1000000 + M := by
  obtain ⟨Z, h1, h2⟩ := h.ex
  rw [List.map_cons] at h2
  cases h2 with
  | cons ha hm r =>
    rw [ha.l1]
    simp only [List.length_append] at hm
    omega
theorem OutR.done (h : OutR w0 wr W Wd M v pre [] T T') : Rw w0.heap.size wr v pre ∧ Ex M T (pre.map (·.2)) T' ∧ pre.length ≤ W ∧ (∀ x ∈ pre, SmallP Wd M x.2) ∧ Below w0.heap.size w0 wr := by
  obtain ⟨Z, h1, h2⟩ := h.ex
  have hz : Z = T' := by
    cases h2; rfl
  subst hz
  have hw := h.wt
  exact ⟨by simpa using h.row, h1, by omega, fun x hx => h.sm x (by simp [hx]), h.bel⟩
/-- all of it is divided -/
theorem MidR.out (h : MidR w0 wr mar W Wd M v dvb G gb pre post X prec [] B T T') : OutR w0 wr W Wd M v pre post T T' :=
  ⟨h.row, h.bel, sp_end h.inv, by have := h.wt; simp [wtD] at this; omega, h.sm, h.smd⟩
theorem MidR.on (h : MidR w0 wr mar W Wd M v dvb G gb pre post X prec R B T T') (hb : Below wr.heap.size wr w1) : MidR w0 w1 mar W Wd M v dvb G gb pre post X prec R B T T' :=
  ⟨h.row.on hb, h.bel.trans (hb.mono h.bel.size), h.big.on hb, h.inv, h.wt, h.wd, h.sm, h.smd, h.pl⟩
/-- a patch that is too long is taken out of the row; what was taken out has a cell of its own -/
theorem OutR.big (h : OutR w0 wr W Wd M v pre (p0 :: post) T T') (hne : p0.2.ds ≠ []) (hG : wr.heap[G]? = some (.cells (pC p0.1 p0.2) 114 (0, 0))) (hGB : w0.heap.size ≤ G) (hGv : v.ownBlock ≠ some G) (hg : wr.grownBy w1 v.ownBlock) (hown : OwnL pvP 114 5 w1 w0.heap.size v' (pre ++ post)) (hb : v'.ownBlock = v.ownBlock ∨ v'.ownBlock = some wr.heap.size) :
    ∃ gb X B, At p0.2 X ∧ MidR w0 w1 mar W Wd M v' p0.1 G gb pre post X [] p0.2.ds B T T' := by
  obtain ⟨Z, h1, h2⟩ := h.ex
  rw [List.map_cons] at h2
  obtain ⟨a, b, hat, hsp⟩ := sp_begin h1 h2
  have hm0 : p0 ∈ pre ++ p0 :: post := by simp
  have ho := h.row.each p0 hm0
  obtain ⟨gb, c, hv0, hgl, hgB⟩ := ho.shape (List.length_pos_iff.2 hne)
  have hvb : p0.1.ownBlock = some gb := by rw [hv0]; rfl
  have hGl : G < wr.heap.size := (Array.getElem?_eq_some_iff.1 hG).1
  obtain ⟨ap1, ap2⟩ := h.row.apart.out
  have hsub : ∀ x, x ∈ pre ++ post → x ∈ pre ++ p0 :: post := fun x hx => by
    rcases List.mem_append.1 hx with hx | hx <;> simp [hx]
  have hvgb : v.ownBlock ≠ some gb := fun e => h.row.ne hm0 gb e hvb
  have hb' : ∀ q, q < wr.heap.size → v.ownBlock ≠ some q → v'.ownBlock ≠ some q := fun q hq hn e => by
    rcases hb with hb | hb
    · exact hn (hb ▸ e)
    · rw [hb] at e; injection e with e; omega
  have hGgb : G ≠ gb := fun e => by
    subst e
    exact own_block_ty ho hG (by omega) hvb
  have ev : ∀ x ∈ pre ++ post, OwnL dP 128 2 w1 w0.heap.size x.1 x.2.ds := fun x hx => (h.row.each x (hsub x hx)).kept hg (own_ne (h.row.each x (hsub x hx)) h.row.pat (by omega))
  have hw := h.wt
  rw [List.map_cons, wtP_cons] at hw
  refine ⟨gb, a, b, hat, ⟨⟨hown, ev, ap1⟩, h.bel.trans (below_of_gb hg h.bel.size fun g e => (h.row.pat.lt g e).1), ?_, hsp, by omega, h.smd p0 (by simp), fun x hx => h.sm x (hsub x hx), fun x hx => h.smd x (by simp [hx]), by simp⟩⟩
  refine ⟨⟨.int .i64 p0.2.s1, .int .i64 p0.2.s2, .int .i64 p0.2.l1, .int .i64 p0.2.l2, gb_heap hg hGl (fun e => hGv e.symm) hG⟩, hb' G hGl hGv, hGB, ?_, hgB, fun x hx e => ?_, hb' gb hgl hvgb, hGgb⟩
  · exact (View.of_own ho hvb).same (hg.block gb hgl fun e => hvgb e.symm) hg.size
  · rcases ap2 x hx with k | k
    · rw [k] at e; cases e
    · exact k (by rw [e, hvb])

/-- a smaller patch begins -/
theorem MidR.begin (h : MidR w0 wr mar W Wd M v dvb G gb pre post X prec R B T T') (w2 : World) (hw2 : w2 = wr.alloc (.cells #[.slice none 0 0, .int .i64 0, .int .i64 0, .int .i64 0, .int .i64 0] 114)) :
    SC w0 G gb w2 v dvb R (pre ++ post) wr.heap.size (.slice none 0 0) noP w2.heap.size := by
  subst hw2
  have hb := (Below.refl wr.heap.size wr).alloc (Nat.le_refl _) (.cells #[.slice none 0 0, .int .i64 0, .int .i64 0, .int .i64 0, .int .i64 0] 114)
  have h2 := h.row.on hb
  obtain ⟨a, b, c, d, hk⟩ := h.big.bk
  have hGl : G < wr.heap.size := (Array.getElem?_eq_some_iff.1 hk).1
  have hgl := h.big.view.lt
  refine ⟨⟨h.bel.size, heap_alloc_new _ _, OwnL.nil _ _, h2.pat, ?_, fun x hx => ⟨h2.each x hx, fun g e => ((h2.each x hx).lt g e).2⟩, fun g e => by simp [Value.ownBlock] at e, Nat.le_refl _, OwnL.nil _ _, h.bel.trans (hb.mono h.bel.size)⟩, h.row.apart, h.big.on hb, ?_, by omega, by omega⟩
  · intro e
    have := h.row.pat.lt _ e
    omega
  · have := hb.size; omega
/-- the smaller patch goes into the row -/
theorem SC.ins {v' : Value} (h : SC w0 G gb wr v dvb R (pre ++ post) G2 dv cur m) (hg : wr.grownBy w1 v.ownBlock) (hown : OwnL pvP 114 5 w1 w0.heap.size v' (pre ++ (dv, cur) :: post)) (hb : v'.ownBlock = v.ownBlock ∨ ∀ g, v'.ownBlock = some g → wr.heap.size ≤ g) :
    Rw w0.heap.size w1 v' (pre ++ (dv, cur) :: post) ∧ Below w0.heap.size w0 w1 ∧ Big w0 G gb w1 v' dvb R (pre ++ (dv, cur) :: post) := by
  obtain ⟨a, b, c, d, hk⟩ := h.big.bk
  have hGl : G < wr.heap.size := (Array.getElem?_eq_some_iff.1 hk).1
  have hgl := h.big.view.lt
  have hz : ∀ x ∈ pre ++ post, AR x (dv, cur) := fun x hx => by
    cases hxb : x.1.ownBlock with
    | none => exact .inl hxb
    | some g =>
      refine .inr fun e => ?_
      have h1 := (h.fw.each x hx).2 g hxb
      have h2 := h.fw.cm g (by rw [← hxb, e])
      omega
  have hb' : ∀ q, q < wr.heap.size → v.ownBlock ≠ some q → v'.ownBlock ≠ some q := fun q hq hn e => by
    rcases hb with hb | hb
    · exact hn (hb ▸ e)
    · have := hb q e; omega
  have hvG := h.big.vne
  have hvgb := h.big.vgb
  have k := (h.big.grown hg (fun e => hvG e.symm) (fun e => hvgb e.symm))
  refine ⟨⟨hown, fun x hx => ?_, h.apart.ins hz⟩, h.fw.bel.trans (below_of_gb hg h.fw.bel.size fun g e => (h.fw.pat.lt g e).1), ⟨k.bk, hb' G hGl hvG, k.gB, k.view, k.gbB, fun x hx => ?_, hb' gb hgl hvgb, k.ne⟩⟩
  · rcases List.mem_append.1 hx with hx | hx
    · have q := (h.fw.each x (by simp [hx])).1
      exact q.kept hg (own_ne q h.fw.pat (by omega))
    · rcases List.mem_cons.1 hx with rfl | hx
      · exact h.fw.own.kept hg (own_ne h.fw.own h.fw.pat (by omega))
      · have q := (h.fw.each x (by simp [hx])).1
        exact q.kept hg (own_ne q h.fw.pat (by omega))
  · rcases List.mem_append.1 hx with hx | hx
    · exact k.each x (by simp [hx])
    · rcases List.mem_cons.1 hx with rfl | hx
      · exact h.dvgb
      · exact k.each x (by simp [hx])
theorem SC.rw (h : SC w0 G gb wr v dvb R L G2 dv cur m) : Rw w0.heap.size wr v L := ⟨h.fw.pat, fun x hx => (h.fw.each x hx).1, h.apart⟩
/-- the smaller patch is told -/
theorem MidR.emit {pc Y prec' : List UInt8} {q : P} {C : List D} (h : MidR w0 wr mar W Wd M v dvb G gb pre post X prec R B T T') (c : SpCur prec R C R') (hpc : pc = (srcL R').take mar) (hY : tgtL C = Y ++ prec') (hp' : prec'.length ≤ mar)
    (hsrc : srcL q.ds = srcL C ++ pc) (htgt : tgtL q.ds = tgtL C ++ pc) (hop : ∀ d ∈ q.ds, -1 ≤ d.op ∧ d.op ≤ 1) (hs : q.s2 = X.length) (hl : q.l1 = (srcL q.ds).length) (hq : q.ds.length ≤ C.length + 1) (hw : C.length + wtD R' ≤ 1 + wtD R) (hlt : wtD R' < wtD R)
    (hrw : Rw w0.heap.size w1 v' (pre ++ (dv, q) :: post)) (hbl : Below w0.heap.size w0 w1) (hbg : Big w0 G gb w1 v' dvb' R' (pre ++ (dv, q) :: post)) :
    MidR w0 w1 mar W Wd M v' dvb' G gb (pre ++ [(dv, q)]) post (X ++ Y) prec' R' B T T' := by
  have hi := sp_emit h.inv c hpc hY hsrc htgt hop hs hl
  have e : pre ++ (dv, q) :: post = (pre ++ [(dv, q)]) ++ post := by simp
  rw [e] at hrw hbg
  have hwt := h.wt
  have hwd := h.wd
  have e2 : (pre ++ [(dv, q)]).map (·.2) = pre.map (·.2) ++ [q] := by simp
  refine ⟨hrw, hbl, hbg, by rw [e2]; exact hi, by rw [List.length_append, List.length_singleton]; omega, by omega, fun x hx => ?_, h.smd, hp'⟩
  rcases List.mem_append.1 hx with hx | hx
  · rcases List.mem_append.1 hx with hx | hx
    · exact h.sm x (by simp [hx])
    · rw [List.mem_singleton.1 hx]
      exact ⟨by show q.ds.length ≤ _; omega, fun d hd => hi.pre.texts q (by simp) d hd⟩
  · exact h.sm x (by simp [hx])
theorem MidR.drop {Y prec' : List UInt8} {C : List D} (h : MidR w0 wr mar W Wd M v dvb G gb pre post X prec R B T T') (c : SpCur prec R C R') (h0 : ∀ d ∈ C, d.op = 0) (hY : tgtL C = Y ++ prec') (hp' : prec'.length ≤ mar) (hlt : wtD R' < wtD R)
    (hrw : Rw w0.heap.size w1 v (pre ++ post)) (hbl : Below w0.heap.size w0 w1) (hbg : Big w0 G gb w1 v dvb' R' (pre ++ post)) :
    MidR w0 w1 mar W Wd M v dvb' G gb pre post (X ++ Y) prec' R' B T T' := by
  have hi := sp_drop h.inv c h0 hY
  have hwt := h.wt
  have hwd := h.wd
  exact ⟨hrw, hbl, hbg, hi, by omega, by omega, h.sm, h.smd, hp'⟩

theorem InR.start (h : SpInv M T T' Ps X prec R B Qs) (hpl : prec.length ≤ mar) {x : ByteArray} (hx : tb x = prec) (sc : SC w0 G gb w1 v dvb R L G2 dv cur m) (hds : cur.ds = if prec = [] then [] else [⟨0, x⟩]) (hl1 : cur.l1 = prec.length) (hs2 : cur.s2 = X.length) : InR w0 w1 mar v dvb dv G gb G2 m L X prec R R cur true := by
  have hc := cur_begin h.op hx
  rw [← hds] at hc
  refine ⟨sc, hc, ?_, hs2, fun _ d hd => ?_, ?_, .inr ⟨rfl, by omega⟩⟩
  · rw [hl1]
    have := congrArg List.length hc.src
    simp only [List.length_append] at this
    omega
  · rw [hds] at hd
    split at hd
    · simp at hd
    · rw [List.mem_singleton.1 hd]
  · rw [hds]
    split <;> simp <;> omega
theorem InR.lt (h : InR w0 wr mar v dvb dv G gb G2 m L X prec R R' cur e) : wtD R' ≤ wtD R := by
  rcases h.go with k | ⟨k, _⟩
  · omega
  · rw [k]; exact Nat.le_refl _
theorem InR.whole (h : InR w0 wr mar v dvb dv G gb G2 m L X prec R (d :: r) cur e) (sc : SC w0 G gb w1 v dvb' r L G2 dv' cur' m) (hds : cur'.ds = cur.ds ++ [d]) (hl1 : cur'.l1 = cur.l1 + (if d.op = 1 then 0 else d.t.size : Nat)) (hs2 : cur'.s2 = cur.s2) (he : e' = true → e = true ∧ d.op = 0) :
    InR w0 w1 mar v dvb' dv' G gb G2 m L X prec R r cur' e' := by
  have hlt := h.lt
  have hwt := h.wt
  rw [wtD_cons] at hlt hwt
  refine ⟨sc, by rw [hds]; exact cur_whole h.cu, ?_, by rw [hs2]; exact h.s2, fun k x hx => ?_, by rw [hds, List.length_append, List.length_singleton]; omega, .inl (by omega)⟩
  · rw [hl1, hds, srcL_snoc, List.length_append, len1, h.l1]; omega
  · rw [hds] at hx
    rcases List.mem_append.1 hx with hx | hx
    · exact h.em (he k).1 x hx
    · rw [List.mem_singleton.1 hx]; exact (he k).2
theorem InR.piece (h : InR w0 wr mar v dvb dv G gb G2 m L X prec R (d :: r) cur e) {x y : ByteArray} (hxy : tb x ++ tb y = tb d.t) (hx0 : 0 < x.size) (ho : d.op ≠ 1) (sc : SC w0 G gb w1 v dvb' (⟨d.op, y⟩ :: r) L G2 dv' cur' m) (hds : cur'.ds = cur.ds ++ [⟨d.op, x⟩]) (hl1 : cur'.l1 = cur.l1 + x.size) (hs2 : cur'.s2 = cur.s2) (he : e' = true → e = true ∧ d.op = 0) :
    InR w0 w1 mar v dvb' dv' G gb G2 m L X prec R (⟨d.op, y⟩ :: r) cur' e' := by
  have hlt := h.lt
  have hwt := h.wt
  have hsz := congrArg List.length hxy
  rw [List.length_append, tb_length, tb_length, tb_length] at hsz
  rw [wtD_cons] at hlt hwt
  refine ⟨sc, by rw [hds]; exact cur_piece h.cu hxy, ?_, by rw [hs2]; exact h.s2, fun k z hz => ?_, ?_, .inl ?_⟩
  · rw [hl1, hds, srcL_snoc, List.length_append, if_neg ho, tb_length, h.l1]; dsimp only; omega
  · rw [hds] at hz
    rcases List.mem_append.1 hz with hz | hz
    · exact h.em (he k).1 z hz
    · rw [List.mem_singleton.1 hz]; exact (he k).2
  · rw [hds, List.length_append, List.length_singleton, wtD_cons]
    show _ + (y.size + 1 + _) ≤ _
    omega
  · rw [wtD_cons]
    show y.size + 1 + _ < _
    omega
/-- the numbers are small -/
theorem InR.small (h : InR w0 wr mar v dvb dv G gb G2 m L X prec R R' cur e) (hi : SpInv M T T' Ps X prec R B Qs) : (srcL cur.ds).length + (srcL R').length ≤ M ∧ X.length + (tgtL cur.ds).length + (tgtL R').length ≤ M ∧ (∀ x ∈ cur.ds, x.t.size ≤ M) ∧ (∀ x ∈ R', x.t.size ≤ M ∧ -1 ≤ x.op ∧ x.op ≤ 1) := by
  have h1 := hi.sm
  have h2 := congrArg List.length h.cu.src
  have h3 := congrArg List.length h.cu.tgt
  simp only [List.length_append] at h1 h2 h3
  refine ⟨by omega, by omega, fun x hx => ?_, fun x hx => ⟨?_, h.cu.op x (by simp [hx])⟩⟩
  · by_cases ho : x.op = 1
    · have := mem_tgtL hx (by omega); omega
    · have := mem_srcL hx ho; omega
  · by_cases ho : x.op = 1
    · have := mem_tgtL hx (by omega); omega
    · have := mem_srcL hx ho; omega
/-- some was taken -/
theorem InR.took {bits : Int} (h : InR w0 wr mar v dvb dv G gb G2 m L X prec R R' cur e) (hR : R ≠ []) (hx : R' = [] ∨ bits - mar ≤ cur.l1) (hb : (2 * mar : Int) < bits) : wtD R' < wtD R := by
  rcases h.go with k | ⟨k, k2⟩
  · exact k
  · rcases hx with hx | hx
    · exact absurd (k ▸ hx) hR
    · omega
end

structure SmIn (w0 w : World) (gd : Nat) (tmo cost dist : Int) (th de mar bits W Wd M : Nat) (v : Value) (L : List (Value × P)) (T T' : List UInt8) : Prop where
  dmp : DmpAt w gd tmo cost dist mar bits th de
  gd : gd < w0.heap.size
  row : Rw w0.heap.size w v L
  bel : Below w0.heap.size w0 w
  ex : ExS M T (L.map (·.2)) T'
  wt : wtP (L.map (·.2)) ≤ W
  sm : ∀ x ∈ L, wtD x.2.ds ≤ Wd ∧ SmallP Wd M x.2
  mar1 : 1 ≤ mar
  mar8 : mar ≤ 8
  bits1 : 32 ≤ bits
  bits2 : bits ≤ 62
  W9 : W ≤ 10000000
  Wd9 : Wd ≤ 200000
  M9 : M ≤ 900000
def SmPost (w0 : World) (W Wd M : Nat) (T T' : List UInt8) (e : Ending) (w' : World) : Prop :=
  ∃ (v : Value) (L' : List (Value × P)), e = .returned v ∧ Rw w0.heap.size w' v L' ∧ Ex M T (L'.map (·.2)) T' ∧ L'.length ≤ W ∧ (∀ x ∈ L', SmallP Wd M x.2) ∧ Below w0.heap.size w0 w'

section
variable {α : Type} {f : α → List Value} {P : Program} {t e sz bytes : Nat} {w : World} {base : Nat} {l : List α} {v : Value}
/-- 'append' of some: the operation, and at a step of a region that draws its order -/
theorem wp_appendL {o : Oper} {a : Act} {K : Act → World → Prop} {Q : Exit → Act → World → Prop} (ty : STy P t e sz bytes) (s x : Operand)
    (ho : o.op = .call { callee := .builtin .append, args := #[s, x], argTypes := #[t, t] }) (hs : a.eval s = v) (hown : OwnL f e sz w base v l)
    (ys : List α) (ad : Addr) (m c : Nat) (hx : a.eval x = .slice (some ad) m c) (hm : m = ys.length) (hy : ∀ j u, (ys.flatMap f)[j]? = some u → w.cell? (ad.add j) = some u) (h1 : ∀ u ∈ ys.flatMap f, u.oneCell' = true) (hf : ∀ y, (f y).length = sz)
    (hb : l.length + ys.length < 1000000000) (hbase : base ≤ w.heap.size)
    (h : ∀ v' w', OwnL f e sz w' base v' (l ++ ys) → w.grownBy w' v.ownBlock → (v'.ownBlock = v.ownBlock ∨ v'.ownBlock = some w.heap.size) → K (a.put o.dst v') w') : Oper.wp P o a w K Q := by
  subst hm
  obtain ⟨i, z, hi, hz, hsz, hby, hzs⟩ := ty.hi
  have hbytes : (l.length + ys.length) * bytes ≤ 140737488355328 := by
    have : (l.length + ys.length) * bytes ≤ 1000000000 * 64 := Nat.mul_le_mul (by omega) ty.hby
    omega
  obtain ⟨v', w', hr, h2, h3, h4, h5⟩ := run_append_own_at (P := P) w base t o.type e i z sz bytes ty.ht hi hz hsz hby hzs ty.hsz v l.length (l.flatMap f) hown ad ys.length c (ys.flatMap f) (flat_length hf ys) hy h1 (by unfold maxLen; omega) hbytes hbase
  unfold Oper.wp execOp
  simp only [ho, resolve, invoke, builtin, Sem.run_bind, Sem.run_pure, Result.andThen_ok, List.map_toArray, List.map_cons, List.map_nil, hs, hx, hr]
  refine h v' w' ?_ h3 h5
  show World.ownsRow w' base e sz v' (l ++ ys).length ((l ++ ys).flatMap f)
  rw [List.length_append, List.flatMap_append]
  exact h2
theorem step_appendL {ops : Array Oper} {o : Oper} {a : Act} {K : Act → World → Prop} {Q : Exit → Act → World → Prop} {E : Prop} (ty : STy P t e sz bytes) (hgd : o.guard = none) (s x : Operand)
    (ho : o.op = .call { callee := .builtin .append, args := #[s, x], argTypes := #[t, t] }) (hs : a.eval s = v) (hown : OwnL f e sz w base v l)
    (ys : List α) (ad : Addr) (m c : Nat) (hx : a.eval x = .slice (some ad) m c) (hm : m = ys.length) (hy : ∀ j u, (ys.flatMap f)[j]? = some u → w.cell? (ad.add j) = some u) (h1 : ∀ u ∈ ys.flatMap f, u.oneCell' = true) (hf : ∀ y, (f y).length = sz)
    (hb : l.length + ys.length < 1000000000) (hbase : base ≤ w.heap.size)
    (h : ∀ v' w', OwnL f e sz w' base v' (l ++ ys) → w.grownBy w' v.ownBlock → (v'.ownBlock = v.ownBlock ∨ v'.ownBlock = some w.heap.size) → K (a.put o.dst v') w') :
    if Region.wanted o (yielded ops a.tmps) = true then Oper.wp P o a w K Q else E := by
  have hw : Region.wanted o (yielded ops a.tmps) = true := by simp [Region.wanted, hgd]
  rw [if_pos hw]
  exact wp_appendL ty s x ho hs hown ys ad m c hx hm hy h1 hf hb hbase h
end
end Go.Proofs.YtjebgfpcmooniaaGreatDoor

namespace Go.Proofs.YtjebgfpcmooniaaGreatDoor
open Go Go.RowKit

/-- the code of a loop, the first in a code -/
noncomputable def loopIn : Code → Option Code
  | .seq a b => match loopIn a with
    | some c => some c
    | none => loopIn b
  | .block _ c => loopIn c
  | .cond _ a b => match loopIn a with
    | some c => some c
    | none => loopIn b
  | .loop c => some c
  | _ => none
/-- the code behind a block -/
def isBlock (n : Nat) : Code → Bool
  | .block m _ => m == n
  | _ => false
noncomputable def behind (n : Nat) : Code → Option Code
  | .seq a b => match isBlock n a with
    | true => some b
    | false => match behind n a with
      | some c => some c
      | none => behind n b
  | .block _ c => behind n c
  | .cond _ a b => match behind n a with
    | some c => some c
    | none => behind n b
  | .loop c => behind n c
  | _ => none
noncomputable def round0 : Code := match Tryz.f97.body with
  | some c => (loopIn c).getD .skip
  | none => .skip
noncomputable def round2 : Code := (loopIn round0).getD .skip
noncomputable def round4 : Code := (loopIn round2).getD .skip
noncomputable def tail4 : Code := (behind 4 round2).getD .skip

/-- no panic behind -/
def QP (Q : Exit → Act → World → Prop) : Exit → Act → World → Prop := fun e a w => match e with
  | .panic _ => False
  | e => Q e a w
theorem wp_qp {c : Code} {J : Act → World → Prop} {Q : Exit → Act → World → Prop} {a : Act} {w : World} (h : Code.wp Tryz.prog c (Exit.then J (QP Q)) a w) : Code.wp Tryz.prog c (Exit.then J Q) a w := by
  refine wp_mono h fun e a' w' hq => ?_
  cases e with
  | panic _ => exact hq.elim
  | _ => exact hq

structure SpOk (w0 : World) (gd : Nat) (tmo cost dist : Int) (th de mar bits W Wd M : Nat) : Prop where
  dmp : DmpAt w0 gd tmo cost dist mar bits th de
  gd : gd < w0.heap.size
  mar1 : 1 ≤ mar
  mar8 : mar ≤ 8
  bits1 : 32 ≤ bits
  bits2 : bits ≤ 62
  W9 : W ≤ 10000000
  Wd9 : Wd ≤ 200000
  M9 : M ≤ 900000
/-- the inner loop, between two rounds; n counts what is left -/
def InS (w0 : World) (mar : Nat) (v : Value) (G gb G2 m : Nat) (L : List (Value × P)) (X prec : List UInt8) (R : List D) (n : Nat) (v8 v9 v12 : Value) (w' : World) : Prop :=
  ∃ (S1 S2 : Int) (e : Bool) (dvb dv : Value) (R' : List D) (cur : P), v8 = .int .i64 S1 ∧ v9 = .int .i64 S2 ∧ v12 = .bool e ∧ Hid (InR w0 w' mar v dvb dv G gb G2 m L X prec R R' cur e) ∧ Hid (S2 = X.length + (tgtL cur.ds).length) ∧ wtD R' < n

/-- a frame of the inner loop -/
inductive FrIn (gd bits G G2 : Nat) (u1 u2 u3 u4 u6 u10 u15 u16 u17 u18 u19 u20 u21 u22 u23 u24 u25 u26 u27 u28 u29 u30 u31 u32 u33 u34 u35 u36 u37 u38 u39 u40 u41 u42 u43 u44 u45 u46 u47 u48 u49 u50 u51 u52 u53 u54 u55 u56 u57 u58 u59 u60 u61 u62 u63 u64 u65 u66 u67 u68 u69 u70 u71 u72 u73 u74 u75 u76 u77 u78 u79 u80 u81 u244 u245 u246 u247 u248 u249 u250 u251 u252 u253 u254 u255 u256 u257 u258 u259 u260 u261 u262 u263 u264 u265 u266 u267 u268 u269 u270 u271 u272 u273 u274 u275 u276 u277 u278 u279 u280 u281 u282 u283 u284 u285 u286 u287 u288 u289 u290 u291 u292 u293 u294 u295 u296 u297 u298 u299 u300 u301 u302 u303 u304 u305 u306 u307 u308 u309 u310 u311 u312 u313 u314 u315 u316 u317 u318 u319 u320 u321 u322 u323 u324 u325 u326 u327 u328 u329 u330 u331 u332 u333 u334 u335 u336 u337 u338 u339 u340 u341 u342 u343 u344 u345 u346 : Value) (rel : Value → Value → Value → World → Prop) : Act → World → Prop where
  | mk (x8 x9 x12 x13 x14 x82 x83 x84 x85 x86 x87 x88 x89 x90 x91 x92 x93 x94 x95 x96 x97 x98 x99 x100 x101 x102 x103 x104 x105 x106 x107 x108 x109 x110 x111 x112 x113 x114 x115 x116 x117 x118 x119 x120 x121 x122 x123 x124 x125 x126 x127 x128 x129 x130 x131 x132 x133 x134 x135 x136 x137 x138 x139 x140 x141 x142 x143 x144 x145 x146 x147 x148 x149 x150 x151 x152 x153 x154 x155 x156 x157 x158 x159 x160 x161 x162 x163 x164 x165 x166 x167 x168 x169 x170 x171 x172 x173 x174 x175 x176 x177 x178 x179 x180 x181 x182 x183 x184 x185 x186 x187 x188 x189 x190 x191 x192 x193 x194 x195 x196 x197 x198 x199 x200 x201 x202 x203 x204 x205 x206 x207 x208 x209 x210 x211 x212 x213 x214 x215 x216 x217 x218 x219 x220 x221 x222 x223 x224 x225 x226 x227 x228 x229 x230 x231 x232 x233 x234 x235 x236 x237 x238 x239 x240 x241 x242 x243 : Value) (w' : World) (h : rel x8 x9 x12 w') : FrIn gd bits G G2 u1 u2 u3 u4 u6 u10 u15 u16 u17 u18 u19 u20 u21 u22 u23 u24 u25 u26 u27 u28 u29 u30 u31 u32 u33 u34 u35 u36 u37 u38 u39 u40 u41 u42 u43 u44 u45 u46 u47 u48 u49 u50 u51 u52 u53 u54 u55 u56 u57 u58 u59 u60 u61 u62 u63 u64 u65 u66 u67 u68 u69 u70 u71 u72 u73 u74 u75 u76 u77 u78 u79 u80 u81 u244 u245 u246 u247 u248 u249 u250 u251 u252 u253 u254 u255 u256 u257 u258 u259 u260 u261 u262 u263 u264 u265 u266 u267 u268 u269 u270 u271 u272 u273 u274 u275 u276 u277 u278 u279 u280 u281 u282 u283 u284 u285 u286 u287 u288 u289 u290 u291 u292 u293 u294 u295 u296 u297 u298 u299 u300 u301 u302 u303 u304 u305 u306 u307 u308 u309 u310 u311 u312 u313 u314 u315 u316 u317 u318 u319 u320 u321 u322 u323 u324 u325 u326 u327 u328 u329 u330 u331 u332 u333 u334 u335 u336 u337 u338 u339 u340 u341 u342 u343 u344 u345 u346 rel { tmps := #[.pointer (some ⟨gd, 0, none⟩), u1, u2, u3, u4, .int .i64 bits, u6, .pointer (some ⟨G, 0, none⟩), x8, x9, u10, .pointer (some ⟨G2, 0, none⟩), x12, x13, x14, u15, u16, u17, u18, u19, u20, u21, u22, u23, u24, u25, u26, u27, u28, u29, u30, u31, u32, u33, u34, u35, u36, u37, u38, u39, u40, u41, u42, u43, u44, u45, u46, u47, u48, u49, u50, u51, u52, u53, u54, u55, u56, u57, u58, u59, u60, u61, u62, u63, u64, u65, u66, u67, u68, u69, u70, u71, u72, u73, u74, u75, u76, u77, u78, u79, u80, u81, x82, x83, x84, x85, x86, x87, x88, x89, x90, x91, x92, x93, x94, x95, x96, x97, x98, x99, x100, x101, x102, x103, x104, x105, x106, x107, x108, x109, x110, x111, x112, x113, x114, x115, x116, x117, x118, x119, x120, x121, x122, x123, x124, x125, x126, x127, x128, x129, x130, x131, x132, x133, x134, x135, x136, x137, x138, x139, x140, x141, x142, x143, x144, x145, x146, x147, x148, x149, x150, x151, x152, x153, x154, x155, x156, x157, x158, x159, x160, x161, x162, x163, x164, x165, x166, x167, x168, x169, x170, x171, x172, x173, x174, x175, x176, x177, x178, x179, x180, x181, x182, x183, x184, x185, x186, x187, x188, x189, x190, x191, x192, x193, x194, x195, x196, x197, x198, x199, x200, x201, x202, x203, x204, x205, x206, x207, x208, x209, x210, x211, x212, x213, x214, x215, x216, x217, x218, x219, x220, x221, x222, x223, x224, x225, x226, x227, x228, x229, x230, x231, x232, x233, x234, x235, x236, x237, x238, x239, x240, x241, x242, x243, u244, u245, u246, u247, u248, u249, u250, u251, u252, u253, u254, u255, u256, u257, u258, u259, u260, u261, u262, u263, u264, u265, u266, u267, u268, u269, u270, u271, u272, u273, u274, u275, u276, u277, u278, u279, u280, u281, u282, u283, u284, u285, u286, u287, u288, u289, u290, u291, u292, u293, u294, u295, u296, u297, u298, u299, u300, u301, u302, u303, u304, u305, u306, u307, u308, u309, u310, u311, u312, u313, u314, u315, u316, u317, u318, u319, u320, u321, u322, u323, u324, u325, u326, u327, u328, u329, u330, u331, u332, u333, u334, u335, u336, u337, u338, u339, u340, u341, u342, u343, u344, u345, u346], defers := [] } w'
/-- the inner loop is done -/
def InX (w0 : World) (mar bits : Nat) (v : Value) (G gb G2 m : Nat) (L : List (Value × P)) (X prec : List UInt8) (R : List D) (v8 v9 v12 : Value) (w' : World) : Prop :=
  ∃ (S1 S2 : Int) (e : Bool) (dvb dv : Value) (R' : List D) (cur : P), v8 = .int .i64 S1 ∧ v9 = .int .i64 S2 ∧ v12 = .bool e ∧ Hid (InR w0 w' mar v dvb dv G gb G2 m L X prec R R' cur e) ∧ Hid (S2 = X.length + (tgtL cur.ds).length) ∧ (R' = [] ∨ (bits : Int) - mar ≤ cur.l1)

/-- what a round of the inner loop sees -/
structure InV (w0 wr : World) (gd : Nat) (mar bits M : Nat) (v dvb dv : Value) (G gb G2 : Nat) (L : List (Value × P)) (X : List UInt8) (R' : List D) (cur : P) : Prop where
  y4 : wr.cell? ⟨gd, 4, none⟩ = some (.int .i64 mar)
  q0 : wr.cell? ⟨G, 0, none⟩ = some dvb
  g0 : wr.frozen? ⟨G, 0, none⟩ = false
  z0 : wr.cell? ⟨G2, 0, none⟩ = some dv
  z3 : wr.cell? ⟨G2, 3, none⟩ = some (.int .i64 cur.l1)
  z4 : wr.cell? ⟨G2, 4, none⟩ = some (.int .i64 cur.l2)
  h0 : wr.frozen? ⟨G2, 0, none⟩ = false
  h3 : wr.frozen? ⟨G2, 3, none⟩ = false
  h4 : wr.frozen? ⟨G2, 4, none⟩ = false
  nG : G ≠ G2
  nb : gb ≠ G2
  l0 : 0 ≤ cur.l1
  lM : cur.l1 ≤ M
  tM : X.length + (tgtL cur.ds).length ≤ M
  rM : (srcL cur.ds).length + (srcL R').length ≤ M
  rN : X.length + (tgtL cur.ds).length + (tgtL R').length ≤ M
  dg : dv.ownBlock ≠ some G
  db : dv.ownBlock ≠ some gb
  d2 : dv.ownBlock ≠ some G2
  gn : G ≠ gb
  gB : w0.heap.size ≤ wr.heap.size
  G2s : G2 < wr.heap.size
  Gs : G < wr.heap.size
  gbs : gb < wr.heap.size
  cl : cur.ds.length ≤ 200001
  own : OwnL dP 128 2 wr w0.heap.size dv cur.ds
theorem in_view {w0 wr : World} {gd : Nat} {tmo cost dist : Int} {th de mar bits W Wd M : Nat} {v dvb dv : Value} {G gb G2 m : Nat} {L : List (Value × P)} {X prec B T T' : List UInt8} {R R' : List D} {cur : P} {e : Bool} {Ps Qs : List P}
    (hok : SpOk w0 gd tmo cost dist th de mar bits W Wd M) (hi : SpInv M T T' Ps X prec R B Qs) (hin : InR w0 wr mar v dvb dv G gb G2 m L X prec R R' cur e) (hw : wtD R ≤ Wd) : InV w0 wr gd mar bits M v dvb dv G gb G2 L X R' cur := by
  obtain ⟨a1, a2, a3, a4, hk⟩ := hin.sc.big.bk
  obtain ⟨s1, s2, s3, s4⟩ := hin.small hi
  have hl := hin.l1
  have hwt := hin.wt
  have h9 := hok.Wd9
  have q0 := blk_cell hk 0
  have z0 := blk_cell hin.sc.fw.bk 0
  have z3 := blk_cell hin.sc.fw.bk 3
  have z4 := blk_cell hin.sc.fw.bk 4
  have y4 := blk_cell (hok.dmp.below hin.sc.fw.bel hok.gd) 4
  simp [pC] at q0 z0 z3 z4 y4
  exact ⟨y4, q0, blk_frozen hk 0, z0, z3, z4, blk_frozen hin.sc.fw.bk 0, blk_frozen hin.sc.fw.bk 3, blk_frozen hin.sc.fw.bk 4, hin.sc.n1, hin.sc.n2, by omega, by omega, by omega, s1, s2, hin.sc.dvG, hin.sc.dvgb, own_block_ty hin.sc.fw.own hin.sc.fw.bk (by omega), hin.sc.big.ne, hin.sc.fw.bel.size, (Array.getElem?_eq_some_iff.1 hin.sc.fw.bk).1, (Array.getElem?_eq_some_iff.1 hk).1, hin.sc.big.view.lt, by omega, hin.sc.fw.own⟩
/-- what a walk sees while a smaller patch is under way -/
structure SeeC (w0 wr : World) (G gb G2 : Nat) (dvb dv : Value) (R : List D) (cur : P) : Prop where
  q0 : wr.cell? ⟨G, 0, none⟩ = some dvb
  g0 : wr.frozen? ⟨G, 0, none⟩ = false
  z0 : wr.cell? ⟨G2, 0, none⟩ = some dv
  z3 : wr.cell? ⟨G2, 3, none⟩ = some (.int .i64 cur.l1)
  z4 : wr.cell? ⟨G2, 4, none⟩ = some (.int .i64 cur.l2)
  h0 : wr.frozen? ⟨G2, 0, none⟩ = false
  h3 : wr.frozen? ⟨G2, 3, none⟩ = false
  h4 : wr.frozen? ⟨G2, 4, none⟩ = false
  gB : w0.heap.size ≤ wr.heap.size
  G2s : G2 < wr.heap.size
  Gs : G < wr.heap.size
  gbs : gb < wr.heap.size
  own : OwnL dP 128 2 wr w0.heap.size dv cur.ds
theorem SC.see {w0 wr : World} {v dvb dv : Value} {G gb G2 m : Nat} {L : List (Value × P)} {R : List D} {cur : P} (h : SC w0 G gb wr v dvb R L G2 dv cur m) : SeeC w0 wr G gb G2 dvb dv R cur := by
  obtain ⟨a1, a2, a3, a4, hk⟩ := h.big.bk
  have q0 := blk_cell hk 0
  have z0 := blk_cell h.fw.bk 0
  have z3 := blk_cell h.fw.bk 3
  have z4 := blk_cell h.fw.bk 4
  simp [pC] at q0 z0 z3 z4
  exact ⟨q0, blk_frozen hk 0, z0, z3, z4, blk_frozen h.fw.bk 0, blk_frozen h.fw.bk 3, blk_frozen h.fw.bk 4, h.fw.bel.size, (Array.getElem?_eq_some_iff.1 h.fw.bk).1, (Array.getElem?_eq_some_iff.1 hk).1, h.big.view.lt, h.fw.own⟩
theorem SC.head {w0 wr : World} {v dv : Value} {G gb G2 m o n c : Nat} {L : List (Value × P)} {d : D} {r : List D} {cur : P} (h : SC w0 G gb wr v (.slice (some ⟨gb, o, none⟩) n c) (d :: r) L G2 dv cur m) :
    wr.cell? ⟨gb, o, none⟩ = some (.int .i8 d.op) ∧ wr.cell? ⟨gb, o + 1, none⟩ = some (.string d.t) ∧ wr.frozen? ⟨gb, o, none⟩ = false ∧ wr.frozen? ⟨gb, o + 1, none⟩ = false := by
  obtain ⟨o', c', he', hc', k0, k1, kf⟩ := h.big.view.head
  injection he' with he1 he2 he3
  injection he1 with he1
  injection he1 with _ he1
  subst he1
  exact ⟨k0, k1, kf o, kf (o + 1)⟩
/-- an append to the smaller patch leaves its cell -/
theorem SC.grows {w0 wr w1 : World} {v dvb dv : Value} {G gb G2 m : Nat} {L : List (Value × P)} {R : List D} {cur : P} (h : SC w0 G gb wr v dvb R L G2 dv cur m) (hg : wr.grownBy w1 dv.ownBlock) : w1.cell? ⟨G2, 0, none⟩ = some dv ∧ w1.frozen? ⟨G2, 0, none⟩ = false := by
  have b1 := gb_heap hg (i := G2) (Array.getElem?_eq_some_iff.1 h.fw.bk).1 (fun e => own_block_ty h.fw.own h.fw.bk (by omega) e.symm) h.fw.bk
  have z0 := blk_cell b1 0
  simp [pC] at z0
  exact ⟨z0, blk_frozen b1 0⟩
theorem SC.grows2 {w0 wr w1 : World} {v dv : Value} {G gb G2 m o n c : Nat} {L : List (Value × P)} {d : D} {r : List D} {cur : P} (h : SC w0 G gb wr v (.slice (some ⟨gb, o, none⟩) n c) (d :: r) L G2 dv cur m) (hg : wr.grownBy w1 dv.ownBlock) :
    w1.cell? ⟨G2, 0, none⟩ = some dv ∧ w1.frozen? ⟨G2, 0, none⟩ = false ∧ w1.cell? ⟨G, 0, none⟩ = some (.slice (some ⟨gb, o, none⟩) n c) ∧ w1.cell? ⟨gb, o, none⟩ = some (.int .i8 d.op) ∧ w1.cell? ⟨gb, o + 1, none⟩ = some (.string d.t) ∧ w1.frozen? ⟨G, 0, none⟩ = false ∧ w1.frozen? ⟨gb, o + 1, none⟩ = false := by
  obtain ⟨e1, e2⟩ := h.grows hg
  have k := h.big.grown hg (fun e => h.dvG e.symm) (fun e => h.dvgb e.symm)
  obtain ⟨a1, a2, a3, a4, hk⟩ := k.bk
  have q0 := blk_cell hk 0
  simp at q0
  obtain ⟨o', c', he', hc', k0, k1, kf⟩ := k.view.head
  injection he' with he1 he2 he3
  injection he1 with he1
  injection he1 with _ he1
  subst he1
  exact ⟨e1, e2, q0, k0, k1, blk_frozen hk 0, kf _⟩
theorem hat_or {dv : Value} {g n c B B' : Nat} (h : dv.ownBlock = some g ∨ g = B') (hB : B ≤ B') : (Value.slice (some ⟨g, 0, none⟩) n c).ownBlock = dv.ownBlock ∨ ∀ q, (Value.slice (some ⟨g, 0, none⟩) n c).ownBlock = some q → B ≤ q := by
  rcases h with h | h
  · exact .inl h.symm
  · refine .inr fun q e => ?_
    have : g = q := by simpa [Value.ownBlock] using e
    omega
theorem SC.drew {w0 wr : World} {v dvb dv : Value} {G gb G2 m : Nat} {L : List (Value × P)} {R : List D} {cur : P} (h : SC w0 G gb wr v dvb R L G2 dv cur m) (n : Nat) : SC w0 G gb (wr.drewN n) v dvb R L G2 dv cur m := h.on (below_drewN (Below.refl _ _) n)
theorem SC.drew1 {w0 wr : World} {v dvb dv : Value} {G gb G2 m : Nat} {L : List (Value × P)} {R : List D} {cur : P} (h : SC w0 G gb wr v dvb R L G2 dv cur m) : SC w0 G gb wr.drew v dvb R L G2 dv cur m := h.on (Below.refl _ _).drew
theorem InR.drewN {w0 wr : World} {mar : Nat} {v dvb dv : Value} {G gb G2 m : Nat} {L : List (Value × P)} {X prec : List UInt8} {R R' : List D} {cur : P} {e : Bool} (h : InR w0 wr mar v dvb dv G gb G2 m L X prec R R' cur e) (n : Nat) : InR w0 (wr.drewN n) mar v dvb dv G gb G2 m L X prec R R' cur e :=
  ⟨h.sc.drew n, h.cu, h.l1, h.s2, h.em, h.wt, h.go⟩
end Go.Proofs.YtjebgfpcmooniaaGreatDoor
