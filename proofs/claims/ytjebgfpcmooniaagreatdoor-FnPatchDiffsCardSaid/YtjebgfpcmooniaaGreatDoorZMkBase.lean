/- The plain law of patches: what the making of patches keeps, without a program in sight. patchMake2: a text and differences, made into patches. Patches as they lie in memory while they are made. patchMake2: a text and differences, made into patches. The plain steps and what is kept in memory. patchMake2: what its rounds share. -/
import Derived.Test.YtjebgfpcmooniaaGreatDoorZCtx
namespace Go.Proofs.YtjebgfpcmooniaaGreatDoor
open Go Go.RowKit

/-- a patch -/
structure P where
  ds : List D
  s1 : Int
  s2 : Int
  l1 : Int
  l2 : Int

/-- a patch stands in a text behind a, ahead of b -/
structure Stands (mar : Nat) (p : P) (a b : List UInt8) : Prop where
  s1 : p.s1 = a.length
  s2 : p.s2 = a.length
  l1 : p.l1 = (srcL p.ds).length
  l2 : p.l2 = (tgtL p.ds).length
  ne : p.ds ≠ []
  head : ∀ d r, p.ds = d :: r → (d.op ≠ 0 ∨ d.t.size < mar) → a = []
  last : ∀ d r, p.ds = r ++ [d] → (d.op ≠ 0 ∨ d.t.size < mar) → b = []

/-- patches, one behind the other, lead from one text to another -/
inductive Placed (mar : Nat) : List UInt8 → List P → List UInt8 → Prop where
  | nil (t : List UInt8) : Placed mar t [] t
  | cons {p : P} {ps : List P} {a b t : List UInt8} (h : Stands mar p a b) (r : Placed mar (a ++ (tgtL p.ds ++ b)) ps t) : Placed mar (a ++ (srcL p.ds ++ b)) (p :: ps) t

theorem Placed.snoc {mar : Nat} {t t' : List UInt8} {ps : List P} (h : Placed mar t ps t') : ∀ {p : P} {a b : List UInt8}, Stands mar p a b → t' = a ++ (srcL p.ds ++ b) → Placed mar t (ps ++ [p]) (a ++ (tgtL p.ds ++ b)) := by
  induction h with
  | nil t => intro p a b hs e; subst e; exact .cons hs (.nil _)
  | cons h r ih => intro p a b hs e; exact .cons h (ih hs e)

/-- the parts of a patch are some of a list's, or context; its numbers are small -/
structure OkP (φ : UInt8 → Prop) (n N : Nat) (p : P) : Prop where
  len : p.ds.length ≤ n + 2
  op : ∀ d ∈ p.ds, -1 ≤ d.op ∧ d.op ≤ 1
  sz : ∀ d ∈ p.ds, d.t.size ≤ N
  by_ : ∀ d ∈ p.ds, ∀ x ∈ tb d.t, φ x
  num : (0 ≤ p.s1 ∧ p.s1 ≤ N) ∧ (0 ≤ p.s2 ∧ p.s2 ≤ N) ∧ (0 ≤ p.l1 ∧ p.l1 ≤ N) ∧ (0 ≤ p.l2 ∧ p.l2 ≤ N)

def noP : P := ⟨[], 0, 0, 0, 0⟩

/-- the patch stands between a and b, its lengths told -/
structure CurAt (cur : P) (a b pp po : List UInt8) : Prop where
  pp : pp = a ++ (srcL cur.ds ++ b)
  po : po = a ++ (tgtL cur.ds ++ b)
  s1 : cur.s1 = a.length
  s2 : cur.s2 = a.length
  l1 : cur.l1 = (srcL cur.ds).length
  l2 : cur.l2 = (tgtL cur.ds).length

/-- what a list's parts are for the making of patches -/
structure OkL (φ : UInt8 → Prop) (l : List D) (N : Nat) : Prop where
  op : ∀ d ∈ l, -1 ≤ d.op ∧ d.op ≤ 1
  sz : ∀ d ∈ l, d.t.size ≤ N
  by_ : ∀ d ∈ l, ∀ x ∈ tb d.t, φ x
  mid : ∀ i, (tgtL (l.take i) ++ srcL (l.drop i)).length ≤ N

/-- the state while patches are made: so many parts done -/
structure MkInv (φ : UInt8 → Prop) (N : Nat) (mar : Nat) (l : List D) (t : List UInt8) (live : Prop) (i : Nat) (ps : List P) (cur : P) (c1 c2 : Nat) (pp po : List UInt8) : Prop where
  done : Placed mar t ps pp
  oks : ∀ p ∈ ps, OkP φ l.length N p
  psn : ps.length + cur.ds.length ≤ i
  il : i ≤ l.length
  post : po = tgtL (l.take i) ++ srcL (l.drop i)
  hc2 : c2 = (tgtL (l.take i)).length
  none_ : cur.ds = [] → cur = noP ∧ pp = po ∧ c1 = c2
  some_ : cur.ds ≠ [] → (∃ d r, cur.ds = d :: r ∧ d.op ≠ 0) ∧ ∃ a b, CurAt cur a b pp po ∧ (live → c1 = a.length + (srcL cur.ds).length ∧ c2 = a.length + (tgtL cur.ds).length ∧ b = srcL (l.drop i))
  cop : ∀ d ∈ cur.ds, d ∈ l
  ed : (ps = [] ∧ cur.ds = []) ↔ ∀ d ∈ l.take i, d.op = 0
  ppn : pp.length ≤ N
  ppb : ∀ x ∈ pp, φ x

theorem srcL_by {φ : UInt8 → Prop} {l : List D} (h : ∀ d ∈ l, ∀ x ∈ tb d.t, φ x) : ∀ x ∈ srcL l, φ x := by
  intro x hx
  obtain ⟨d, hd, hx⟩ := List.mem_flatMap.1 hx
  split at hx
  · simp at hx
  · exact h d hd x hx
theorem tgtL_by {φ : UInt8 → Prop} {l : List D} (h : ∀ d ∈ l, ∀ x ∈ tb d.t, φ x) : ∀ x ∈ tgtL l, φ x := by
  intro x hx
  obtain ⟨d, hd, hx⟩ := List.mem_flatMap.1 hx
  split at hx
  · simp at hx
  · exact h d hd x hx

def szL (l : List D) : Nat := (l.map fun d => d.t.size).sum
theorem szL_cons (d : D) (l : List D) : szL (d :: l) = d.t.size + szL l := by simp [szL]
theorem szL_append (a b : List D) : szL (a ++ b) = szL a + szL b := by simp [szL]
theorem srcL_le (l : List D) : (srcL l).length ≤ szL l := by
  induction l with
  | nil => exact Nat.zero_le _
  | cons d l ih =>
    rw [srcL_cons, szL_cons, List.length_append]
    split
    · simp only [List.length_nil]; omega
    · rw [tb_length]; omega
theorem tgtL_le (l : List D) : (tgtL l).length ≤ szL l := by
  induction l with
  | nil => exact Nat.zero_le _
  | cons d l ih =>
    rw [tgtL_cons, szL_cons, List.length_append]
    split
    · simp only [List.length_nil]; omega
    · rw [tb_length]; omega
theorem mem_szL {l : List D} {d : D} (h : d ∈ l) : d.t.size ≤ szL l := by
  induction l with
  | nil => simp at h
  | cons e l ih =>
    rw [szL_cons]
    rcases List.mem_cons.1 h with rfl | h
    · omega
    · have := ih h; omega
theorem OkL.of {φ : UInt8 → Prop} {l : List D} {N : Nat} (ho : ∀ d ∈ l, -1 ≤ d.op ∧ d.op ≤ 1) (hb : ∀ d ∈ l, ∀ x ∈ tb d.t, φ x) (hs : szL l ≤ N) : OkL φ l N :=
  ⟨ho, fun _ hd => Nat.le_trans (mem_szL hd) hs, hb, fun i => by
    have h1 := tgtL_le (l.take i)
    have h2 := srcL_le (l.drop i)
    have h3 : szL l = szL (l.take i) + szL (l.drop i) := by rw [← szL_append, List.take_append_drop]
    rw [List.length_append]; omega⟩

theorem mk_start {φ : UInt8 → Prop} {N : Nat} (mar : Nat) {l : List D} (live : Prop) (h : OkL φ l N) : MkInv φ N mar l (srcL l) live 0 [] noP 0 0 (srcL l) (srcL l) :=
  ⟨.nil _, by simp, by simp [noP], Nat.zero_le _, by simp [tgtL_nil], by simp [tgtL_nil], fun _ => ⟨rfl, rfl, rfl⟩, fun h => absurd rfl h, by simp [noP], by simp [noP], by have := h.mid 0; simpa [tgtL_nil] using this, srcL_by h.by_⟩

theorem drop_cons {α : Type} {l : List α} {i : Nat} {d : α} (h : l[i]? = some d) : l.drop i = d :: l.drop (i + 1) := by
  obtain ⟨hi, rfl⟩ := List.getElem?_eq_some_iff.1 h
  exact List.drop_eq_getElem_cons hi

/-- an edit: the patch as it is behind it -/
def edit (cur : P) (d : D) (c1 c2 : Nat) : P :=
  ⟨cur.ds ++ [d], if cur.ds = [] then c1 else cur.s1, if cur.ds = [] then c2 else cur.s2, cur.l1 + (if d.op = 1 then 0 else (d.t.size : Nat) : Nat), cur.l2 + (if d.op = -1 then 0 else (d.t.size : Nat) : Nat)⟩

section
variable {φ : UInt8 → Prop} {N mar : Nat} {l : List D} {t : List UInt8} {live live' : Prop} {i : Nat} {ps : List P} {cur : P} {c1 c2 : Nat} {pp po : List UInt8} {d : D}

theorem len1 (d : D) : (if d.op = 1 then ([] : List UInt8) else tb d.t).length = if d.op = 1 then 0 else d.t.size := by split <;> simp
theorem len2 (d : D) : (if d.op = -1 then ([] : List UInt8) else tb d.t).length = if d.op = -1 then 0 else d.t.size := by split <;> simp

theorem mk_edit (h : MkInv φ N mar l t live i ps cur c1 c2 pp po) (hl : live) (hd : l[i]? = some d) (ho : d.op = 1 ∨ d.op = -1) :
    MkInv φ N mar l t live' (i + 1) ps (edit cur d c1 c2) (c1 + if d.op = 1 then 0 else d.t.size) (c2 + if d.op = -1 then 0 else d.t.size) pp (tgtL (l.take (i + 1)) ++ srcL (l.drop (i + 1))) ∧
    (d.op = 1 → po.take c2 ++ (tb d.t ++ po.drop c2) = tgtL (l.take (i + 1)) ++ srcL (l.drop (i + 1))) ∧ (d.op = -1 → po.take c2 ++ po.drop (c2 + d.t.size) = tgtL (l.take (i + 1)) ++ srcL (l.drop (i + 1))) ∧ c2 + (if d.op = -1 then d.t.size else 0) ≤ po.length := by
  have hi : i < l.length := (List.getElem?_eq_some_iff.1 hd).1
  have h0 : d.op ≠ 0 := by omega
  have hdr := drop_cons hd
  have hsrc : srcL (l.drop i) = (if d.op = 1 then [] else tb d.t) ++ srcL (l.drop (i + 1)) := by rw [hdr, srcL_cons]
  have htgt : tgtL (l.take (i + 1)) = tgtL (l.take i) ++ (if d.op = -1 then [] else tb d.t) := by rw [take_succ_some hd, tgtL_snoc]
  have hlen1 := len1 d
  have hlen2 := len2 d
  refine ⟨⟨h.done, h.oks, by have := h.psn; simp [edit]; omega, hi, rfl, ?_, fun hn => by simp [edit] at hn, fun _ => ?_, ?_, ?_, h.ppn, h.ppb⟩, ?_, ?_, ?_⟩
  · rw [htgt, List.length_append, hlen2, h.hc2]
  · by_cases hc : cur.ds = []
    · obtain ⟨e1, e2, e3⟩ := h.none_ hc
      subst e1
      refine ⟨⟨d, [], rfl, h0⟩, tgtL (l.take i), srcL (l.drop (i + 1)), ⟨?_, ?_, ?_, ?_, ?_, ?_⟩, ?_⟩
      · rw [e2, h.post, hsrc]; simp [edit, srcL, noP]
      · rw [htgt]; simp [edit, tgtL, noP]
      · simp [edit, noP]; rw [e3, h.hc2]
      · simp [edit, noP]; rw [h.hc2]
      · simp only [edit, noP, List.nil_append, srcL_cons, srcL_nil, List.append_nil]; rw [hlen1]; simp
      · simp only [edit, noP, List.nil_append, tgtL_cons, tgtL_nil, List.append_nil]; rw [hlen2]; simp
      · intro _
        simp only [edit, noP, List.nil_append, srcL_cons, srcL_nil, tgtL_cons, tgtL_nil, List.append_nil]
        rw [hlen1, hlen2, e3, h.hc2]
        simp
    · obtain ⟨⟨d0, r0, hd0, hop0⟩, a, b, ⟨e1, e2, e3, e4, e5, e6⟩, e7⟩ := h.some_ hc
      obtain ⟨e7, e8, e9⟩ := e7 hl
      have hpo : a ++ tgtL cur.ds = tgtL (l.take i) := by
        have hp := h.post
        rw [e2, e9, ← List.append_assoc] at hp
        exact List.append_cancel_right hp
      refine ⟨⟨d0, r0 ++ [d], by simp [edit, hd0], hop0⟩, a, srcL (l.drop (i + 1)), ⟨?_, ?_, ?_, ?_, ?_, ?_⟩, ?_⟩
      · rw [e1, e9, hsrc]; simp only [edit, srcL_append, srcL_cons, srcL_nil, List.append_nil, List.append_assoc]
      · rw [htgt, ← hpo]; simp only [edit, tgtL_append, tgtL_cons, tgtL_nil, List.append_nil, List.append_assoc]
      · simp only [edit]; rw [if_neg hc, e3]
      · simp only [edit]; rw [if_neg hc, e4]
      · simp only [edit, srcL_append, srcL_cons, srcL_nil, List.append_nil, List.length_append]; rw [hlen1, e5]; simp
      · simp only [edit, tgtL_append, tgtL_cons, tgtL_nil, List.append_nil, List.length_append]; rw [hlen2, e6]; simp
      · intro _
        simp only [edit, srcL_append, srcL_cons, srcL_nil, tgtL_append, tgtL_cons, tgtL_nil, List.append_nil, List.length_append]
        rw [hlen1, hlen2]
        exact ⟨by omega, by omega, trivial⟩
  · intro x hx
    simp only [edit, List.mem_append, List.mem_singleton] at hx
    rcases hx with hx | rfl
    · exact h.cop x hx
    · exact List.mem_of_getElem? hd
  · rw [take_succ_some hd]
    constructor
    · rintro ⟨_, h2⟩; simp [edit] at h2
    · intro h2; exact absurd (h2 d (by simp)) h0
  · intro h1
    rw [h.post, h.hc2, hsrc, htgt, if_pos h1, if_neg (by omega)]
    simp
  · intro h1
    rw [h.post, h.hc2, hsrc, htgt, if_neg (by omega), if_pos h1]
    rw [List.take_left, ← tb_length d.t, ← List.length_append, ← List.append_assoc, List.drop_left]
    simp
  · rw [h.post, h.hc2, hsrc]
    split
    · rename_i h1; rw [if_neg (by omega)]; simp
    · simp

theorem eq_parts (hd : l[i]? = some d) (ho : d.op = 0) : srcL (l.drop i) = tb d.t ++ srcL (l.drop (i + 1)) ∧ tgtL (l.take (i + 1)) = tgtL (l.take i) ++ tb d.t := by
  constructor
  · rw [drop_cons hd, srcL_cons, if_neg (by omega)]
  · rw [take_succ_some hd, tgtL_snoc, if_neg (by omega)]

theorem eq_ed (hd : l[i]? = some d) (ho : d.op = 0) : (∀ x ∈ l.take (i + 1), x.op = 0) ↔ ∀ x ∈ l.take i, x.op = 0 := by
  rw [take_succ_some hd]
  constructor
  · intro h x hx; exact h x (List.mem_append_left _ hx)
  · intro h x hx
    rcases List.mem_append.1 hx with hx | hx
    · exact h x hx
    · rw [List.mem_singleton.1 hx]; exact ho

/-- an equality that is left out -/
theorem mk_skip (h : MkInv φ N mar l t live i ps cur c1 c2 pp po) (hd : l[i]? = some d) (ho : d.op = 0) (hc : cur.ds = [] ∨ ¬ live') :
    MkInv φ N mar l t live' (i + 1) ps cur (c1 + d.t.size) (c2 + d.t.size) pp po := by
  have hi : i < l.length := (List.getElem?_eq_some_iff.1 hd).1
  obtain ⟨hsrc, htgt⟩ := eq_parts hd ho
  refine ⟨h.done, h.oks, by have := h.psn; omega, hi, ?_, ?_, fun hn => ?_, fun hn => ?_, h.cop, ?_, h.ppn, h.ppb⟩
  · rw [h.post, hsrc, htgt, List.append_assoc]
  · rw [htgt, h.hc2, List.length_append, tb_length]
  · obtain ⟨a1, a2, a3⟩ := h.none_ hn
    exact ⟨a1, a2, by omega⟩
  · obtain ⟨a1, a, b, a2, _⟩ := h.some_ hn
    exact ⟨a1, a, b, a2, fun hl => by rcases hc with hc | hc <;> contradiction⟩
  · rw [h.ed, eq_ed hd ho]

/-- a patch with an equality more -/
def app (cur : P) (d : D) : P := ⟨cur.ds ++ [d], cur.s1, cur.s2, cur.l1 + d.t.size, cur.l2 + d.t.size⟩

theorem mk_app (h : MkInv φ N mar l t live i ps cur c1 c2 pp po) (hl : live) (hd : l[i]? = some d) (ho : d.op = 0) (hc : cur.ds ≠ []) :
    MkInv φ N mar l t live' (i + 1) ps (app cur d) (c1 + d.t.size) (c2 + d.t.size) pp po := by
  have hi : i < l.length := (List.getElem?_eq_some_iff.1 hd).1
  obtain ⟨hsrc, htgt⟩ := eq_parts hd ho
  refine ⟨h.done, h.oks, by have := h.psn; simp [app]; omega, hi, ?_, ?_, fun hn => by simp [app] at hn, fun _ => ?_, ?_, ?_, h.ppn, h.ppb⟩
  · rw [h.post, hsrc, htgt, List.append_assoc]
  · rw [htgt, h.hc2, List.length_append, tb_length]
  · obtain ⟨⟨d0, r0, hd0, hop0⟩, a, b, ⟨e1, e2, e3, e4, e5, e6⟩, e7⟩ := h.some_ hc
    obtain ⟨e7, e8, e9⟩ := e7 hl
    refine ⟨⟨d0, r0 ++ [d], by simp [app, hd0], hop0⟩, a, srcL (l.drop (i + 1)), ⟨?_, ?_, e3, e4, ?_, ?_⟩, fun _ => ⟨?_, ?_, rfl⟩⟩
    · rw [e1, e9, hsrc]; simp [app, srcL_append, srcL_cons, srcL_nil, ho]
    · rw [e2, e9, hsrc]; simp [app, tgtL_append, tgtL_cons, tgtL_nil, ho]
    · simp [app, srcL_append, srcL_cons, srcL_nil, ho, e5]
    · simp [app, tgtL_append, tgtL_cons, tgtL_nil, ho, e6]
    · simp [app, srcL_append, srcL_cons, srcL_nil, ho]; omega
    · simp [app, tgtL_append, tgtL_cons, tgtL_nil, ho]; omega
  · intro x hx
    simp only [app, List.mem_append, List.mem_singleton] at hx
    rcases hx with hx | rfl
    · exact h.cop x hx
    · exact List.mem_of_getElem? hd
  · rw [eq_ed hd ho, ← h.ed]
    simp [app, hc]

/-- a patch with context -/
def ctxP (cur : P) (pre suf : ByteArray) : P := ⟨sufD (preD pre cur.ds) suf, cur.s1 - pre.size, cur.s2 - pre.size, cur.l1 + (pre.size + suf.size), cur.l2 + (pre.size + suf.size)⟩

theorem srcL_pre (pre : ByteArray) (ds : List D) : srcL (preD pre ds) = tb pre ++ srcL ds := by
  unfold preD
  split
  · have : tb pre = [] := List.length_eq_zero_iff.1 (by rw [tb_length]; assumption)
    rw [this]; rfl
  · rw [srcL_cons]; simp
theorem tgtL_pre (pre : ByteArray) (ds : List D) : tgtL (preD pre ds) = tb pre ++ tgtL ds := by
  unfold preD
  split
  · have : tb pre = [] := List.length_eq_zero_iff.1 (by rw [tb_length]; assumption)
    rw [this]; rfl
  · rw [tgtL_cons]; simp
theorem srcL_suf (suf : ByteArray) (ds : List D) : srcL (sufD ds suf) = srcL ds ++ tb suf := by
  unfold sufD
  split
  · have : tb suf = [] := List.length_eq_zero_iff.1 (by rw [tb_length]; assumption)
    rw [this, List.append_nil]
  · rw [srcL_snoc]; simp
theorem tgtL_suf (suf : ByteArray) (ds : List D) : tgtL (sufD ds suf) = tgtL ds ++ tb suf := by
  unfold sufD
  split
  · have : tb suf = [] := List.length_eq_zero_iff.1 (by rw [tb_length]; assumption)
    rw [this, List.append_nil]
  · rw [tgtL_snoc]; simp
theorem mem_ctx {pre suf : ByteArray} {ds : List D} {x : D} (h : x ∈ sufD (preD pre ds) suf) : x ∈ ds ∨ x = ⟨0, pre⟩ ∨ x = ⟨0, suf⟩ := by
  unfold sufD at h
  split at h
  · unfold preD at h
    split at h
    · exact .inl h
    · rcases List.mem_cons.1 h with h | h
      · exact .inr (.inl h)
      · exact .inl h
  · rcases List.mem_append.1 h with h | h
    · unfold preD at h
      split at h
      · exact .inl h
      · rcases List.mem_cons.1 h with h | h
        · exact .inr (.inl h)
        · exact .inl h
    · exact .inr (.inr (List.mem_singleton.1 h))
theorem len_ctx (pre suf : ByteArray) (ds : List D) : (sufD (preD pre ds) suf).length ≤ ds.length + 2 := by
  unfold sufD preD
  split <;> split <;> simp

theorem stands_ctx {a b : List UInt8} (h : CurAt cur a b pp po) (hm : 1 ≤ mar) {pre suf : ByteArray} {q : Nat} (hq : mar ≤ q) (hc : cur.ds ≠ [])
    (hp : tb pre = (pp.take a.length).drop (a.length - q)) (hs : tb suf = (pp.take (a.length + (srcL cur.ds).length + q)).drop (a.length + (srcL cur.ds).length)) :
    ∃ a' b', CurAt (ctxP cur pre suf) a' b' pp po ∧ Stands mar (ctxP cur pre suf) a' b' := by
  have hp' : tb pre = a.drop (a.length - q) := by rw [hp, h.pp, List.take_left]
  have hs' : tb suf = b.take q := by
    rw [hs, h.pp, ← List.append_assoc, ← List.length_append, List.take_append, List.drop_append]
    simp
  have hpl : pre.size = a.length - (a.length - q) := by rw [← tb_length, hp', List.length_drop]
  have ha : a = a.take (a.length - q) ++ tb pre := by rw [hp', List.take_append_drop]
  have hb : b = tb suf ++ b.drop q := by rw [hs', List.take_append_drop]
  have hcur : CurAt (ctxP cur pre suf) (a.take (a.length - q)) (b.drop q) pp po := by
    refine ⟨?_, ?_, ?_, ?_, ?_, ?_⟩
    · rw [h.pp]
      simp only [ctxP, srcL_suf, srcL_pre]
      conv => lhs; rw [ha, hb]
      simp
    · rw [h.po]
      simp only [ctxP, tgtL_suf, tgtL_pre]
      conv => lhs; rw [ha, hb]
      simp
    · simp only [ctxP]; rw [h.s1, List.length_take]; omega
    · simp only [ctxP]; rw [h.s2, List.length_take]; omega
    · simp only [ctxP]; rw [h.l1, srcL_suf, srcL_pre, List.length_append, List.length_append, tb_length, tb_length]; omega
    · simp only [ctxP]; rw [h.l2, tgtL_suf, tgtL_pre, List.length_append, List.length_append, tb_length, tb_length]; omega
  refine ⟨_, _, hcur, hcur.s1, hcur.s2, hcur.l1, hcur.l2, ?_, ?_, ?_⟩
  · show sufD (preD pre cur.ds) suf ≠ []
    unfold sufD preD
    split <;> split <;> simp [hc]
  · intro x r hx hcond
    apply List.length_eq_zero_iff.1
    rw [List.length_take]
    by_cases hp0 : pre.size = 0
    · omega
    · have : x = ⟨0, pre⟩ := by
        have hx' : sufD (preD pre cur.ds) suf = x :: r := hx
        rw [preD, if_neg hp0] at hx'
        unfold sufD at hx'
        split at hx' <;> · simp at hx'; exact hx'.1.symm
      subst this
      simp at hcond
      omega
  · intro x r hx hcond
    apply List.length_eq_zero_iff.1
    rw [List.length_drop]
    have hsl : suf.size = min q b.length := by rw [← tb_length, hs', List.length_take]
    by_cases hs0 : suf.size = 0
    · omega
    · have : x = ⟨0, suf⟩ := by
        have hx' : sufD (preD pre cur.ds) suf = r ++ [x] := hx
        rw [sufD, if_neg hs0] at hx'
        have := (List.append_inj' hx' rfl).2
        simp at this
        exact this.symm
      subst this
      simp at hcond
      omega

theorem mk_close (hL : OkL φ l N) (h : MkInv φ N mar l t live i ps cur c1 c2 pp po) (hc : cur.ds ≠ []) (hm : 1 ≤ mar) {pre suf : ByteArray} {q : Nat} (hq : mar ≤ q)
    {n1 n2 : Nat} (hn1 : cur.s2 = n1) (hn2 : cur.l1 = n2)
    (hp : tb pre = (pp.take n1).drop (n1 - q)) (hs : tb suf = (pp.take (n1 + n2 + q)).drop (n1 + n2)) :
    MkInv φ N mar l t live' i (ps ++ [ctxP cur pre suf]) noP c2 c2 po po := by
  obtain ⟨_, a, b, hcur, _⟩ := h.some_ hc
  have ea : n1 = a.length := by have := hcur.s2; omega
  have eb : n2 = (srcL cur.ds).length := by have := hcur.l1; omega
  subst ea eb
  obtain ⟨a', b', hcx, hst⟩ := stands_ctx hcur hm hq hc hp hs
  have hpon : po.length ≤ N := by rw [h.post]; exact hL.mid i
  have hcl : 0 < cur.ds.length := List.length_pos_iff.2 hc
  have hpre : ∀ x ∈ tb pre, x ∈ pp := fun x hx => by rw [hp] at hx; exact List.mem_of_mem_take (List.mem_of_mem_drop hx)
  have hsuf : ∀ x ∈ tb suf, x ∈ pp := fun x hx => by rw [hs] at hx; exact List.mem_of_mem_take (List.mem_of_mem_drop hx)
  have hprn : pre.size ≤ pp.length := by rw [← tb_length, hp, List.length_drop, List.length_take]; omega
  have hsun : suf.size ≤ pp.length := by rw [← tb_length, hs, List.length_drop, List.length_take]; omega
  have hppn := h.ppn
  refine ⟨?_, ?_, by have := h.psn; simp [noP]; omega, h.il, h.post, h.hc2, fun _ => ⟨rfl, rfl, rfl⟩, fun hn => absurd rfl hn, by simp [noP], ?_, hpon, ?_⟩
  · rw [hcx.po]
    exact h.done.snoc hst hcx.pp
  · intro p hp'
    rcases List.mem_append.1 hp' with hp' | hp'
    · exact h.oks p hp'
    · rw [List.mem_singleton.1 hp']
      have hlen := len_ctx pre suf cur.ds
      have hpsn := h.psn
      have hil := h.il
      have e1 := congrArg List.length hcx.pp
      have e2 := congrArg List.length hcx.po
      simp only [List.length_append] at e1 e2
      have f1 := hcx.s1
      have f2 := hcx.s2
      have f3 := hcx.l1
      have f4 := hcx.l2
      have k1 : (ctxP cur pre suf).s1 = a'.length := f1
      have k2 : (srcL (ctxP cur pre suf).ds).length ≤ N := by omega
      have k3 : (tgtL (ctxP cur pre suf).ds).length ≤ N := by omega
      have k4 : a'.length ≤ N := by omega
      refine ⟨by show (sufD (preD pre cur.ds) suf).length ≤ _; omega, ?_, ?_, ?_, by rw [f1, f2, f3, f4]; omega⟩
      · intro x hx
        rcases mem_ctx hx with hx | rfl | rfl
        · exact hL.op x (h.cop x hx)
        · exact ⟨by show (-1 : Int) ≤ 0; omega, by show (0 : Int) ≤ 1; omega⟩
        · exact ⟨by show (-1 : Int) ≤ 0; omega, by show (0 : Int) ≤ 1; omega⟩
      · intro x hx
        rcases mem_ctx hx with hx | rfl | rfl
        · exact hL.sz x (h.cop x hx)
        · show pre.size ≤ N; omega
        · show suf.size ≤ N; omega
      · intro x hx
        rcases mem_ctx hx with hx | rfl | rfl
        · exact hL.by_ x (h.cop x hx)
        · exact fun y hy => h.ppb y (hpre y hy)
        · exact fun y hy => h.ppb y (hsuf y hy)
  · constructor
    · rintro ⟨h1, _⟩; simp at h1
    · intro h1; exact absurd (h.ed.2 h1).2 hc
  · intro x hx
    rw [h.post] at hx
    rcases List.mem_append.1 hx with hx | hx
    · exact tgtL_by (fun d hd => hL.by_ d (List.mem_of_mem_take hd)) x hx
    · exact srcL_by (fun d hd => hL.by_ d (List.mem_of_mem_drop hd)) x hx

/-- all done: the patches lead from the source to the target -/
theorem mk_end (h : MkInv φ N mar l t live l.length ps cur c1 c2 pp po) (hc : cur.ds = []) : Placed mar t ps (tgtL l) ∧ (∀ p ∈ ps, OkP φ l.length N p) ∧ ps.length ≤ l.length ∧ (ps = [] ↔ ∀ d ∈ l, d.op = 0) := by
  obtain ⟨_, e, _⟩ := h.none_ hc
  have hp := h.post
  rw [List.take_length, List.drop_length, srcL_nil, List.append_nil] at hp
  have hd := h.done
  rw [e, hp] at hd
  refine ⟨hd, h.oks, by have := h.psn; omega, ?_⟩
  have := h.ed
  rw [List.take_length] at this
  rw [← this]
  exact ⟨fun h => ⟨h, hc⟩, fun h => h.1⟩
end
end Go.Proofs.YtjebgfpcmooniaaGreatDoor

namespace Go.Proofs.YtjebgfpcmooniaaGreatDoor
open Go Go.RowKit

set_option maxRecDepth 100000 in
set_option maxHeartbeats 1000000 in
theorem ctx_none (g0 n c : Nat) (ds : List D) (s1 s2 l1 l2 : Int) (t : ByteArray) (gd : Nat) (w : World) (ht : t.size = 0) (hown : OwnL dP 128 2 w 0 (.slice (some ⟨g0, 0, none⟩) n c) ds) :
    Calls Tryz.prog 128 #[.pointer (some ⟨gd, 0, none⟩), .agg #[.slice (some ⟨g0, 0, none⟩) n c, .int .i64 s1, .int .i64 s2, .int .i64 l1, .int .i64 l2], .string t] w fun e w' =>
      e = .returned (.agg #[.slice (some ⟨g0, 0, none⟩) n c, .int .i64 s1, .int .i64 s2, .int .i64 l1, .int .i64 l2]) ∧ OwnL dP 128 2 w' 0 (.slice (some ⟨g0, 0, none⟩) n c) ds ∧ w.grownBy w' (some g0) := by
  have e0 : ((t.size : Int) == 0) = true := by simpa using ht
  clear ht
  go_enter Tryz.func128, Tryz.ntmps128
  go_wp2_with fail
  have hfin : OwnL dP 128 2 ((w.alloc (.cells #[.slice (some ⟨g0, 0, none⟩) n c, .int .i64 s1, .int .i64 s2, .int .i64 l1, .int .i64 l2] 114)).alloc (.cells #[.slice (some ⟨g0, 0, none⟩) n c, .int .i64 s1, .int .i64 s2, .int .i64 l1, .int .i64 l2] 114)) 0 (.slice (some ⟨g0, 0, none⟩) n c) ds ∧ w.grownBy ((w.alloc (.cells #[.slice (some ⟨g0, 0, none⟩) n c, .int .i64 s1, .int .i64 s2, .int .i64 l1, .int .i64 l2] 114)).alloc (.cells #[.slice (some ⟨g0, 0, none⟩) n c, .int .i64 s1, .int .i64 s2, .int .i64 l1, .int .i64 l2] 114)) (some g0) :=
    ⟨(hown.alloc _).alloc _, gb_alloc (gb_alloc (gb_refl _ _) _) _⟩
  have hb := heap_alloc_at (w.alloc (.cells #[.slice (some ⟨g0, 0, none⟩) n c, .int .i64 s1, .int .i64 s2, .int .i64 l1, .int .i64 l2] 114)) (.cells #[.slice (some ⟨g0, 0, none⟩) n c, .int .i64 s1, .int .i64 s2, .int .i64 l1, .int .i64 l2] 114) (w.heap.size + 1) (by simp)
  generalize (w.alloc (.cells #[.slice (some ⟨g0, 0, none⟩) n c, .int .i64 s1, .int .i64 s2, .int .i64 l1, .int .i64 l2] 114)).alloc (.cells #[.slice (some ⟨g0, 0, none⟩) n c, .int .i64 s1, .int .i64 s2, .int .i64 l1, .int .i64 l2] 114) = wF at hb hfin ⊢
  have z0 := blk_cell hb 0
  have z1 := blk_cell hb 1
  have z2 := blk_cell hb 2
  have z3 := blk_cell hb 3
  have z4 := blk_cell hb 4
  simp at z0 z1 z2 z3 z4
  exact bodyPost_ret (v := .agg #[.slice (some ⟨g0, 0, none⟩) n c, .int .i64 s1, .int .i64 s2, .int .i64 l1, .int .i64 l2]) (by simp [results, Tryz.results128, go_sem, z0, z1, z2, z3, z4]) rfl ⟨rfl, hfin.1, hfin.2⟩

set_option maxRecDepth 100000 in
theorem ctx_all (w : World) (gd g0 n c : Nat) (ds : List D) (s1 l2 : Int) (s2 l1 : Nat) (t : ByteArray) (tmo cost dist bits : Int) (mar : Nat) (th de : Nat)
    (hmar0 : 1 ≤ mar) (hmar1 : mar ≤ 8) (hb0 : 32 ≤ bits) (hb1 : bits ≤ 62) (ht1 : t.size ≤ 1000000) (hs : s2 + l1 ≤ t.size) (hs1 : 0 ≤ s1) (hs1' : s1 ≤ 1000000) (hl2 : 0 ≤ l2) (hl2' : l2 ≤ 1000000)
    (hn0 : 0 < n) (hn1 : n ≤ 100000)
    (hdmp : DmpAt w gd tmo cost dist mar bits th de) (hown : OwnL dP 128 2 w 0 (.slice (some ⟨g0, 0, none⟩) n c) ds) :
    Calls Tryz.prog 128 #[.pointer (some ⟨gd, 0, none⟩), .agg #[.slice (some ⟨g0, 0, none⟩) n c, .int .i64 s1, .int .i64 s2, .int .i64 l1, .int .i64 l2], .string t] w (CtxPost w g0 ds s1 l2 s2 l1 t mar) := by
  by_cases h0 : t.size = 0
  · refine (ctx_none g0 n c ds s1 s2 l1 l2 t gd w h0 hown).mono ?_
    rintro e w' ⟨he, ho, hg⟩
    have ht : tb t = [] := List.length_eq_zero_iff.1 (by rw [tb_length]; exact h0)
    refine ⟨g0, n, c, mar, ⟨#[]⟩, ⟨#[]⟩, by rw [he]; simp [ByteArray.size], ?_, .inl rfl, hg, Nat.le_refl _, by rw [ht]; simp [tb], by rw [ht]; simp [tb]⟩
    simpa [preD, sufD, ByteArray.size] using ho
  · exact ctx_any w gd g0 n c ds s1 l2 s2 l1 t tmo cost dist bits mar th de hmar0 hmar1 hb0 hb1 ht1 (by omega) hs hs1 hs1' hl2 hl2' hn0 hn1 hdmp hown
end Go.Proofs.YtjebgfpcmooniaaGreatDoor

namespace Go.Proofs.YtjebgfpcmooniaaGreatDoor
open Go Go.RowKit

/-- a patch as it lies in a row -/
def pvP (x : Value × P) : List Value := [x.1, .int .i64 x.2.s1, .int .i64 x.2.s2, .int .i64 x.2.l1, .int .i64 x.2.l2]
theorem pvP_len (x : Value × P) : (pvP x).length = 5 := rfl
theorem st73 : STy Tryz.prog 73 114 5 56 := STy.mk' (by kernel_rfl) (show _ = some (some (.agg #[.slice none 0 0, .int .i64 0, .int .i64 0, .int .i64 0, .int .i64 0]), 5, 56) from by kernel_rfl) rfl (by omega) (by omega)

theorem OwnL.base_up {α : Type} {f : α → List Value} {e sz : Nat} {w : World} {base base' : Nat} {v : Value} {l : List α} (h : OwnL f e sz w base v l) (hb : ∀ g, v.ownBlock = some g → base' ≤ g) : OwnL f e sz w base' v l := by
  refine ⟨h.1, ?_⟩
  rcases h.2 with hn | ⟨g, cap, cur, hv, _, rest⟩
  · exact .inl hn
  · exact .inr ⟨g, cap, cur, hv, hb g (by rw [hv]; rfl), rest⟩

theorem below_drewN {B : Nat} {a w : World} (h : Below B a w) (n : Nat) : Below B a (w.drewN n) := ⟨h.os, h.tape, h.output, h.size, h.block⟩

/-- a patch's cells -/
def pC (dv : Value) (p : P) : Array Value := #[dv, .int .i64 p.s1, .int .i64 p.s2, .int .i64 p.l1, .int .i64 p.l2]

/-- the world while patches are made: the patch under way lies in the block behind w's last but one -/
structure PW (w wr : World) (v7 dv : Value) (cur : P) (L : List (Value × P)) (m : Nat) (ex : Option (Nat × D)) : Prop where
  bk : wr.heap[w.heap.size + 1]? = some (.cells (pC dv cur) 114 (0, 0))
  own : OwnL dP 128 2 wr w.heap.size dv cur.ds
  pat : OwnL pvP 114 5 wr w.heap.size v7 L
  pne : v7.ownBlock ≠ some (w.heap.size + 1)
  each : ∀ x ∈ L, OwnL dP 128 2 wr w.heap.size x.1 x.2.ds ∧ ∀ g, x.1.ownBlock = some g → g < m
  cm : ∀ g, dv.ownBlock = some g → m ≤ g
  nil_ : cur.ds = [] → dv = .slice none 0 0
  msz : m ≤ wr.heap.size
  bel : Below w.heap.size w wr
  sz : w.heap.size + 1 < wr.heap.size
  ext : ∀ k d, ex = some (k, d) → wr.heap[k]? = some (.cells #[.int .i8 d.op, .string d.t] 128 (0, 0)) ∧ dv.ownBlock ≠ some k ∧ w.heap.size + 1 < k

section
variable {w wr w1 : World} {v7 dv dv' v7' : Value} {cur : P} {L : List (Value × P)} {m : Nat} {ex : Option (Nat × D)}

theorem PW.size (h : PW w wr v7 dv cur L m ex) : w.heap.size ≤ wr.heap.size := h.bel.size

theorem PW.alloc (h : PW w wr v7 dv cur L m ex) (o : Obj) : PW w (wr.alloc o) v7 dv cur L m ex :=
  ⟨(Below.heap_alloc _ _ _ h.sz).trans h.bk, h.own.alloc _, h.pat.alloc _, h.pne, fun x hx => ⟨(h.each x hx).1.alloc _, (h.each x hx).2⟩, h.cm, h.nil_, by have := h.msz; simp; omega, h.bel.alloc h.size _, by have := h.sz; simp; omega,
    fun k d e => by
      obtain ⟨a, b⟩ := h.ext k d e
      exact ⟨(Below.heap_alloc _ _ _ (Array.getElem?_eq_some_iff.1 a).1).trans a, b⟩⟩
theorem PW.drewN (h : PW w wr v7 dv cur L m ex) (n : Nat) : PW w (wr.drewN n) v7 dv cur L m ex :=
  ⟨h.bk, h.own.drewN n, h.pat.drewN n, h.pne, fun x hx => ⟨(h.each x hx).1.drewN n, (h.each x hx).2⟩, h.cm, h.nil_, h.msz, below_drewN h.bel n, h.sz, h.ext⟩
theorem PW.drop (h : PW w wr v7 dv cur L m ex) : PW w wr v7 dv cur L m none :=
  ⟨h.bk, h.own, h.pat, h.pne, h.each, h.cm, h.nil_, h.msz, h.bel, h.sz, fun _ _ e => by cases e⟩
/-- a part is looked at: its copy -/
theorem PW.enter (h : PW w wr v7 dv cur L m none) (d : D) : PW w (wr.alloc (.cells #[.int .i8 d.op, .string d.t] 128)) v7 dv cur L m (some (wr.heap.size, d)) :=
  let h' := h.alloc (.cells #[.int .i8 d.op, .string d.t] 128)
  ⟨h'.bk, h'.own, h'.pat, h'.pne, h'.each, h'.cm, h'.nil_, h'.msz, h'.bel, h'.sz, fun k x e => by
    injection e with e
    injection e with e1 e2
    subst e1 e2
    exact ⟨heap_alloc_new _ _, h.own.ne_new, h.sz⟩⟩

theorem PW.enter' (h : PW w wr v7 dv cur L m none) (d : D) {k : Nat} (hk : k = wr.heap.size) : PW w (wr.alloc (.cells #[.int .i8 d.op, .string d.t] 128)) v7 dv cur L m (some (k, d)) := hk ▸ h.enter d

/-- a store into the patch under way -/
theorem PW.store (h : PW w wr v7 dv cur L m ex) (i : Nat) (u : Value) (cur' : P) (hc : (pC dv cur).setIfInBounds i u = pC dv cur') (hd : cur'.ds = cur.ds) :
    PW w (wr.setCell ⟨w.heap.size + 1, i, none⟩ u) v7 dv cur' L m ex := by
  have t1 := own_block_ty h.own h.bk (by omega)
  refine ⟨by rw [blk_set h.bk i u, hc], by rw [hd]; exact h.own.setCell_other t1 u, h.pat.setCell_other h.pne u, h.pne, fun x hx => ⟨(h.each x hx).1.setCell_other (own_block_ty (h.each x hx).1 h.bk (by omega)) u, (h.each x hx).2⟩, h.cm, by rw [hd]; exact h.nil_, by simpa [World.setCell] using h.msz, h.bel.setCell (by simp) u, by simpa [World.setCell] using h.sz, ?_⟩
  intro k d e
  obtain ⟨a, b1, b2⟩ := h.ext k d e
  exact ⟨blk_far a (by simp; omega) u, b1, b2⟩
theorem PW.n1 (h : PW w wr v7 dv cur L m ex) (x : Int) : PW w (wr.setCell ⟨w.heap.size + 1, 1, none⟩ (.int .i64 x)) v7 dv ⟨cur.ds, x, cur.s2, cur.l1, cur.l2⟩ L m ex := h.store _ _ _ (by simp [pC]) rfl
theorem PW.n2 (h : PW w wr v7 dv cur L m ex) (x : Int) : PW w (wr.setCell ⟨w.heap.size + 1, 2, none⟩ (.int .i64 x)) v7 dv ⟨cur.ds, cur.s1, x, cur.l1, cur.l2⟩ L m ex := h.store _ _ _ (by simp [pC]) rfl
theorem PW.n3 (h : PW w wr v7 dv cur L m ex) (x : Int) : PW w (wr.setCell ⟨w.heap.size + 1, 3, none⟩ (.int .i64 x)) v7 dv ⟨cur.ds, cur.s1, cur.s2, x, cur.l2⟩ L m ex := h.store _ _ _ (by simp [pC]) rfl
theorem PW.n4 (h : PW w wr v7 dv cur L m ex) (x : Int) : PW w (wr.setCell ⟨w.heap.size + 1, 4, none⟩ (.int .i64 x)) v7 dv ⟨cur.ds, cur.s1, cur.s2, cur.l1, x⟩ L m ex := h.store _ _ _ (by simp [pC]) rfl

/-- another row in the patch under way, written by a change that keeps all else -/
theorem PW.turn (h : PW w wr v7 dv cur L m ex) (hg : wr.grownBy w1 dv.ownBlock) {ds' : List D} (hown : OwnL dP 128 2 w1 w.heap.size dv' ds') (hne : ds' ≠ []) (hb : dv'.ownBlock = dv.ownBlock ∨ ∀ g, dv'.ownBlock = some g → wr.heap.size ≤ g) :
    PW w (w1.setCell ⟨w.heap.size + 1, 0, none⟩ dv') v7 dv' ⟨ds', cur.s1, cur.s2, cur.l1, cur.l2⟩ L m ex := by
  have t0 := own_block_ty h.own h.bk (by omega)
  have b1 := gb_heap hg (i := w.heap.size + 1) h.sz (fun e => t0 e.symm) h.bk
  have t1 := own_block_ty hown b1 (by omega)
  have hwb : Below w.heap.size wr w1 := below_of_gb hg h.size (fun g e => (h.own.lt g e).1)
  have hk : ∀ k, (∀ g, dv.ownBlock = some g → k ≠ g) → k < wr.heap.size → w1.heap[k]? = wr.heap[k]? := fun k hk hks => hg.block k hks (fun e => hk k e.symm rfl)
  have hm := h.msz
  refine ⟨by rw [blk_set b1 0 dv']; simp [pC], hown.setCell_other t1 _, ?_, h.pne, ?_, ?_, fun e => absurd e hne, ?_, (h.bel.trans hwb).setCell (by simp) _, ?_, ?_⟩
  · have hne2 := own_ne h.pat h.own (by omega)
    exact (h.pat.kept hg hne2).setCell_other h.pne _
  · intro x hx
    obtain ⟨a, b⟩ := h.each x hx
    refine ⟨?_, b⟩
    have a1 : OwnL dP 128 2 w1 w.heap.size x.1 x.2.ds := a.kept hg (by
      by_cases hn : x.1.ownBlock = none
      · exact .inl hn
      · refine .inr fun e => ?_
        obtain ⟨g, hgx⟩ := Option.ne_none_iff_exists'.1 hn
        have k1 := b g hgx
        have k2 := h.cm g (by rw [← e]; exact hgx)
        omega)
    exact a1.setCell_other (own_block_ty a1 b1 (by omega)) _
  · intro g e
    rcases hb with hb | hb
    · exact h.cm g (by rw [← hb]; exact e)
    · have := hb g e; omega
  · have := hg.size; simp [World.setCell]; omega
  · have := hg.size; have := h.sz; simp [World.setCell]; omega
  · intro k d e
    obtain ⟨a, b1, b2⟩ := h.ext k d e
    have hks := (Array.getElem?_eq_some_iff.1 a).1
    refine ⟨blk_far ((hk k (fun g eg => fun ek => b1 (by rw [eg, ek])) hks).trans a) (by simp; omega) _, ?_, b2⟩
    rcases hb with hb | hb
    · rw [hb]; exact b1
    · intro e2
      have := hb k e2
      omega

/-- the patch goes into the row of patches, and the next one begins -/
theorem PW.close (h : PW w wr v7 dv cur L m ex) (hg : wr.grownBy w1 v7.ownBlock) (hown : OwnL pvP 114 5 w1 w.heap.size v7' (L ++ [(dv, cur)])) (hb : v7'.ownBlock = v7.ownBlock ∨ ∀ g, v7'.ownBlock = some g → wr.heap.size ≤ g) :
    PW w (stR w1 (w.heap.size + 1) (.slice none 0 0) 0 0 0 0) v7' (.slice none 0 0) noP (L ++ [(dv, cur)]) w1.heap.size ex := by
  have b1 := gb_heap hg (i := w.heap.size + 1) h.sz (fun e => h.pne e.symm) h.bk
  have hwb : Below w.heap.size wr w1 := below_of_gb hg h.size (fun g e => (h.pat.lt g e).1)
  have hne : v7'.ownBlock ≠ some (w.heap.size + 1) := by
    rcases hb with hb | hb
    · rw [hb]; exact h.pne
    · intro e; have := hb _ e; have := h.sz; omega
  have hs1 := hg.size
  have hsz := h.sz
  have own1 : ∀ x ∈ L ++ [(dv, cur)], OwnL dP 128 2 w1 w.heap.size x.1 x.2.ds := by
    intro x hx
    rcases List.mem_append.1 hx with hx | hx
    · exact (h.each x hx).1.kept hg (own_ne (h.each x hx).1 h.pat (by omega))
    · rw [List.mem_singleton.1 hx]
      exact h.own.kept hg (own_ne h.own h.pat (by omega))
  unfold stR
  refine ⟨?_, OwnL.nil _ _, ?_, hne, ?_, fun g e => by simp [Value.ownBlock] at e, fun _ => rfl, by simp [World.setCell], ?_, by simp [World.setCell]; omega, ?_⟩
  · have e2 := blk_set (blk_set (blk_set (blk_set (blk_set b1 0 (.slice none 0 0)) 1 (.int .i64 0)) 2 (.int .i64 0)) 3 (.int .i64 0)) 4 (.int .i64 0)
    simpa [pC, noP] using e2
  · exact ((((hown.setCell_other hne _).setCell_other hne _).setCell_other hne _).setCell_other hne _).setCell_other hne _
  · intro x hx
    have o := own1 x hx
    have t := own_block_ty o b1 (by omega)
    exact ⟨((((o.setCell_other t _).setCell_other t _).setCell_other t _).setCell_other t _).setCell_other t _, fun g e => (o.lt g e).2⟩
  · exact (((((h.bel.trans hwb).setCell (by simp) _).setCell (by simp) _).setCell (by simp) _).setCell (by simp) _).setCell (by simp) _
  · intro k d e
    obtain ⟨a, b1', b2⟩ := h.ext k d e
    have hks := (Array.getElem?_eq_some_iff.1 a).1
    have a1 : w1.heap[k]? = some (.cells #[.int .i8 d.op, .string d.t] 128 (0, 0)) := gb_heap hg hks (fun e => own_block_ty h.pat a (by omega) e.symm) a
    have hf : k ≠ w.heap.size + 1 := by omega
    exact ⟨blk_far (blk_far (blk_far (blk_far (blk_far a1 (by simpa using hf) _) (by simpa using hf) _) (by simpa using hf) _) (by simpa using hf) _) (by simpa using hf) _, by simp [Value.ownBlock], b2⟩

/-- the patch gets its context -/
theorem PW.ctx {g0 n c : Nat} (h : PW w wr v7 (.slice (some ⟨g0, 0, none⟩) n c) cur L m ex) (hg : wr.grownBy w1 (some g0)) {g' n' c' : Nat} {cur' : P} (hown : OwnL dP 128 2 w1 0 (.slice (some ⟨g', 0, none⟩) n' c') cur'.ds) (hne : cur'.ds ≠ []) (hb : g' = g0 ∨ wr.heap.size ≤ g') :
    PW w (stR w1 (w.heap.size + 1) (.slice (some ⟨g', 0, none⟩) n' c') cur'.s1 cur'.s2 cur'.l1 cur'.l2) v7 (.slice (some ⟨g', 0, none⟩) n' c') cur' L m ex := by
  have hlt := h.own.lt g0 rfl
  have hsz := h.sz
  have hbase : OwnL dP 128 2 w1 w.heap.size (.slice (some ⟨g', 0, none⟩) n' c') cur'.ds := hown.base_up (fun g e => by
    have : g' = g := by simpa [Value.ownBlock] using e
    omega)
  have h1 := h.turn hg hbase hne (by
    rcases hb with rfl | hb
    · exact .inl rfl
    · refine .inr fun g e => ?_
      have : g' = g := by simpa [Value.ownBlock] using e
      omega)
  exact (((h1.n1 cur'.s1).n2 cur'.s2).n3 cur'.l1).n4 cur'.l2
end
end Go.Proofs.YtjebgfpcmooniaaGreatDoor

namespace Go.Proofs.YtjebgfpcmooniaaGreatDoor
open Go Go.RowKit

theorem mk_bounds {φ : UInt8 → Prop} {N mar : Nat} {l : List D} {t : List UInt8} {live : Prop} {i : Nat} {ps : List P} {cur : P} {c1 c2 : Nat} {pp po : List UInt8} (hL : OkL φ l N) (h : MkInv φ N mar l t live i ps cur c1 c2 pp po) :
    c2 ≤ po.length ∧ po.length ≤ N ∧ pp.length ≤ N ∧ cur.ds.length ≤ l.length ∧ ps.length ≤ l.length ∧ (0 ≤ cur.s1 ∧ cur.s1 ≤ N) ∧ (0 ≤ cur.s2 ∧ cur.s2 ≤ N) ∧ (0 ≤ cur.l1 ∧ cur.l1 ≤ N) ∧ (0 ≤ cur.l2 ∧ cur.l2 ≤ N) ∧ cur.s2 + cur.l1 ≤ pp.length := by
  have hpo : po.length ≤ N := by rw [h.post]; exact hL.mid i
  have hc2 : c2 ≤ po.length := by rw [h.post, h.hc2, List.length_append]; omega
  have h1 := h.ppn
  have h2 := h.psn
  have h3 := h.il
  by_cases hc : cur.ds = []
  · obtain ⟨e1, e2, e3⟩ := h.none_ hc
    subst e1
    refine ⟨hc2, hpo, h1, by omega, by omega, ?_⟩
    simp [noP]
  · obtain ⟨_, a, b, hcur, _⟩ := h.some_ hc
    have e1 := congrArg List.length hcur.pp
    have e2 := congrArg List.length hcur.po
    simp only [List.length_append] at e1 e2
    refine ⟨hc2, hpo, h1, by omega, by omega, ?_⟩
    rw [hcur.s1, hcur.s2, hcur.l1, hcur.l2]
    omega
theorem mk_c1 {φ : UInt8 → Prop} {N mar : Nat} {l : List D} {t : List UInt8} {live : Prop} {i : Nat} {ps : List P} {cur : P} {c1 c2 : Nat} {pp po : List UInt8} (hL : OkL φ l N) (h : MkInv φ N mar l t live i ps cur c1 c2 pp po) (hl : live) : c1 ≤ N := by
  have hb := mk_bounds hL h
  by_cases hc : cur.ds = []
  · obtain ⟨e1, e2, e3⟩ := h.none_ hc
    omega
  · obtain ⟨_, a, b, hcur, hlive⟩ := h.some_ hc
    obtain ⟨f1, f2, f3⟩ := hlive hl
    have e1 := congrArg List.length hcur.pp
    simp only [List.length_append] at e1
    omega

theorem PW.after {w wr w1 : World} {v7 dv : Value} {cur : P} {L : List (Value × P)} {m k : Nat} {d : D} (h : PW w wr v7 dv cur L m (some (k, d))) (hg : wr.grownBy w1 dv.ownBlock) :
    w1.heap[w.heap.size + 1]? = some (.cells (pC dv cur) 114 (0, 0)) ∧ w1.heap[k]? = some (.cells #[.int .i8 d.op, .string d.t] 128 (0, 0)) := by
  obtain ⟨a, b1, b2⟩ := h.ext k d rfl
  exact ⟨gb_heap hg h.sz (fun e => own_block_ty h.own h.bk (by omega) e.symm) h.bk, gb_heap hg (Array.getElem?_eq_some_iff.1 a).1 (fun e => b1 e.symm) a⟩

/-- the patch under way, its beginning told, if it begins here -/
def begun (cur : P) (op : Int) (c1 c2 : Nat) : P := if cur.ds = [] ∧ op ≠ 0 then ⟨cur.ds, c1, c2, cur.l1, cur.l2⟩ else cur

theorem begun_ds (cur : P) (op : Int) (c1 c2 : Nat) : (begun cur op c1 c2).ds = cur.ds := by unfold begun; split <;> rfl
theorem begun_l1 (cur : P) (op : Int) (c1 c2 : Nat) : (begun cur op c1 c2).l1 = cur.l1 := by unfold begun; split <;> rfl
theorem begun_l2 (cur : P) (op : Int) (c1 c2 : Nat) : (begun cur op c1 c2).l2 = cur.l2 := by unfold begun; split <;> rfl
theorem begun_ins (cur : P) (tx : ByteArray) (c1 c2 : Nat) : edit cur ⟨1, tx⟩ c1 c2 = ⟨(begun cur 1 c1 c2).ds ++ [⟨1, tx⟩], (begun cur 1 c1 c2).s1, (begun cur 1 c1 c2).s2, (begun cur 1 c1 c2).l1, (begun cur 1 c1 c2).l2 + (tx.size : Nat)⟩ := by
  unfold begun edit
  by_cases h : cur.ds = [] <;> simp [h]
theorem begun_del (cur : P) (tx : ByteArray) (c1 c2 : Nat) : edit cur ⟨-1, tx⟩ c1 c2 = ⟨(begun cur (-1) c1 c2).ds ++ [⟨-1, tx⟩], (begun cur (-1) c1 c2).s1, (begun cur (-1) c1 c2).s2, (begun cur (-1) c1 c2).l1 + (tx.size : Nat), (begun cur (-1) c1 c2).l2⟩ := by
  unfold begun edit
  by_cases h : cur.ds = [] <;> simp [h]

section
variable {φ : UInt8 → Prop} {N mar : Nat} {l : List D} {t : List UInt8} {live live' : Prop} {k : Nat} {ps : List P} {cur : P} {c1 c2 : Nat} {T1 T2 tx : ByteArray}
theorem tb_all (T : ByteArray) : (tb T).take T.size = tb T := List.take_of_length_le (by rw [tb_length]; exact Nat.le_refl _)
theorem mk_ins (h : MkInv φ N mar l t live k ps cur c1 c2 (tb T1) (tb T2)) (hl : live) (hd : l[k]? = some ⟨1, tx⟩) :
    MkInv φ N mar l t live' (k + 1) ps ⟨(begun cur 1 c1 c2).ds ++ [⟨1, tx⟩], (begun cur 1 c1 c2).s1, (begun cur 1 c1 c2).s2, (begun cur 1 c1 c2).l1, (begun cur 1 c1 c2).l2 + (tx.size : Nat)⟩ c1 (c2 + tx.size) (tb T1) (tb (T2.extract 0 c2 ++ tx ++ T2.extract c2 T2.size)) := by
  obtain ⟨a, b, _, _⟩ := mk_edit (live' := live') h hl hd (.inl rfl)
  have e : tb (T2.extract 0 c2 ++ tx ++ T2.extract c2 T2.size) = tgtL (l.take (k + 1)) ++ srcL (l.drop (k + 1)) := by
    rw [← b rfl, tb_append, tb_append, tb_extract, tb_extract, List.drop_zero, tb_all T2, List.append_assoc]
  rw [e, ← begun_ins]
  exact a
theorem mk_del (h : MkInv φ N mar l t live k ps cur c1 c2 (tb T1) (tb T2)) (hl : live) (hd : l[k]? = some ⟨-1, tx⟩) :
    MkInv φ N mar l t live' (k + 1) ps ⟨(begun cur (-1) c1 c2).ds ++ [⟨-1, tx⟩], (begun cur (-1) c1 c2).s1, (begun cur (-1) c1 c2).s2, (begun cur (-1) c1 c2).l1 + (tx.size : Nat), (begun cur (-1) c1 c2).l2⟩ (c1 + tx.size) c2 (tb T1) (tb (T2.extract 0 c2 ++ T2.extract (c2 + tx.size) T2.size)) ∧ c2 + tx.size ≤ T2.size := by
  obtain ⟨a, _, b, hc⟩ := mk_edit (live' := live') h hl hd (.inr rfl)
  have e : tb (T2.extract 0 c2 ++ T2.extract (c2 + tx.size) T2.size) = tgtL (l.take (k + 1)) ++ srcL (l.drop (k + 1)) := by
    rw [← b rfl, tb_append, tb_extract, tb_extract, List.drop_zero, tb_all T2]
  refine ⟨?_, by simpa using hc⟩
  rw [e, ← begun_del]
  exact a
end

/-- the state at the head of a round -/
def MkS (φ : UInt8 → Prop) (N mar : Nat) (l : List D) (tl : List UInt8) (w : World) (v7 vc1 vc2 v11 v12 vi : Value) (wr : World) : Prop :=
  ∃ (k c1 c2 : Nat) (T1 T2 : ByteArray) (dv : Value) (cur : P) (L : List (Value × P)) (m : Nat), vi = .int .i64 k ∧ vc1 = .int .i64 c1 ∧ vc2 = .int .i64 c2 ∧ v11 = .string T1 ∧ v12 = .string T2 ∧ PW w wr v7 dv cur L m none ∧
    Hid (MkInv φ N mar l tl (k < l.length) k (L.map (·.2)) cur c1 c2 (tb T1) (tb T2))

theorem new_at {dv : Value} {g n c m a : Nat} (h : dv.ownBlock = some g ∨ g = m) (hm : a ≤ m) : (Value.slice (some ⟨g, 0, none⟩) n c).ownBlock = dv.ownBlock ∨ ∀ x, (Value.slice (some ⟨g, 0, none⟩) n c).ownBlock = some x → a ≤ x := by
  rcases h with h | h
  · exact .inl (by rw [h]; rfl)
  · refine .inr fun x e => ?_
    have : g = x := by simpa [Value.ownBlock] using e
    omega

/-- what patchMake2 returns -/
def MkPost (φ : UInt8 → Prop) (N mar : Nat) (l : List D) (tl : List UInt8) (w : World) (e : Ending) (w' : World) : Prop :=
  ∃ (v7 : Value) (L : List (Value × P)), e = .returned v7 ∧ OwnL pvP 114 5 w' w.heap.size v7 L ∧ (∀ x ∈ L, OwnL dP 128 2 w' w.heap.size x.1 x.2.ds) ∧ Below w.heap.size w w' ∧
    Placed mar tl (L.map (·.2)) (tgtL l) ∧ (∀ x ∈ L, OkP φ l.length N x.2) ∧ L.length ≤ l.length ∧ (L = [] ↔ ∀ d ∈ l, d.op = 0)

end Go.Proofs.YtjebgfpcmooniaaGreatDoor

namespace Go.Proofs.YtjebgfpcmooniaaGreatDoor
open Go Go.RowKit

theorem ctx_ne {cur : P} {pre suf : ByteArray} (h : cur.ds ≠ []) : (ctxP cur pre suf).ds ≠ [] := by
  show sufD (preD pre cur.ds) suf ≠ []
  unfold sufD preD
  split <;> split <;> simp [h]
theorem pvP_one (a : Option Addr) (n c : Nat) (p : P) : ∀ u ∈ pvP (.slice a n c, p), u.oneCell' = true := by
  intro u hu
  simp [pvP] at hu
  rcases hu with rfl | rfl | rfl | rfl | rfl <;> rfl

theorem mk_end' {φ : UInt8 → Prop} {N mar : Nat} {l : List D} {t : List UInt8} {live : Prop} {i : Nat} {ps : List P} {cur : P} {c1 c2 : Nat} {pp po : List UInt8} (h : MkInv φ N mar l t live i ps cur c1 c2 pp po) (hi : i = l.length) (hc : cur.ds = []) : Placed mar t ps (tgtL l) ∧ (∀ p ∈ ps, OkP φ l.length N p) ∧ ps.length ≤ l.length ∧ (ps = [] ↔ ∀ d ∈ l, d.op = 0) := by
  subst hi
  exact mk_end h hc

/-- the last patch goes into the row -/
theorem PW.last {w wr w1 : World} {v7 dv : Value} {cur : P} {L : List (Value × P)} {m : Nat} {ex : Option (Nat × D)} (h : PW w wr v7 dv cur L m ex) (hg : wr.grownBy w1 v7.ownBlock) :
    (∀ x ∈ L ++ [(dv, cur)], OwnL dP 128 2 w1 w.heap.size x.1 x.2.ds) ∧ Below w.heap.size w w1 := by
  refine ⟨?_, h.bel.trans (below_of_gb hg h.size (fun g e => (h.pat.lt g e).1))⟩
  intro x hx
  rcases List.mem_append.1 hx with hx | hx
  · exact (h.each x hx).1.kept hg (own_ne (h.each x hx).1 h.pat (by omega))
  · rw [List.mem_singleton.1 hx]
    exact h.own.kept hg (own_ne h.own h.pat (by omega))

theorem cell_far (x : World) {a b i j : Nat} {v : Value} (h : a ≠ b) : (x.setCell ⟨b, i, none⟩ v).cell? ⟨a, j, none⟩ = x.cell? ⟨a, j, none⟩ := by
  have e : (x.setCell ⟨b, i, none⟩ v).heap[a]? = x.heap[a]? := blk_far rfl (by simpa using h) v
  simp only [World.cell?, e]

/-- the conditions of the making of patches, in a world -/
structure MkOk (φ : UInt8 → Prop) (N mar : Nat) (l : List D) (w : World) (gd : Nat) (A : Option Addr) (n : Nat) (tmo cost dist bits : Int) (th de : Nat) : Prop where
  hmar0 : 1 ≤ mar
  hmar1 : mar ≤ 8
  hb0 : 32 ≤ bits
  hb1 : bits ≤ 62
  hN : N ≤ 1000000
  hn1 : n ≤ 10000
  hL : OkL φ l N
  hr : RdL dP 2 w w.heap.size A n l
  hgd : gd < w.heap.size
  hdmp : DmpAt w gd tmo cost dist mar bits th de

/-- the code of a loop, the first in a code -/
noncomputable def firstLoop : Code → Option Code
  | .seq a b => match firstLoop a with
    | some c => some c
    | none => firstLoop b
  | .block _ c => firstLoop c
  | .cond _ a b => match firstLoop a with
    | some c => some c
    | none => firstLoop b
  | .loop c => some c
  | _ => none
/-- the loop's round in patchMake2 -/
noncomputable def round86 : Code := match Tryz.f86.body with
  | some c => (firstLoop c).getD .skip
  | none => .skip

end Go.Proofs.YtjebgfpcmooniaaGreatDoor
