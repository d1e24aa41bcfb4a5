/- The plain law of the application of patches: each stands where it says; padding and division keep that. One patch of a row is applied where it stands: the texts. No program in sight. -/
import Derived.Test.YtjebgfpcmooniaaGreatDoorZMkBase
import Derived.Test.YtjebgfpcmooniaaGreatDoorZPlain
namespace Go.Proofs.YtjebgfpcmooniaaGreatDoor
open Go Go.RowKit

/-- a patch says where it stands -/
structure At (p : P) (a : List UInt8) : Prop where
  s2 : p.s2 = a.length
  l1 : p.l1 = (srcL p.ds).length
  op : ∀ d ∈ p.ds, -1 ≤ d.op ∧ d.op ≤ 1

/-- patches that stand where they say, one behind the other; the texts are small -/
inductive Ex (M : Nat) : List UInt8 → List P → List UInt8 → Prop where
  | nil {t : List UInt8} (h : t.length ≤ M) : Ex M t [] t
  | cons {p : P} {ps : List P} {a b t : List UInt8} (h : At p a) (hm : (a ++ (srcL p.ds ++ b)).length ≤ M) (r : Ex M (a ++ (tgtL p.ds ++ b)) ps t) : Ex M (a ++ (srcL p.ds ++ b)) (p :: ps) t
/-- the same, with room for the changes -/
inductive ExS (M : Nat) : List UInt8 → List P → List UInt8 → Prop where
  | nil {t : List UInt8} (h : t.length ≤ M) : ExS M t [] t
  | cons {p : P} {ps : List P} {a b t : List UInt8} (h : At p a) (hm : (a ++ (srcL p.ds ++ b)).length + (tgtL p.ds).length ≤ M) (r : ExS M (a ++ (tgtL p.ds ++ b)) ps t) : ExS M (a ++ (srcL p.ds ++ b)) (p :: ps) t
/-- the same while only the last patch may want its padding -/
inductive ExL (M mar : Nat) (np : List UInt8) : List UInt8 → List P → List UInt8 → Prop where
  | nil {t : List UInt8} (h : t.length ≤ M) : ExL M mar np t [] t
  | cons {p : P} {ps : List P} {a bb t : List UInt8} (h : At p a) (hl : ∀ d r, p.ds = r ++ [d] → (d.op ≠ 0 ∨ d.t.size < mar) → bb = [])
      (hm : (a ++ (srcL p.ds ++ (bb ++ np))).length + (tgtL p.ds).length ≤ M) (r : ExL M mar np (a ++ (tgtL p.ds ++ (bb ++ np))) ps t) : ExL M mar np (a ++ (srcL p.ds ++ (bb ++ np))) (p :: ps) t

theorem op0 : -1 ≤ (0 : Int) ∧ (0 : Int) ≤ 1 := by decide
section
variable {M M' mar : Nat} {np t t' T : List UInt8} {ps qs : List P} {p q : P}
theorem Ex.small (h : Ex M t ps t') : t.length ≤ M := by cases h <;> assumption
theorem ExS.small (h : ExS M t ps t') : t.length ≤ M := by
  cases h with
  | nil h => exact h
  | cons _ hm _ => omega
theorem Ex.app (h : Ex M t ps T) : Ex M T qs t' → Ex M t (ps ++ qs) t' := by
  induction h with
  | nil _ => exact id
  | cons h hm _ ih => exact fun k => .cons h hm (ih k)
theorem Ex.snoc {a b : List UInt8} (h : Ex M t ps (a ++ (srcL p.ds ++ b))) (hp : At p a) (hm : (a ++ (tgtL p.ds ++ b)).length ≤ M) : Ex M t (ps ++ [p]) (a ++ (tgtL p.ds ++ b)) := by
  refine h.app (.cons hp ?_ (.nil hm))
  have : ∀ {t ps T}, Ex M t ps T → T.length ≤ M := by
    intro t ps T h
    induction h with
    | nil h => exact h
    | cons _ _ _ ih => exact ih
  exact this h
theorem ExS.ex (h : ExS M t ps t') : Ex M t ps t' := by
  induction h with
  | nil h => exact .nil h
  | cons h hm _ ih => exact .cons h (by omega) ih
theorem ExL.exS (h : ExL M mar np t ps t') : ExS M t ps t' := by
  induction h with
  | nil h => exact .nil h
  | cons h _ hm _ ih => exact .cons h hm ih
theorem ExS.mono (h : ExS M t ps t') (hM : M ≤ M') : ExS M' t ps t' := by
  induction h with
  | nil h => exact .nil (by omega)
  | cons h hm _ ih => exact .cons h (by omega) ih
theorem ExL.mono (h : ExL M mar np t ps t') (hM : M ≤ M') : ExL M' mar np t ps t' := by
  induction h with
  | nil h => exact .nil (by omega)
  | cons h hl hm _ ih => exact .cons h hl (by omega) ih

/-! padding -/
def bumpP (m : Nat) (p : P) : P := ⟨p.ds, p.s1 + m, p.s2 + m, p.l1, p.l2⟩

theorem pad_bump (hnp : np.length = mar) (N : Nat) (h : Placed mar t ps t') (hop : ∀ p ∈ ps, ∀ d ∈ p.ds, -1 ≤ d.op ∧ d.op ≤ 1) (hN : ∀ p ∈ ps, (tgtL p.ds).length ≤ N) (hM : t.length + ps.length * N + 2 * mar ≤ M) :
    ExL M mar np (np ++ (t ++ np)) (ps.map (bumpP mar)) (np ++ (t' ++ np)) := by
  induction h with
  | nil t => exact .nil (by simp only [List.length_append]; omega)
  | @cons p ps a b t h r ih =>
    have e1 : np ++ ((a ++ (srcL p.ds ++ b)) ++ np) = (np ++ a) ++ (srcL (bumpP mar p).ds ++ (b ++ np)) := by simp [bumpP]
    have e2 : np ++ ((a ++ (tgtL p.ds ++ b)) ++ np) = (np ++ a) ++ (tgtL (bumpP mar p).ds ++ (b ++ np)) := by simp [bumpP]
    have hp := hN p (by simp)
    simp only [List.length_append, List.length_cons, Nat.add_mul, Nat.one_mul] at hM
    rw [e1]
    refine .cons ⟨?_, h.l1, hop p (by simp)⟩ ?_ ?_ ?_
    · show p.s2 + mar = _
      rw [h.s2, List.length_append, hnp]; omega
    · exact fun d r e hd => h.last d r e hd
    · show ((np ++ a) ++ (srcL p.ds ++ (b ++ np))).length + (tgtL p.ds).length ≤ M
      simp only [List.length_append]; omega
    · rw [← e2]
      exact ih (fun q hq => hop q (by simp [hq])) (fun q hq => hN q (by simp [hq])) (by simp only [List.length_append]; omega)

/-- the padding ahead, before an edit -/
theorem pad_head_new (hnp : np.length = mar) {nb : ByteArray} (hnb : tb nb = np) (N : Nat) (h : Placed mar t (p :: ps) t') (hop : ∀ p' ∈ p :: ps, ∀ d ∈ p'.ds, -1 ≤ d.op ∧ d.op ≤ 1) (hN : ∀ p' ∈ p :: ps, (tgtL p'.ds).length ≤ N)
    (hM : t.length + (p :: ps).length * N + 3 * mar ≤ M) {d : D} {r : List D} (hd : p.ds = d :: r) (ho : d.op ≠ 0) (hq : q.ds = ⟨0, nb⟩ :: p.ds) (hs : q.s2 = p.s2) (hl : q.l1 = p.l1 + mar) :
    ExL M mar np (np ++ (t ++ np)) (q :: ps.map (bumpP mar)) (np ++ (t' ++ np)) := by
  cases h with
  | @cons _ _ a b _ h r' =>
    have ha := h.head d r hd (.inl ho)
    subst ha
    have hs1 : srcL q.ds = np ++ srcL p.ds := by rw [hq, srcL_cons]; simp [hnb]
    have ht1 : tgtL q.ds = np ++ tgtL p.ds := by rw [hq, tgtL_cons]; simp [hnb]
    have e1 : np ++ (([] ++ (srcL p.ds ++ b)) ++ np) = [] ++ (srcL q.ds ++ (b ++ np)) := by simp [hs1]
    have e2 : np ++ (([] ++ (tgtL p.ds ++ b)) ++ np) = [] ++ (tgtL q.ds ++ (b ++ np)) := by simp [ht1]
    have hp := hN p (by simp)
    simp only [List.length_append, List.length_cons, Nat.add_mul, Nat.one_mul, List.length_nil] at hM
    have hps := pad_bump (M := M) hnp N r' (fun q hq => hop q (by simp [hq])) (fun q hq => hN q (by simp [hq])) (by simp only [List.length_append, List.length_nil]; omega)
    rw [e2] at hps
    rw [e1]
    refine .cons ⟨by rw [hs, h.s2], by rw [hl, h.l1, hs1, List.length_append, hnp]; omega, fun x hx => ?_⟩ ?_ ?_ hps
    · rw [hq] at hx
      rcases List.mem_cons.1 hx with rfl | hx
      · exact op0
      · exact hop p (by simp) x hx
    · intro x y e hx
      rw [hq] at e
      cases y with
      | nil => rw [hd] at e; simp at e
      | cons z y =>
        rw [List.cons_append] at e
        injection e with _ e
        exact h.last x y e hx
    · rw [hs1, ht1]
      simp only [List.length_append, List.length_nil]; omega

/-- the padding ahead, before a short equality -/
theorem pad_head_short (hnp : np.length = mar) {nb : ByteArray} (hnb : tb nb = np) (N : Nat) (h : Placed mar t (p :: ps) t') (hop : ∀ p' ∈ p :: ps, ∀ d ∈ p'.ds, -1 ≤ d.op ∧ d.op ≤ 1) (hN : ∀ p' ∈ p :: ps, (tgtL p'.ds).length ≤ N)
    (hM : t.length + (p :: ps).length * N + 3 * mar ≤ M) {d : D} {r : List D} (hd : p.ds = d :: r) (ho : d.op = 0) (hsh : d.t.size < mar) {x : ByteArray} (hx : tb x = np.drop d.t.size ++ tb d.t) (hq : q.ds = ⟨0, x⟩ :: r) (hs : q.s2 = p.s2 + d.t.size) (hl : q.l1 = p.l1 + (mar - d.t.size : Nat)) :
    ExL M mar np (np ++ (t ++ np)) (q :: ps.map (bumpP mar)) (np ++ (t' ++ np)) := by
  cases h with
  | @cons _ _ a b _ h r' =>
    have ha := h.head d r hd (.inr hsh)
    subst ha
    have hs0 : srcL p.ds = tb d.t ++ srcL r := by rw [hd, srcL_cons, if_neg (by omega)]
    have ht0 : tgtL p.ds = tb d.t ++ tgtL r := by rw [hd, tgtL_cons, if_neg (by omega)]
    have hs1 : srcL q.ds = np.drop d.t.size ++ srcL p.ds := by rw [hq, srcL_cons, hs0, if_neg (by show ¬ (0 : Int) = 1; omega)]; show tb x ++ _ = _; rw [hx]; simp
    have ht1 : tgtL q.ds = np.drop d.t.size ++ tgtL p.ds := by rw [hq, tgtL_cons, ht0, if_neg (by show ¬ (0 : Int) = -1; omega)]; show tb x ++ _ = _; rw [hx]; simp
    have hdr : (np.drop d.t.size).length = mar - d.t.size := by rw [List.length_drop, hnp]
    have htk : (np.take d.t.size).length = d.t.size := by rw [List.length_take, hnp]; omega
    have en : np = np.take d.t.size ++ np.drop d.t.size := (List.take_append_drop _ _).symm
    have e1 : np ++ (([] ++ (srcL p.ds ++ b)) ++ np) = np.take d.t.size ++ (srcL q.ds ++ (b ++ np)) := by
      rw [hs1]
      simp only [List.nil_append, List.append_assoc]
      rw [← List.append_assoc (np.take _) (np.drop _), List.take_append_drop]
    have e2 : np ++ (([] ++ (tgtL p.ds ++ b)) ++ np) = np.take d.t.size ++ (tgtL q.ds ++ (b ++ np)) := by
      rw [ht1]
      simp only [List.nil_append, List.append_assoc]
      rw [← List.append_assoc (np.take _) (np.drop _), List.take_append_drop]
    have hp := hN p (by simp)
    simp only [List.length_append, List.length_cons, Nat.add_mul, Nat.one_mul, List.length_nil] at hM
    have hps := pad_bump (M := M) hnp N r' (fun q hq => hop q (by simp [hq])) (fun q hq => hN q (by simp [hq])) (by simp only [List.length_append, List.length_nil]; omega)
    rw [e2] at hps
    rw [e1]
    refine .cons ⟨by rw [hs, h.s2, htk]; simp, by rw [hl, h.l1, hs1, List.length_append, hdr]; omega, fun y hy => ?_⟩ ?_ ?_ hps
    · rw [hq] at hy
      rcases List.mem_cons.1 hy with rfl | hy
      · exact op0
      · exact hop p (by simp) y (by rw [hd]; simp [hy])
    · intro z y e hz
      rw [hq] at e
      cases y with
      | nil =>
        injection e with e1 e2
        subst e1
        rcases hz with hz | hz
        · exact absurd rfl hz
        · exfalso
          have : x.size = mar := by rw [← tb_length, hx, List.length_append, hdr, tb_length]; omega
          have hz' : x.size < mar := hz
          omega
      | cons y0 y =>
        rw [List.cons_append] at e
        injection e with _ e
        exact h.last z (d :: y) (by rw [hd, e]; rfl) hz
    · rw [hs1, ht1]
      simp only [List.length_append, hdr, htk]; omega

theorem exL_none (h : ExL M mar np t [] t') : t' = t := by cases h; rfl
theorem exL_last (h : ExL M mar np t (ps ++ [p]) t') : ∃ a bb, ExS M t ps (a ++ (srcL p.ds ++ (bb ++ np))) ∧ At p a ∧ (∀ d r, p.ds = r ++ [d] → (d.op ≠ 0 ∨ d.t.size < mar) → bb = []) ∧ (a ++ (srcL p.ds ++ (bb ++ np))).length + (tgtL p.ds).length ≤ M ∧ t' = a ++ (tgtL p.ds ++ (bb ++ np)) := by
  induction ps generalizing t with
  | nil =>
    cases h with
    | @cons _ _ a bb _ h hl hm r => exact ⟨a, bb, .nil (by omega), h, hl, hm, exL_none r⟩
  | cons x ps ih =>
    cases h with
    | cons h hl hm r =>
      obtain ⟨a, bb, k1, k2⟩ := ih r
      exact ⟨a, bb, .cons h hm k1, k2⟩
theorem ExS.app (h : ExS M t ps T) : ExS M T qs t' → ExS M t (ps ++ qs) t' := by
  induction h with
  | nil _ => exact id
  | cons h hm _ ih => exact fun k => .cons h hm (ih k)

/-- the padding behind, after an edit -/
theorem pad_last_new (hnp : np.length = mar) {nb : ByteArray} (hnb : tb nb = np) (h : ExL M mar np t (ps ++ [p]) t') {d : D} {r : List D} (hd : p.ds = r ++ [d]) (ho : d.op ≠ 0) (hq : q.ds = p.ds ++ [⟨0, nb⟩]) (hs : q.s2 = p.s2) (hl : q.l1 = p.l1 + mar) :
    ExS (M + mar) t (ps ++ [q]) t' := by
  obtain ⟨a, bb, k1, k2, k3, k4, rfl⟩ := exL_last h
  have hb := k3 d r hd (.inl ho)
  subst hb
  have hs1 : srcL q.ds = srcL p.ds ++ np := by rw [hq, srcL_snoc]; simp [hnb]
  have ht1 : tgtL q.ds = tgtL p.ds ++ np := by rw [hq, tgtL_snoc]; simp [hnb]
  have e1 : a ++ (srcL p.ds ++ ([] ++ np)) = a ++ (srcL q.ds ++ []) := by simp [hs1]
  have e2 : a ++ (tgtL p.ds ++ ([] ++ np)) = a ++ (tgtL q.ds ++ []) := by simp [ht1]
  simp only [List.length_append, List.length_nil] at k4
  rw [e1] at k1
  rw [e2]
  refine (k1.mono (by omega)).app (.cons ⟨by rw [hs, k2.s2], by rw [hl, k2.l1, hs1, List.length_append, hnp]; omega, fun x hx => ?_⟩ ?_ (.nil ?_))
  · rw [hq] at hx
    rcases List.mem_append.1 hx with hx | hx
    · exact k2.op x hx
    · rw [List.mem_singleton.1 hx]; exact op0
  · rw [hs1, ht1]; simp only [List.length_append, List.length_nil]; omega
  · rw [ht1]; simp only [List.length_append, List.length_nil]; omega
/-- the padding behind, after a short equality -/
theorem pad_last_short (hnp : np.length = mar) (h : ExL M mar np t (ps ++ [p]) t') {d : D} {r : List D} (hd : p.ds = r ++ [d]) (ho : d.op = 0) (hsh : d.t.size < mar) {x : ByteArray} (hx : tb x = tb d.t ++ np.take (mar - d.t.size)) (hq : q.ds = r ++ [⟨0, x⟩]) (hs : q.s2 = p.s2) (hl : q.l1 = p.l1 + (mar - d.t.size : Nat)) :
    ExS (M + mar) t (ps ++ [q]) t' := by
  obtain ⟨a, bb, k1, k2, k3, k4, rfl⟩ := exL_last h
  have hb := k3 d r hd (.inr hsh)
  subst hb
  have hs0 : srcL p.ds = srcL r ++ tb d.t := by rw [hd, srcL_snoc, if_neg (by omega)]
  have ht0 : tgtL p.ds = tgtL r ++ tb d.t := by rw [hd, tgtL_snoc, if_neg (by omega)]
  have hs1 : srcL q.ds = srcL p.ds ++ np.take (mar - d.t.size) := by rw [hq, srcL_snoc, hs0, if_neg (by show ¬ (0 : Int) = 1; omega)]; show _ ++ tb x = _; rw [hx]; simp
  have ht1 : tgtL q.ds = tgtL p.ds ++ np.take (mar - d.t.size) := by rw [hq, tgtL_snoc, ht0, if_neg (by show ¬ (0 : Int) = -1; omega)]; show _ ++ tb x = _; rw [hx]; simp
  have en : np = np.take (mar - d.t.size) ++ np.drop (mar - d.t.size) := (List.take_append_drop _ _).symm
  have e1 : a ++ (srcL p.ds ++ ([] ++ np)) = a ++ (srcL q.ds ++ np.drop (mar - d.t.size)) := by
    rw [hs1]
    simp only [List.nil_append, List.append_assoc, List.take_append_drop]
  have e2 : a ++ (tgtL p.ds ++ ([] ++ np)) = a ++ (tgtL q.ds ++ np.drop (mar - d.t.size)) := by
    rw [ht1]
    simp only [List.nil_append, List.append_assoc, List.take_append_drop]
  have htk : (np.take (mar - d.t.size)).length = mar - d.t.size := by rw [List.length_take, hnp]; omega
  have hdr : (np.drop (mar - d.t.size)).length = d.t.size := by rw [List.length_drop, hnp]; omega
  simp only [List.length_append, List.length_nil] at k4
  rw [e1] at k1
  rw [e2]
  refine (k1.mono (by omega)).app (.cons ⟨by rw [hs, k2.s2], by rw [hl, k2.l1, hs1, List.length_append, htk]; omega, fun y hy => ?_⟩ ?_ (.nil ?_))
  · rw [hq] at hy
    rcases List.mem_append.1 hy with hy | hy
    · exact k2.op y (by rw [hd]; simp [hy])
    · rw [List.mem_singleton.1 hy]; exact op0
  · rw [hs1, ht1]; simp only [List.length_append, htk, hdr]; omega
  · rw [ht1]; simp only [List.length_append, htk, hdr]; omega
end

/-! division -/
/-- a patch is divided: what is done stands ahead, R is left, prec is the context that is repeated -/
structure SpInv (M : Nat) (T T' : List UInt8) (pre : List P) (X prec : List UInt8) (R : List D) (B : List UInt8) (post : List P) : Prop where
  pre : Ex M T pre (X ++ (prec ++ (srcL R ++ B)))
  post : ExS M (X ++ (prec ++ (tgtL R ++ B))) post T'
  op : ∀ d ∈ R, -1 ≤ d.op ∧ d.op ≤ 1
  sm : (X ++ (prec ++ (srcL R ++ B))).length + (tgtL R).length ≤ M
/-- a smaller patch under way: C taken, R' left -/
structure SpCur (prec : List UInt8) (R C R' : List D) : Prop where
  src : srcL C ++ srcL R' = prec ++ srcL R
  tgt : tgtL C ++ tgtL R' = prec ++ tgtL R
  op : ∀ d ∈ C ++ R', -1 ≤ d.op ∧ d.op ≤ 1
  ge1 : prec.length ≤ (srcL C).length
  ge2 : prec.length ≤ (tgtL C).length

section
variable {M mar : Nat} {T T' X prec B : List UInt8} {pre post : List P} {R C R' : List D} {p q : P} {d : D}
theorem sp_begin (h1 : Ex M T pre X) (h2 : ExS M X (p :: post) T') : ∃ a b, At p a ∧ SpInv M T T' pre a [] p.ds b post := by
  cases h2 with
  | @cons _ _ a b _ h hm r => exact ⟨a, b, h, h1, r, h.op, by simpa using hm⟩
theorem cur_begin (hR : ∀ d ∈ R, -1 ≤ d.op ∧ d.op ≤ 1) {x : ByteArray} (hx : tb x = prec) : SpCur prec R (if prec = [] then [] else [⟨0, x⟩]) R := by
  by_cases h : prec = []
  · subst h
    rw [if_pos rfl]
    exact ⟨rfl, rfl, by simpa using hR, by simp, by simp⟩
  · rw [if_neg h]
    have hxl : prec.length = x.size := by rw [← hx, tb_length]
    refine ⟨?_, ?_, ?_, ?_, ?_⟩
    · rw [srcL_cons, srcL_nil, if_neg (by show ¬ (0 : Int) = 1; omega)]; show (tb x ++ []) ++ _ = _; rw [hx, List.append_nil]
    · rw [tgtL_cons, tgtL_nil, if_neg (by show ¬ (0 : Int) = -1; omega)]; show (tb x ++ []) ++ _ = _; rw [hx, List.append_nil]
    · intro y hy
      rcases List.mem_append.1 hy with hy | hy
      · rw [List.mem_singleton.1 hy]; exact op0
      · exact hR y hy
    · rw [srcL_cons, srcL_nil, if_neg (by show ¬ (0 : Int) = 1; omega), List.append_nil, hxl]; exact Nat.le_of_eq (tb_length x).symm
    · rw [tgtL_cons, tgtL_nil, if_neg (by show ¬ (0 : Int) = -1; omega), List.append_nil, hxl]; exact Nat.le_of_eq (tb_length x).symm
/-- the next part goes whole -/
theorem cur_whole (h : SpCur prec R C (d :: R')) : SpCur prec R (C ++ [d]) R' :=
  ⟨by rw [← h.src, srcL_snoc, srcL_cons, List.append_assoc], by rw [← h.tgt, tgtL_snoc, tgtL_cons, List.append_assoc], fun x hx => h.op x (by simpa using hx), by have := h.ge1; rw [srcL_append, List.length_append]; omega, by have := h.ge2; rw [tgtL_append, List.length_append]; omega⟩
/-- a piece of the next part goes -/
theorem cur_piece (h : SpCur prec R C (d :: R')) {x y : ByteArray} (hxy : tb x ++ tb y = tb d.t) : SpCur prec R (C ++ [⟨d.op, x⟩]) (⟨d.op, y⟩ :: R') := by
  refine ⟨?_, ?_, fun z hz => ?_, by have := h.ge1; rw [srcL_append, List.length_append]; omega, by have := h.ge2; rw [tgtL_append, List.length_append]; omega⟩
  · rw [← h.src, srcL_snoc, srcL_cons, srcL_cons]
    by_cases e : d.op = 1
    · simp [e]
    · simp [e, ← hxy]
  · rw [← h.tgt, tgtL_snoc, tgtL_cons, tgtL_cons]
    by_cases e : d.op = -1
    · simp [e]
    · simp [e, ← hxy]
  · have hd := h.op d (by simp)
    rcases List.mem_append.1 hz with hz | hz
    · rcases List.mem_append.1 hz with hz | hz
      · exact h.op z (by simp [hz])
      · rw [List.mem_singleton.1 hz]; exact hd
    · rcases List.mem_cons.1 hz with rfl | hz
      · exact hd
      · exact h.op z (by simp [hz])
/-- the smaller patch is done -/
theorem sp_emit (h : SpInv M T T' pre X prec R B post) (c : SpCur prec R C R') {pc : List UInt8} (hpc : pc = (srcL R').take mar) {Y prec' : List UInt8} (hY : tgtL C = Y ++ prec')
    (hsrc : srcL q.ds = srcL C ++ pc) (htgt : tgtL q.ds = tgtL C ++ pc) (hop : ∀ d ∈ q.ds, -1 ≤ d.op ∧ d.op ≤ 1) (hs : q.s2 = X.length) (hl : q.l1 = (srcL q.ds).length) :
    SpInv M T T' (pre ++ [q]) (X ++ Y) prec' R' B post := by
  have hR' : srcL R' = pc ++ (srcL R').drop mar := by rw [hpc, List.take_append_drop]
  have e1 : X ++ (prec ++ (srcL R ++ B)) = X ++ (srcL q.ds ++ ((srcL R').drop mar ++ B)) := by
    rw [hsrc]
    have := c.src
    rw [← List.append_assoc prec, ← this]
    simp only [List.append_assoc]
    rw [← List.append_assoc pc, ← hR']
  have e2 : X ++ (tgtL q.ds ++ ((srcL R').drop mar ++ B)) = (X ++ Y) ++ (prec' ++ (srcL R' ++ B)) := by
    rw [htgt, hY]
    simp only [List.append_assoc]
    rw [← List.append_assoc pc, ← hR']
  have e3 : X ++ (prec ++ (tgtL R ++ B)) = (X ++ Y) ++ (prec' ++ (tgtL R' ++ B)) := by
    rw [← List.append_assoc prec, ← c.tgt, hY]
    simp
  have hsm : ((X ++ Y) ++ (prec' ++ (srcL R' ++ B))).length + (tgtL R').length ≤ M := by
    have h1 := h.sm
    have h2 := congrArg List.length c.src
    have h3 := congrArg List.length c.tgt
    have h4 := congrArg List.length hY
    have h5 := c.ge1
    simp only [List.length_append] at h1 h2 h3 h4 ⊢
    omega
  refine ⟨?_, by rw [← e3]; exact h.post, fun d hd => c.op d (by simp [hd]), hsm⟩
  rw [← e2]
  have h1 := h.pre
  rw [e1] at h1
  exact h1.snoc ⟨hs, hl, hop⟩ (by rw [e2]; omega)
/-- nothing but equalities: no patch -/
theorem sp_drop (h : SpInv M T T' pre X prec R B post) (c : SpCur prec R C R') (h0 : ∀ d ∈ C, d.op = 0) {Y prec' : List UInt8} (hY : tgtL C = Y ++ prec') : SpInv M T T' pre (X ++ Y) prec' R' B post := by
  have he : srcL C = tgtL C := by
    clear c hY
    induction C with
    | nil => rfl
    | cons d C ih =>
      have := h0 d (by simp)
      rw [srcL_cons, tgtL_cons, if_neg (by omega), if_neg (by omega), ih fun x hx => h0 x (by simp [hx])]
  have e1 : X ++ (prec ++ (srcL R ++ B)) = (X ++ Y) ++ (prec' ++ (srcL R' ++ B)) := by
    rw [← List.append_assoc prec, ← c.src, he, hY]; simp
  have e3 : X ++ (prec ++ (tgtL R ++ B)) = (X ++ Y) ++ (prec' ++ (tgtL R' ++ B)) := by
    rw [← List.append_assoc prec, ← c.tgt, hY]; simp
  refine ⟨by rw [← e1]; exact h.pre, by rw [← e3]; exact h.post, fun d hd => c.op d (by simp [hd]), ?_⟩
  have h1 := h.sm
  have h2 := congrArg List.length c.src
  have h3 := congrArg List.length c.tgt
  have h4 := congrArg List.length hY
  have h5 := c.ge2
  simp only [List.length_append] at h1 h2 h3 h4 ⊢
  rw [he] at h2
  omega
theorem sp_end (h : SpInv M T T' pre X prec [] B post) : ∃ Z, Ex M T pre Z ∧ ExS M Z post T' := ⟨_, h.pre, h.post⟩
end
end Go.Proofs.YtjebgfpcmooniaaGreatDoor

namespace Go.Proofs.YtjebgfpcmooniaaGreatDoor
open Go Go.RowKit

theorem tb_mk (l : List UInt8) : tb ⟨l.toArray⟩ = l := rfl
theorem ex_nil {M : Nat} {t t' : List UInt8} (h : Ex M t [] t') : t = t' := by cases h; rfl
/-- the next patch stands at s -/
structure ApHere (M : Nat) (T : ByteArray) (p : P) (s n1 n2 : Nat) (ps : List P) (T' : List UInt8) : Prop where
  s2 : p.s2 = s
  l1 : p.l1 = n1
  e1 : (srcL p.ds).length = n1
  e2 : (tgtL p.ds).length = n2
  fit : s + n1 ≤ T.size
  big : T.size ≤ M
  big2 : n2 ≤ M
  mid : T.extract s (s + n1) = ⟨(srcL p.ds).toArray⟩
  rest : Ex M (tb (T.extract 0 s ++ ⟨(tgtL p.ds).toArray⟩ ++ T.extract (s + n1) T.size)) ps T'
  at1 : isAt (tb T) (srcL p.ds) s
theorem ap_here {M : Nat} {T : ByteArray} {p : P} {ps : List P} {T' : List UInt8} (h : Ex M (tb T) (p :: ps) T') : ∃ s n1 n2, ApHere M T p s n1 n2 ps T' := by
  generalize hT : tb T = t at h
  cases h with
  | @cons _ _ a b _ hat hm r =>
    have hsz := congrArg List.length hT
    rw [tb_length] at hsz
    have hsm := r.small
    simp only [List.length_append] at hsz hm hsm
    have m1 : tb (T.extract a.length (a.length + (srcL p.ds).length)) = srcL p.ds := by
      rw [tb_extract, hT, ← List.append_assoc, List.take_append_of_le_length (by simp), List.take_of_length_le (by simp), List.drop_append_of_le_length (Nat.le_refl _), List.drop_length, List.nil_append]
    have m0 : tb (T.extract 0 a.length) = a := by
      rw [tb_extract, hT, List.drop_zero, List.take_append_of_le_length (Nat.le_refl _), List.take_length]
    have m2 : tb (T.extract (a.length + (srcL p.ds).length) T.size) = b := by
      rw [tb_extract, hT, List.take_of_length_le (by simp; omega), ← List.append_assoc, show a.length + (srcL p.ds).length = (a ++ srcL p.ds).length by simp, List.drop_append_of_le_length (Nat.le_refl _), List.drop_length, List.nil_append]
    refine ⟨a.length, (srcL p.ds).length, (tgtL p.ds).length, hat.s2, hat.l1, rfl, rfl, by omega, by omega, by omega, tb_inj m1, ?_, ?_, ?_⟩
    · rw [tb_append, tb_append, m0, m2, List.append_assoc]
      exact r
    · rw [tb_length]; omega
    · rw [hT, List.drop_append_of_le_length (Nat.le_refl _), List.drop_length, List.nil_append, List.take_append_of_le_length (Nat.le_refl _), List.take_length]
/-- a piece of what is there is there -/
theorem isAt_pre {t p : List UInt8} {s k : Nat} (h : isAt t p s) (hk : k ≤ p.length) : isAt t (p.take k) s := by
  obtain ⟨h1, h2⟩ := h
  refine ⟨by rw [List.length_take]; omega, ?_⟩
  rw [List.length_take, Nat.min_eq_left hk]
  conv => rhs; rw [← h2]
  rw [List.take_take, Nat.min_eq_left hk]
theorem isAt_suf {t p : List UInt8} {s k : Nat} (h : isAt t p s) (hk : k ≤ p.length) : isAt t (p.drop k) (s + k) := by
  obtain ⟨h1, h2⟩ := h
  refine ⟨by rw [List.length_drop]; omega, ?_⟩
  conv => rhs; rw [← h2]
  rw [List.length_drop, List.drop_take, List.drop_drop]
/-- the padding is taken off -/
theorem strip {T nb : ByteArray} {t' : List UInt8} (h : tb T = tb nb ++ (t' ++ tb nb)) : T.size = nb.size + (t'.length + nb.size) ∧ tb (T.extract nb.size (nb.size + t'.length)) = t' := by
  have hsz := congrArg List.length h
  simp only [List.length_append, tb_length] at hsz
  refine ⟨hsz, ?_⟩
  rw [tb_extract, h, ← List.append_assoc, List.take_append_of_le_length (by simp [tb_length]), List.take_of_length_le (by simp [tb_length])]
  rw [show nb.size = (tb nb).length from (tb_length nb).symm, List.drop_append_of_le_length (Nat.le_refl _), List.drop_length, List.nil_append]
end Go.Proofs.YtjebgfpcmooniaaGreatDoor
