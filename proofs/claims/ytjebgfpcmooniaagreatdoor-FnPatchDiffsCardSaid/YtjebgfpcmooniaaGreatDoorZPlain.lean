/- Lists as they lie in memory: read, owned, appended to. No program in sight. The small functions of the thin package and of the laws: what each returns, and that it writes only to new memory. Searches of a text, the lesser and the greater number. Characters of a text: the conversions, Runes, Clean. Plain texts: ptPlain. -/
import Derived.WalkKit
import Derived.Below
import Derived.OneCell
import Derived.Laws.OwnMore
import Derived.Laws.Rows
import Derived.Maps.AppendAt
import Derived.Deep.Draws
import Derived.Lib.Hide
import Derived.Deep.AppendLies
import Derived.Test.YtjebgfpcmooniaaGreatDoorProg
import Derived.WalkLawsBesides
import Derived.WalkSpells
import Derived.Outline
import Derived.Deep.LoopGhost
import Derived.Deep.DeepCutAuto
import Derived.Deep.QuietTactic
import Derived.BigQuiet
import Derived.StillTailTactics
import Derived.KernelRfl
import Derived.Deep.RegionHeld3
import Derived.RegionTactic
import Derived.ChangeAlike
import Derived.Laws.IdiomStrings
import Derived.Laws.Cover4
import Derived.Lib.ConvBytes
namespace Go.Proofs.YtjebgfpcmooniaaGreatDoor
open Go Go.RowKit

/-! lists as they lie in memory -/

theorem block_of_add (a : Addr) (n : Nat) : (a.add n).block = a.block := by unfold Addr.add; split <;> rfl
theorem add_of_add (a : Addr) (i j : Nat) : (a.add i).add j = a.add (i + j) := by
  unfold Addr.add
  by_cases hi : i = 0 <;> by_cases hj : j = 0 <;> simp [hi, hj, Nat.add_assoc]
theorem add_zero' (a : Addr) : a.add 0 = a := by simp [Addr.add]

theorem blk_cell {w : World} {g : Nat} {cs : Array Value} {t : TypeId} (h : w.heap[g]? = some (.cells cs t (0, 0))) (i : Nat) : w.cell? ⟨g, i, none⟩ = cs[i]? := cell_of_row w g i cs t (0, 0) h
theorem blk_frozen {w : World} {g : Nat} {cs : Array Value} {t : TypeId} (h : w.heap[g]? = some (.cells cs t (0, 0))) (i : Nat) : w.frozen? ⟨g, i, none⟩ = false := by simp [World.frozen?, h]
theorem blk_set {w : World} {g : Nat} {cs : Array Value} {t : TypeId} (h : w.heap[g]? = some (.cells cs t (0, 0))) (i : Nat) (u : Value) : (w.setCell ⟨g, i, none⟩ u).heap[g]? = some (.cells (cs.setIfInBounds i u) t (0, 0)) := by
  simp [World.setCell, Array.getElem?_modify, h]
theorem blk_far {w : World} {g : Nat} {o : Option Obj} (h : w.heap[g]? = o) {p : Addr} (hp : g ≠ p.block) (u : Value) : (w.setCell p u).heap[g]? = o := (Below.heap_setCell w p u g hp).trans h
theorem le_al {B : Nat} {w : World} (h : B ≤ w.heap.size) {o : Obj} : B ≤ (w.alloc o).heap.size := by simp; omega
theorem heap_alloc_at (w : World) (o : Obj) (g : Nat) (h : g = w.heap.size) : (w.alloc o).heap[g]? = some o := by subst h; exact heap_alloc_new w o
theorem cells2_of {w : World} {g : Nat} {a b : Value} {t : TypeId} (h : w.heap[g]? = some (.cells #[a, b] t (0, 0))) : ∀ (j : Nat) (u : Value), [a, b][j]? = some u → w.cell? ((⟨g, 0, none⟩ : Addr).add j) = some u := by
  intro j u hu
  rcases j with _ | _ | j
  · simp at hu; subst hu; rw [add_zero']; rw [cell_of_row _ _ _ _ _ (0, 0) h]; rfl
  · simp at hu; subst hu
    show w.cell? ⟨g, 0 + 1, none⟩ = some _
    rw [cell_of_row _ _ _ _ _ (0, 0) h]; rfl
  · simp at hu
theorem cells1_of {w : World} {g : Nat} {a : Value} {t : TypeId} (h : w.heap[g]? = some (.cells #[a] t (0, 0))) : ∀ (j : Nat) (u : Value), [a][j]? = some u → w.cell? ((⟨g, 0, none⟩ : Addr).add j) = some u := by
  intro j u hu
  rcases j with _ | j
  · simp at hu; subst hu; rw [add_zero']; rw [cell_of_row _ _ _ _ _ (0, 0) h]; rfl
  · simp at hu
theorem cells5_of {w : World} {g : Nat} {a b c d e : Value} {t : TypeId} (h : w.heap[g]? = some (.cells #[a, b, c, d, e] t (0, 0))) : ∀ (j : Nat) (u : Value), [a, b, c, d, e][j]? = some u → w.cell? ((⟨g, 0, none⟩ : Addr).add j) = some u := by
  intro j u hu
  have hc : ∀ i, w.cell? ⟨g, i, none⟩ = (#[a, b, c, d, e])[i]? := fun i => cell_of_row _ _ _ _ _ (0, 0) h
  have h0 : ((⟨g, 0, none⟩ : Addr).add j) = ⟨g, j, none⟩ := by unfold Addr.add; split <;> simp_all
  rw [h0, hc]
  simpa using hu

/-- the slice '.slice A n c' reads as the list l, each element as the cells f x, sz of them; it lies below block B. -/
def RdL {α : Type} (f : α → List Value) (sz : Nat) (w : World) (B : Nat) (A : Option Addr) (n : Nat) (l : List α) : Prop :=
  l.length = n ∧ (0 < n → ∃ ad, A = some ad ∧ ad.block < B ∧ ∀ i x, l[i]? = some x → ∀ j u, (f x)[j]? = some u → w.cell? ((ad.add (i * sz)).add j) = some u)

/-- a slice value that the call owns: it reads as l -/
def OwnL {α : Type} (f : α → List Value) (e sz : Nat) (w : World) (base : Nat) (v : Value) (l : List α) : Prop :=
  w.ownsRow base e sz v l.length (l.flatMap f)

section
variable {α : Type} {f : α → List Value} {e sz : Nat} {w w' : World} {B B' base : Nat} {A : Option Addr} {n : Nat} {l : List α} {v : Value}

theorem RdL.none_ : RdL f sz w B A 0 [] := ⟨rfl, fun h => absurd h (by omega)⟩
theorem RdL.keep (h : RdL f sz w B A n l) (hk : ∀ p : Addr, p.block < B → w'.cell? p = w.cell? p) : RdL f sz w' B A n l :=
  ⟨h.1, fun hn => by
    obtain ⟨ad, e, hb, hc⟩ := h.2 hn
    exact ⟨ad, e, hb, fun i x hx j u hu => (hk _ (by rw [block_of_add, block_of_add]; exact hb)).trans (hc i x hx j u hu)⟩⟩
theorem RdL.more (h : RdL f sz w B A n l) (hB : B ≤ B') : RdL f sz w B' A n l :=
  ⟨h.1, fun hn => by
    obtain ⟨ad, e, hb, hc⟩ := h.2 hn
    exact ⟨ad, e, by omega, hc⟩⟩
theorem RdL.below (h : RdL f sz w B A n l) (hb : Below B w w') : RdL f sz w' B A n l := h.keep fun _ hp => hb.cell hp
theorem RdL.below' {B2 : Nat} (h : RdL f sz w B A n l) (hb : Below B2 w w') (h2 : B ≤ B2) : RdL f sz w' B A n l := h.keep fun _ hp => hb.cell (by omega)
theorem RdL.alloc (h : RdL f sz w B A n l) (hB : B ≤ w.heap.size) (o : Obj) : RdL f sz (w.alloc o) B A n l := h.keep fun p hp => World.cell?_alloc_lt w o p (by omega)
theorem RdL.at_ {k : Nat} (h : RdL f sz w B A n l) (hk : k < n) : ∃ ad x, A = some ad ∧ ad.block < B ∧ l[k]? = some x ∧ ∀ j u, (f x)[j]? = some u → w.cell? ((ad.add (k * sz)).add j) = some u := by
  obtain ⟨ad, e, hb, hc⟩ := h.2 (by omega)
  have hl : k < l.length := by have := h.1; omega
  exact ⟨ad, l[k], e, hb, List.getElem?_eq_getElem hl, hc k _ (List.getElem?_eq_getElem hl)⟩

theorem flat_length (hf : ∀ x, (f x).length = sz) (l : List α) : (l.flatMap f).length = l.length * sz := by
  induction l with
  | nil => simp
  | cons a t ih => simp [List.flatMap_cons, hf, ih, Nat.add_mul]; omega
theorem flat_at (hf : ∀ x, (f x).length = sz) (l : List α) : ∀ (i : Nat) (x : α), l[i]? = some x → ∀ j, j < sz → (l.flatMap f)[i * sz + j]? = (f x)[j]? := by
  induction l with
  | nil => intro i x hx; simp at hx
  | cons a t ih =>
    intro i x hx j hj
    rw [List.flatMap_cons]
    cases i with
    | zero =>
      simp at hx; subst hx
      rw [List.getElem?_append_left (by rw [hf]; omega)]; simp
    | succ i =>
      simp at hx
      rw [List.getElem?_append_right (by rw [hf, Nat.add_mul]; omega), hf]
      have := ih i x hx j hj
      rw [show (i + 1) * sz + j - sz = i * sz + j from by rw [Nat.add_mul]; omega]
      exact this

theorem OwnL.nil (w : World) (base : Nat) : OwnL f e sz w base (.slice none 0 0) [] := World.ownsRow_nil w base e sz
theorem OwnL.rd (hf : ∀ x, (f x).length = sz) (h : OwnL f e sz w base v l) : ∃ A c, v = .slice A l.length c ∧ RdL f sz w w.heap.size A l.length l := by
  have hcells := fun g hg => World.ownsRow.cells (g := g) h hg
  rcases h.2 with ⟨rfl, h0⟩ | ⟨g, cap, cur, rfl, hb, hh, _⟩
  · refine ⟨none, 0, by rw [h0], rfl, fun hn => absurd hn (by omega)⟩
  · refine ⟨some ⟨g, 0, none⟩, cap, rfl, rfl, fun _ => ⟨_, rfl, (Array.getElem?_eq_some_iff.1 hh).1, fun i x hx j u hu => ?_⟩⟩
    have hj : j < sz := by
      have := (List.getElem?_eq_some_iff.1 hu).1
      rw [hf] at this; exact this
    rw [add_of_add]
    exact hcells g rfl _ u (by rw [flat_at hf l i x hx j hj]; exact hu)
end

section
variable {α : Type} {f : α → List Value} {e sz : Nat} {w w' : World} {base : Nat} {l : List α} {v : Value}
theorem OwnL.alloc (h : OwnL f e sz w base v l) (o : Obj) : OwnL f e sz (w.alloc o) base v l := World.ownsRow.alloc h o
theorem OwnL.drew (h : OwnL f e sz w base v l) : OwnL f e sz w.drew base v l := h
theorem OwnL.drewN (h : OwnL f e sz w base v l) (n : Nat) : OwnL f e sz (w.drewN n) base v l := h
theorem OwnL.lt (h : OwnL f e sz w base v l) : ∀ k, v.ownBlock = some k → base ≤ k ∧ k < w.heap.size := World.ownsRow.lt h
/-- what is owned lies below: worlds that part only elsewhere keep it -/
theorem OwnL.kept {row : Option Nat} (h : OwnL f e sz w base v l) (hg : w.grownBy w' row) (hne : v.ownBlock = none ∨ v.ownBlock ≠ row) : OwnL f e sz w' base v l := World.ownsRow.kept h hg hne
theorem OwnL.below {B : Nat} (h : OwnL f e sz w base v l) (hb : Below B w w') (hv : ∀ k, v.ownBlock = some k → k < B) : OwnL f e sz w' base v l := by
  refine ⟨h.1, ?_⟩
  rcases h.2 with hn | ⟨g, cap, cur, rfl, hbg, hgg, rest⟩
  · exact .inl hn
  · exact .inr ⟨g, cap, cur, rfl, hbg, (hb.block g (hv g rfl)).trans hgg, rest⟩
theorem OwnL.below_size (h : OwnL f e sz w base v l) (hb : Below w.heap.size w w') : OwnL f e sz w' base v l := h.below hb fun k hk => (h.lt k hk).2
theorem OwnL.setCell_other (h : OwnL f e sz w base v l) {a : Addr} (ha : v.ownBlock ≠ some a.block) (u : Value) : OwnL f e sz (w.setCell a u) base v l := ownsRow_setCell_other h ha u
theorem OwnL.ne_new (h : OwnL f e sz w base v l) : v.ownBlock ≠ some w.heap.size := fun e => by have := h.lt _ e; omega
theorem OwnL.base_le {base' : Nat} (h : OwnL f e sz w base v l) (hb : base' ≤ base) : OwnL f e sz w base' v l := by
  refine ⟨h.1, ?_⟩
  rcases h.2 with hn | ⟨g, cap, cur, hv, hbg, rest⟩
  · exact .inl hn
  · exact .inr ⟨g, cap, cur, hv, Nat.le_trans hb hbg, rest⟩
end

theorem take_succ_some {α : Type} {l : List α} {k : Nat} {x : α} (h : l[k]? = some x) : l.take (k + 1) = l.take k ++ [x] := by
  obtain ⟨hk, rfl⟩ := List.getElem?_eq_some_iff.1 h
  exact List.take_succ_eq_append_getElem hk

/-- rows of two element types are two rows -/
theorem own_ne {α β : Type} {f : α → List Value} {f' : β → List Value} {e e' sz sz' : Nat} {w : World} {base base' : Nat} {v v' : Value} {l : List α} {l' : List β}
    (h : OwnL f e sz w base v l) (h' : OwnL f' e' sz' w base' v' l') (hne : e ≠ e') : v.ownBlock = none ∨ v.ownBlock ≠ v'.ownBlock := by
  rcases h.2 with ⟨rfl, _⟩ | ⟨g, cap, cur, rfl, _, hg, _⟩
  · exact .inl rfl
  · refine .inr fun hb => ?_
    rcases h'.2 with ⟨rfl, _⟩ | ⟨g', cap', cur', rfl, _, hg', _⟩
    · simp [Value.ownBlock] at hb
    · simp [Value.ownBlock] at hb
      subst hb
      rw [hg] at hg'
      injection hg' with hg'
      injection hg' with _ ht
      exact hne ht
theorem own_block_ty {α : Type} {f : α → List Value} {e sz : Nat} {w : World} {base : Nat} {v : Value} {l : List α} (h : OwnL f e sz w base v l) {g : Nat} {cs : Array Value} {t : TypeId} {fr : Nat × Nat}
    (hg : w.heap[g]? = some (.cells cs t fr)) (hne : e ≠ t) : v.ownBlock ≠ some g := by
  rcases h.2 with ⟨rfl, _⟩ | ⟨g', cap, cur, rfl, _, hg', _⟩
  · simp [Value.ownBlock]
  · intro hb
    simp [Value.ownBlock] at hb
    subst hb
    rw [hg'] at hg
    injection hg with hg
    injection hg with _ ht
    exact hne ht

/-- the facts of a slice type -/
structure STy (P : Program) (t e sz bytes : Nat) : Prop where
  ht : P.underlying t = some (.slice e)
  hi : ∃ i z, P.info? e = some i ∧ i.zero = some z ∧ i.size = sz ∧ i.bytes = bytes ∧ z.cells.size = sz
  hsz : 0 < sz
  hby : bytes ≤ 64

theorem STy.mk' {P : Program} {t e sz bytes : Nat} {z : Value} (ht : P.underlying t = some (.slice e)) (hi : (P.info? e).map (fun i => (i.zero, i.size, i.bytes)) = some (some z, sz, bytes)) (hz : z.cells.size = sz) (hsz : 0 < sz) (hby : bytes ≤ 64) : STy P t e sz bytes := by
  obtain ⟨i0, h0, h1, h2, h3⟩ := info_parts hi
  exact ⟨ht, ⟨i0, z, h0, h1, h2, h3, hz⟩, hsz, hby⟩

section
variable {α : Type} {f : α → List Value} {P : Program} {t e sz bytes : Nat} {w : World} {base : Nat} {l : List α} {v : Value}

/-- 'append' of whatever the source's cells hold, onto an owned row -/
theorem wpList_appendL {ops : Array Oper} {rest : List Oper} {o : Oper} {a : Act} {Q : Exit → Act → World → Prop} (ty : STy P t e sz bytes) (hgd : o.guard = none) (s x : Operand)
    (ho : o.op = .call { callee := .builtin .append, args := #[s, x], argTypes := #[t, t] }) (hs : a.eval s = v) (hown : OwnL f e sz w base v l)
    (ys : List α) (ad : Addr) (m c : Nat) (hx : a.eval x = .slice (some ad) m c) (hm : m = ys.length) (hy : ∀ j u, (ys.flatMap f)[j]? = some u → w.cell? (ad.add j) = some u) (h1 : ∀ u ∈ ys.flatMap f, u.oneCell' = true) (hf : ∀ y, (f y).length = sz)
    (hb : l.length + ys.length < 1000000000) (hbase : base ≤ w.heap.size)
    (h : ∀ v' w', OwnL f e sz w' base v' (l ++ ys) → w.grownBy w' v.ownBlock → (v'.ownBlock = v.ownBlock ∨ v'.ownBlock = some w.heap.size) → wpList P ops Q rest (a.put o.dst v') w') : wpList P ops Q (o :: rest) a w := by
  subst hm
  obtain ⟨i, z, hi, hz, hsz, hby, hzs⟩ := ty.hi
  have hbytes : (l.length + ys.length) * bytes ≤ 140737488355328 := by
    have : (l.length + ys.length) * bytes ≤ 1000000000 * 64 := Nat.mul_le_mul (by omega) ty.hby
    omega
  refine wpList_append_own_at w hgd s x t ho base e i z sz bytes ty.ht hi hz hsz hby hzs ty.hsz v l.length (l.flatMap f) hs hown ad ys.length c (ys.flatMap f) hx (flat_length hf ys) hy h1 (by unfold maxLen; omega) hbytes hbase ?_
  intro v' w' h2 h3 _ h5
  refine h v' w' ?_ h3 h5
  show World.ownsRow w' base e sz v' (l ++ ys).length ((l ++ ys).flatMap f)
  rw [List.length_append, List.flatMap_append]
  exact h2

/-- 'append' of one: the operation -/
theorem wp_push {o : Oper} {a : Act} {K : Act → World → Prop} {Q : Exit → Act → World → Prop} (ty : STy P t e sz bytes) (s x : Operand)
    (ho : o.op = .call { callee := .builtin .append, args := #[s, x], argTypes := #[t, t] }) (hs : a.eval s = v) (hown : OwnL f e sz w base v l)
    (y : α) (ad : Addr) (c : Nat) (hx : a.eval x = .slice (some ad) 1 c) (hf : ∀ y, (f y).length = sz) (h1 : ∀ u ∈ f y, u.oneCell' = true) (hb : l.length < 100000000) (hbase : base ≤ w.heap.size)
    (hy : ∀ j u, (f y)[j]? = some u → w.cell? (ad.add j) = some u)
    (h : ∀ g cap w', OwnL f e sz w' base (.slice (some ⟨g, 0, none⟩) (l.length + 1) cap) (l ++ [y]) → w.grownBy w' v.ownBlock → (v.ownBlock = some g ∨ g = w.heap.size) → K (a.put o.dst (.slice (some ⟨g, 0, none⟩) (l.length + 1) cap)) w') : Oper.wp P o a w K Q := by
  obtain ⟨i, z, hi, hz, hsz, hby, hzs⟩ := ty.hi
  have hbytes : (l.length + 1) * bytes ≤ 140737488355328 := by
    have : (l.length + 1) * bytes ≤ 1000000000 * 64 := Nat.mul_le_mul (by omega) ty.hby
    omega
  refine wp_append_lies w s x t ho base e i z sz bytes ty.ht hi hz hsz hby hzs ty.hsz v l.length (l.flatMap f) hs hown ad 1 c (f y) hx (by rw [hf]; omega) hy h1 (by omega) (by unfold maxLen; omega) hbytes hbase w.heap.size rfl ?_
  intro g cap w' h2 h3 h4 _
  refine h g cap w' ?_ h3 h4
  show World.ownsRow w' base e sz _ (l ++ [y]).length ((l ++ [y]).flatMap f)
  rw [List.length_append, List.flatMap_append, List.flatMap_singleton, List.length_singleton]
  exact h2

/-- 'append' of one, in a plain region -/
theorem wpList_push {ops : Array Oper} {rest : List Oper} {o : Oper} {a : Act} {Q : Exit → Act → World → Prop} (ty : STy P t e sz bytes) (hgd : o.guard = none) (s x : Operand)
    (ho : o.op = .call { callee := .builtin .append, args := #[s, x], argTypes := #[t, t] }) (hs : a.eval s = v) (hown : OwnL f e sz w base v l)
    (y : α) (ad : Addr) (c : Nat) (hx : a.eval x = .slice (some ad) 1 c) (hf : ∀ y, (f y).length = sz) (h1 : ∀ u ∈ f y, u.oneCell' = true) (hb : l.length < 100000000) (hbase : base ≤ w.heap.size)
    (hy : ∀ j u, (f y)[j]? = some u → w.cell? (ad.add j) = some u)
    (h : ∀ g cap w', OwnL f e sz w' base (.slice (some ⟨g, 0, none⟩) (l.length + 1) cap) (l ++ [y]) → w.grownBy w' v.ownBlock → (v.ownBlock = some g ∨ g = w.heap.size) → wpList P ops Q rest (a.put o.dst (.slice (some ⟨g, 0, none⟩) (l.length + 1) cap)) w') : wpList P ops Q (o :: rest) a w :=
  wpList_plain hgd fun _ hK => wp_push ty s x ho hs hown y ad c hx hf h1 hb hbase hy fun g cap w' h2 h3 h4 => hK _ _ (h g cap w' h2 h3 h4)

/-- 'append' of one, at a step of a region that draws its order -/
theorem step_push {ops : Array Oper} {o : Oper} {a : Act} {K : Act → World → Prop} {Q : Exit → Act → World → Prop} {E : Prop} (ty : STy P t e sz bytes) (hgd : o.guard = none) (s x : Operand)
    (ho : o.op = .call { callee := .builtin .append, args := #[s, x], argTypes := #[t, t] }) (hs : a.eval s = v) (hown : OwnL f e sz w base v l)
    (y : α) (ad : Addr) (c : Nat) (hx : a.eval x = .slice (some ad) 1 c) (hf : ∀ y, (f y).length = sz) (h1 : ∀ u ∈ f y, u.oneCell' = true) (hb : l.length < 100000000) (hbase : base ≤ w.heap.size)
    (hy : ∀ j u, (f y)[j]? = some u → w.cell? (ad.add j) = some u)
    (h : ∀ g cap w', OwnL f e sz w' base (.slice (some ⟨g, 0, none⟩) (l.length + 1) cap) (l ++ [y]) → w.grownBy w' v.ownBlock → (v.ownBlock = some g ∨ g = w.heap.size) → K (a.put o.dst (.slice (some ⟨g, 0, none⟩) (l.length + 1) cap)) w') :
    if Region.wanted o (yielded ops a.tmps) = true then Oper.wp P o a w K Q else E := by
  have hw : Region.wanted o (yielded ops a.tmps) = true := by simp [Region.wanted, hgd]
  rw [if_pos hw]
  exact wp_push ty s x ho hs hown y ad c hx hf h1 hb hbase hy h
end

/-! frames: only one block, and what is new, has turned -/
section
variable {a b c w : World} {row : Option Nat}
theorem gb_refl (w : World) (row : Option Nat) : w.grownBy w row := ⟨rfl, rfl, rfl, Nat.le_refl _, fun _ _ _ => rfl⟩
theorem gb_drewN (h : a.grownBy w row) (n : Nat) : a.grownBy (w.drewN n) row := ⟨h.os, h.tape, h.output, h.size, h.block⟩
theorem gb_drew (h : a.grownBy w row) : a.grownBy w.drew row := ⟨h.os, h.tape, h.output, h.size, h.block⟩
theorem gb_alloc (h : a.grownBy w row) (o : Obj) : a.grownBy (w.alloc o) row :=
  ⟨h.os, h.tape, h.output, Nat.le_trans h.size (by simp), fun i hi hne => (Below.heap_alloc w o i (Nat.lt_of_lt_of_le hi h.size)).trans (h.block i hi hne)⟩
theorem gb_setCell (h : a.grownBy w row) {p : Addr} (hp : row = some p.block ∨ a.heap.size ≤ p.block) (u : Value) : a.grownBy (w.setCell p u) row :=
  ⟨h.os, h.tape, h.output, by simpa [World.setCell] using h.size, fun i hi hne => (Below.heap_setCell w p u i (by
    rintro rfl
    rcases hp with hp | hp
    · exact hne hp.symm
    · omega)).trans (h.block i hi hne)⟩
theorem gb_below (h : a.grownBy b row) (hb : Below b.heap.size b c) : a.grownBy c row :=
  ⟨hb.os.trans h.os, hb.tape.trans h.tape, hb.output.trans h.output, Nat.le_trans h.size hb.size, fun i hi hne => (hb.block i (Nat.lt_of_lt_of_le hi h.size)).trans (h.block i hi hne)⟩
/-- a second change, of the same row or of one that is new -/
theorem gb_trans {row2 : Option Nat} (h : a.grownBy b row) (k : b.grownBy c row2) (hr : row2 = row ∨ ∀ g, row2 = some g → a.heap.size ≤ g) : a.grownBy c row :=
  ⟨k.os.trans h.os, k.tape.trans h.tape, k.output.trans h.output, Nat.le_trans h.size k.size, fun i hi hne => (k.block i (Nat.lt_of_lt_of_le hi h.size) (fun e => by
    rcases hr with rfl | hr
    · exact hne e
    · have := hr i e.symm; omega)).trans (h.block i hi hne)⟩
theorem gb_of_below (h : Below a.heap.size a w) (row : Option Nat) : a.grownBy w row := ⟨h.os, h.tape, h.output, h.size, fun i hi _ => h.block i hi⟩
theorem below_of_gb {B : Nat} (h : a.grownBy w row) (hB : B ≤ a.heap.size) (hr : ∀ g, row = some g → B ≤ g) : Below B a w :=
  ⟨h.os, h.tape, h.output, h.size, fun i hi => h.block i (by omega) (fun e => by have := hr i e.symm; omega)⟩
theorem gb_heap {i : Nat} {o : Option Obj} (h : a.grownBy w row) (hi : i < a.heap.size) (hne : some i ≠ row) (ho : a.heap[i]? = o) : w.heap[i]? = o := (h.block i hi hne).trans ho
end

section
variable {α : Type} {f : α → List Value} {P : Program} {t e sz bytes : Nat} {w : World} {base : Nat} {l : List α} {v : Value}
/-- 'append' of some, at least one, onto an owned row: the value told -/
theorem wp_appendL1 {o : Oper} {a : Act} {K : Act → World → Prop} {Q : Exit → Act → World → Prop} (ty : STy P t e sz bytes) (s x : Operand)
    (ho : o.op = .call { callee := .builtin .append, args := #[s, x], argTypes := #[t, t] }) (hs : a.eval s = v) (hown : OwnL f e sz w base v l)
    (ys : List α) (ad : Addr) (m c : Nat) (hx : a.eval x = .slice (some ad) m c) (hm : m = ys.length) (hm0 : 0 < m) (hy : ∀ j u, (ys.flatMap f)[j]? = some u → w.cell? (ad.add j) = some u) (h1 : ∀ u ∈ ys.flatMap f, u.oneCell' = true) (hf : ∀ y, (f y).length = sz)
    (hb : l.length + ys.length < 1000000000) (hbase : base ≤ w.heap.size)
    (h : ∀ g cap w', OwnL f e sz w' base (.slice (some ⟨g, 0, none⟩) (l.length + m) cap) (l ++ ys) → w.grownBy w' v.ownBlock → (v.ownBlock = some g ∨ g = w.heap.size) → K (a.put o.dst (.slice (some ⟨g, 0, none⟩) (l.length + m) cap)) w') : Oper.wp P o a w K Q := by
  subst hm
  obtain ⟨i, z, hi, hz, hsz, hby, hzs⟩ := ty.hi
  have hbytes : (l.length + ys.length) * bytes ≤ 140737488355328 := by
    have : (l.length + ys.length) * bytes ≤ 1000000000 * 64 := Nat.mul_le_mul (by omega) ty.hby
    omega
  refine wp_append_lies w s x t ho base e i z sz bytes ty.ht hi hz hsz hby hzs ty.hsz v l.length (l.flatMap f) hs hown ad ys.length c (ys.flatMap f) hx (flat_length hf ys) hy h1 hm0 (by unfold maxLen; omega) hbytes hbase w.heap.size rfl ?_
  intro g cap w' h2 h3 h4 _
  refine h g cap w' ?_ h3 h4
  show World.ownsRow w' base e sz _ (l ++ ys).length ((l ++ ys).flatMap f)
  rw [List.length_append, List.flatMap_append]
  exact h2
theorem wpList_appendL1 {ops : Array Oper} {rest : List Oper} {o : Oper} {a : Act} {Q : Exit → Act → World → Prop} (ty : STy P t e sz bytes) (hgd : o.guard = none) (s x : Operand)
    (ho : o.op = .call { callee := .builtin .append, args := #[s, x], argTypes := #[t, t] }) (hs : a.eval s = v) (hown : OwnL f e sz w base v l)
    (ys : List α) (ad : Addr) (m c : Nat) (hx : a.eval x = .slice (some ad) m c) (hm : m = ys.length) (hm0 : 0 < m) (hy : ∀ j u, (ys.flatMap f)[j]? = some u → w.cell? (ad.add j) = some u) (h1 : ∀ u ∈ ys.flatMap f, u.oneCell' = true) (hf : ∀ y, (f y).length = sz)
    (hb : l.length + ys.length < 1000000000) (hbase : base ≤ w.heap.size)
    (h : ∀ g cap w', OwnL f e sz w' base (.slice (some ⟨g, 0, none⟩) (l.length + m) cap) (l ++ ys) → w.grownBy w' v.ownBlock → (v.ownBlock = some g ∨ g = w.heap.size) → wpList P ops Q rest (a.put o.dst (.slice (some ⟨g, 0, none⟩) (l.length + m) cap)) w') : wpList P ops Q (o :: rest) a w :=
  wpList_plain hgd fun _ hK => wp_appendL1 ty s x ho hs hown ys ad m c hx hm hm0 hy h1 hf hb hbase fun g cap w' h2 h3 h4 => hK _ _ (h g cap w' h2 h3 h4)

/-- a literal slice of one -/
theorem OwnL.lit1 {B g : Nat} {cs : Array Value} {x : α} (h : w.heap[g]? = some (.cells cs e (0, 0))) (hB : B ≤ g) (hcs : cs.toList = f x) (hsz : (f x).length = sz) : OwnL f e sz w B (.slice (some ⟨g, 0, none⟩) 1 1) [x] := by
  have h1 : cs.size = sz := by rw [← hsz, ← hcs]; simp
  refine ⟨by simp [hsz], .inr ⟨g, 1, cs, rfl, hB, h, Nat.le_refl _, by unfold maxLen; omega, by rw [h1, Nat.one_mul], ?_⟩⟩
  simp only [List.length_singleton, Nat.one_mul, List.flatMap_cons, List.flatMap_nil, List.append_nil]
  rw [List.take_of_length_le (by rw [hcs, hsz]; exact Nat.le_refl _), hcs]
/-- the cells of an owned row -/
theorem OwnL.at_cells {g n c : Nat} (h : OwnL f e sz w base (.slice (some ⟨g, 0, none⟩) n c) l) : ∀ (j : Nat) (u : Value), (l.flatMap f)[j]? = some u → w.cell? ((⟨g, 0, none⟩ : Addr).add j) = some u := World.ownsRow.cells (g := g) h rfl
theorem OwnL.shape (h : OwnL f e sz w base v l) (hl : 0 < l.length) : ∃ g c, v = .slice (some ⟨g, 0, none⟩) l.length c ∧ g < w.heap.size ∧ base ≤ g := by
  rcases h.2 with ⟨_, h0⟩ | ⟨g, cap, cur, rfl, hb, hg, _⟩
  · omega
  · exact ⟨g, cap, rfl, (Array.getElem?_eq_some_iff.1 hg).1, hb⟩
end
theorem OwnL.len {α : Type} {f : α → List Value} {e sz : Nat} {w : World} {base : Nat} {l : List α} {a : Addr} {n c : Nat} (h : OwnL f e sz w base (.slice (some a) n c) l) : n = l.length := by
  rcases h.2 with ⟨h, _⟩ | ⟨g, cap, cur, h, _⟩
  · cases h
  · injection h
end Go.Proofs.YtjebgfpcmooniaaGreatDoor

namespace Go.Proofs.YtjebgfpcmooniaaGreatDoor
open Go Go.RowKit

/-- the package's operation for a number -/
def opOf (n : Int) : Int := if n = -1 then -1 else if n = 1 then 1 else 0

theorem st25 : STy Tryz.prog 25 64 2 24 := STy.mk' (by kernel_rfl) (show _ = some (some (.agg #[.int .i64 0, .string ByteArray.empty]), 2, 24) from by kernel_rfl) rfl (by omega) (by omega)
theorem st77 : STy Tryz.prog 77 128 2 24 := STy.mk' (by kernel_rfl) (show _ = some (some (.agg #[.int .i8 0, .string ByteArray.empty]), 2, 24) from by kernel_rfl) rfl (by omega) (by omega)

theorem region_tail {P : Program} {id : Nat} {Q : Exit → Act → World → Prop} {a : Act} {w : World} {l : List Oper} (n : Nat) (hm : P.follows .mixedOrders = true) (hB : Region.lexTailB .any l.toArray n = true)
    (h : wpStill P l.toArray w.drew (fun a' => wpList P l.toArray Q (l.drop n) a' w.drew) (l.take n) a) : (Code.region id l.toArray true).wp P Q a w :=
  wp_region_still_tail n hm hB h

theorem operation_any (n : Int) (w : World) :
    Calls Tryz.prog 87 #[.int .i64 n] w fun e w' => e = .returned (.int .i8 (opOf n)) ∧ w = w' := by
  by_cases h1 : n = -1
  · subst h1
    go_enter Tryz.func87, Tryz.ntmps87
    go_wp2
    go_ret
    exact ⟨rfl, rfl⟩
  · by_cases h2 : n = 1
    · subst h2
      go_enter Tryz.func87, Tryz.ntmps87
      go_wp2
      go_ret
      exact ⟨rfl, rfl⟩
    · have e1 : (n == -1) = false := by simpa using h1
      have e2 : (n == 1) = false := by simpa using h2
      have e3 : Hid (opOf n = 0) := by show opOf n = 0; simp [opOf, h1, h2]
      clear h1 h2
      go_enter Tryz.func87, Tryz.ntmps87
      go_wp2
      go_ret
      rw [e3.out]
      exact ⟨rfl, rfl⟩

/-- a part of a difference -/
structure D where
  op : Int
  t : ByteArray

def dI (d : D) : List Value := [.int .i64 d.op, .string d.t]
def dP (d : D) : List Value := [.int .i8 d.op, .string d.t]
theorem dI_len (d : D) : (dI d).length = 2 := rfl
theorem dP_len (d : D) : (dP d).length = 2 := rfl
theorem dI_one (d : D) : ∀ u ∈ dI d, u.oneCell' = true := by intro u hu; simp [dI] at hu; rcases hu with rfl | rfl <;> rfl
theorem dP_one (d : D) : ∀ u ∈ dP d, u.oneCell' = true := by intro u hu; simp [dP] at hu; rcases hu with rfl | rfl <;> rfl
def madeD (d : D) : D := ⟨opOf d.op, d.t⟩

theorem rd_dI {w : World} {B : Nat} {A : Option Addr} {n k : Nat} {l : List D} (h : RdL dI 2 w B A n l) (hk : k < n) :
    ∃ ad d, A = some ad ∧ ad.block < B ∧ l[k]? = some d ∧ w.cell? (ad.add (k * 2)) = some (.int .i64 d.op) ∧ w.cell? ⟨(ad.add (k * 2)).block, (ad.add (k * 2)).off + 1, none⟩ = some (.string d.t) := by
  obtain ⟨ad, d, rfl, hab, hd, hc⟩ := h.at_ hk
  exact ⟨ad, d, rfl, hab, hd, by simpa [add_zero'] using hc 0 _ rfl, by simpa [Addr.add] using hc 1 _ rfl⟩
theorem rd_dP {w : World} {B : Nat} {A : Option Addr} {n k : Nat} {l : List D} (h : RdL dP 2 w B A n l) (hk : k < n) :
    ∃ ad d, A = some ad ∧ ad.block < B ∧ l[k]? = some d ∧ w.cell? (ad.add (k * 2)) = some (.int .i8 d.op) ∧ w.cell? ⟨(ad.add (k * 2)).block, (ad.add (k * 2)).off + 1, none⟩ = some (.string d.t) := by
  obtain ⟨ad, d, rfl, hab, hd, hc⟩ := h.at_ hk
  exact ⟨ad, d, rfl, hab, hd, by simpa [add_zero'] using hc 0 _ rfl, by simpa [Addr.add] using hc 1 _ rfl⟩

set_option maxRecDepth 100000 in
set_option maxHeartbeats 400000 in
theorem made_any (A : Option Addr) (n c : Nat) (l : List D) (w : World) (hr : RdL dI 2 w w.heap.size A n l) (hn : n ≤ 1000000) :
    Calls Tryz.prog 49 #[.slice A n c] w fun e w' => ∃ v, e = .returned v ∧ OwnL dP 128 2 w' w.heap.size v (l.map madeD) ∧ Below w.heap.size w w' := by
  go_enter Tryz.func49, Tryz.ntmps49
  go_wp2
  go_loopw [3, 8] (fun v i wr => ∃ (k : Nat) (acc : List D), k ≤ n ∧ i = .int .i64 k ∧ acc = (l.take k).map madeD ∧ OwnL dP 128 2 wr w.heap.size v acc ∧ Below w.heap.size w wr) (fun _ i _ => n - (intOf i).toNat)
  case atStart => exact ⟨0, [], by omega, rfl, rfl, OwnL.nil _ _, Below.refl _ _⟩
  case round =>
    obtain ⟨k, acc, hk, rfl, hacc, hown, hb⟩ := hrel
    have hal : acc.length ≤ k := by rw [hacc]; simp; omega
    have Hacc := Lib.hid hacc
    clear hacc
    by_cases hlt : k < n
    · obtain ⟨ad, d, rfl, hab, hd, c0, c1⟩ := rd_dI (hr.below hb) hlt
      have ho : some wr.heap.size ≠ u3.ownBlock := fun e => by have := hown.lt _ e.symm; omega
      have Hd := Lib.hid hd
      clear hd
      go_wp2_with fail
      go_region_held3 (fun w' => w'.cell? ⟨wr.heap.size, 0, none⟩ = some (.int .i64 d.op) ∧ w'.cell? ⟨wr.heap.size, 1, none⟩ = some (.string d.t))
        (first | go_keep | (go_split_ands; exact ⟨hg1.cell (by assumption) ho, hg1.cell (by assumption) ho⟩))
        (first | (go_at_call 87; refine (operation_any _ _).mono ?_; rintro e w' ⟨rfl, rfl⟩) | (refine step_push st77 (by rfl) _ _ (by rfl) (by rfl) ((hown.alloc _).alloc _).drew (madeD d) ⟨wr.heap.size + 1, 0, none⟩ 1 (by rfl) dP_len (dP_one _) (by omega) (by have := hb.size; simp; omega) (cells2_of (heap_alloc_at (wr.alloc _) _ _ (by simp))) ?_; intro g cap w1 hown1 hg1 hat1))
      go_wp2
      go_roundw
      case rel => exact ⟨k + 1, acc ++ [madeD d], by omega, by go_num, by rw [Hacc.out, take_succ_some Hd.out, List.map_append]; rfl, hown1, ((((hb.alloc hb.size _).alloc (by have := hb.size; simp; omega) _).drew).grown hg1 (by have := hb.size; simp; omega) (fun j hj => (hown.lt j hj).1))⟩
      case measure => simp [intOf]; omega
    · go_wp2
      go_ret
      have : k = n := by omega
      subst this
      refine ⟨_, rfl, ?_, hb⟩
      have e := Hacc.out
      rw [List.take_of_length_le (by rw [hr.1]; omega)] at e
      rw [← e]
      exact hown

set_option maxRecDepth 100000 in
set_option maxHeartbeats 400000 in
theorem list_any (A : Option Addr) (n c : Nat) (l : List D) (w : World) (hr : RdL dP 2 w w.heap.size A n l) (hn : n ≤ 1000000) (hwf : ∀ d ∈ l, -1 ≤ d.op ∧ d.op ≤ 1) :
    Calls Tryz.prog 67 #[.slice A n c] w fun e w' => ∃ v, e = .returned v ∧ OwnL dI 64 2 w' w.heap.size v l ∧ Below w.heap.size w w' := by
  go_enter Tryz.func67, Tryz.ntmps67
  go_wp2
  go_loopw [3, 8] (fun v i wr => ∃ (k : Nat) (acc : List D), k ≤ n ∧ i = .int .i64 k ∧ acc = l.take k ∧ OwnL dI 64 2 wr w.heap.size v acc ∧ Below w.heap.size w wr) (fun _ i _ => n - (intOf i).toNat)
  case atStart => exact ⟨0, [], by omega, rfl, rfl, OwnL.nil _ _, Below.refl _ _⟩
  case round =>
    obtain ⟨k, acc, hk, rfl, hacc, hown, hb⟩ := hrel
    have hal : acc.length ≤ k := by rw [hacc]; simp; omega
    have Hacc := Lib.hid hacc
    clear hacc
    by_cases hlt : k < n
    · obtain ⟨ad, d, rfl, hab, hd, c0, c1⟩ := rd_dP (hr.below hb) hlt
      obtain ⟨b1, b2⟩ := hwf d (List.mem_of_getElem? hd)
      have Hd := Lib.hid hd
      clear hd hwf
      go_wp2_with (at_builtin; refine wpList_push st25 rfl _ _ rfl rfl ((hown.alloc _).alloc _) d ⟨wr.heap.size + 1, 0, none⟩ 1 (by rfl) dI_len (dI_one _) (by omega) (by have := hb.size; simp; omega) (cells2_of (heap_alloc_at (wr.alloc _) _ _ (by simp))) ?_; intro g cap w1 hown1 hg1 hat1)
      go_roundw
      case rel => exact ⟨k + 1, acc ++ [d], by omega, by go_num, by rw [Hacc.out, take_succ_some Hd.out], hown1, ((((hb.alloc hb.size _).alloc (by have := hb.size; simp; omega) _)).grown hg1 (by have := hb.size; simp; omega) (fun j hj => (hown.lt j hj).1))⟩
      case measure => simp [intOf]; omega
    · go_wp2
      go_ret
      have : k = n := by omega
      subst this
      refine ⟨_, rfl, ?_, hb⟩
      have e := Hacc.out
      rw [List.take_of_length_le (by rw [hr.1]; omega)] at e
      rw [← e]
      exact hown
end Go.Proofs.YtjebgfpcmooniaaGreatDoor

namespace Go.Proofs.YtjebgfpcmooniaaGreatDoor
open Go Go.RowKit

/-- a text's bytes -/
abbrev tb (s : ByteArray) : List UInt8 := s.data.toList

theorem tb_length (s : ByteArray) : (tb s).length = s.size := by rw [tb, Array.length_toList]; rfl
theorem tb_extract (s : ByteArray) (i j : Nat) : tb (s.extract i j) = ((tb s).take j).drop i := by
  simp [tb, ByteArray.data_extract, Array.toList_extract, List.drop_take]
theorem toList_tb (s : ByteArray) : s.toList = tb s := ByteArray.toList_eq s
theorem tb_inj {s t : ByteArray} (h : tb s = tb t) : s = t := by
  cases s; cases t; simp [tb] at h; simp [ByteArray.mk.injEq]; exact h

/-- a pattern stands at a place -/
def isAt (s p : List UInt8) (k : Nat) : Prop := k + p.length ≤ s.length ∧ (s.drop k).take p.length = p
/-- the first place at which a pattern stands -/
def IdxSpec (s p : List UInt8) (n : Int) : Prop := (n = -1 ∧ ∀ k, ¬ isAt s p k) ∨ ∃ k : Nat, n = k ∧ isAt s p k ∧ ∀ j, j < k → ¬ isAt s p j

theorem isAt_extract (s p : ByteArray) (k : Nat) (h : k + p.size ≤ s.size) : ((s.extract k (k + p.size)).toList == p.toList) = true ↔ isAt (tb s) (tb p) k := by
  rw [beq_iff_eq, toList_tb, toList_tb, tb_extract]
  unfold isAt
  rw [tb_length, tb_length]
  have e : ((tb s).take (k + p.size)).drop k = ((tb s).drop k).take p.size := by rw [List.drop_take]; simp
  rw [e]
  exact ⟨fun h' => ⟨h, h'⟩, fun h' => h'.2⟩

def IdxPost (s p : ByteArray) (w : World) (e : Ending) (w' : World) : Prop := ∃ n : Int, e = .returned (.int .i64 n) ∧ IdxSpec (tb s) (tb p) n ∧ w = w'

set_option maxHeartbeats 400000 in
theorem zzIndex_any (s sub : ByteArray) (w : World) (hs : s.size ≤ 140737488351232) (hsub : sub.size ≤ 140737488351232) :
    Calls Tryz.prog 142 #[.string s, .string sub] w (IdxPost s sub w) := by
  go_enter Tryz.func142, Tryz.ntmps142
  go_wp2
  go_loop [5] (fun i => ∃ k : Nat, k ≤ s.size + 1 ∧ i = .int .i64 k ∧ Hid (∀ j, j < k → ¬ isAt (tb s) (tb sub) j)) (fun i => s.size + 1 - (intOf i).toNat)
  case atStart => exact ⟨0, by omega, rfl, fun j hj => absurd hj (by omega)⟩
  case round =>
    obtain ⟨k, hk, rfl, hno⟩ := hrel
    by_cases hlt : k + sub.size ≤ s.size
    · have hiff := Lib.hid (isAt_extract s sub k hlt)
      go_wp2
      · rename_i he _
        go_ret
        exact ⟨k, rfl, .inr ⟨k, rfl, hiff.out.1 he, hno.out⟩, rfl⟩
      · rename_i he
        go_round
        case rel =>
          refine ⟨k + 1, by omega, by go_num, fun j hj hat => ?_⟩
          rcases Nat.lt_succ_iff_lt_or_eq.1 hj with h | rfl
          · exact hno.out j h hat
          · have := hiff.out.2 hat; rw [he] at this; cases this
        case measure => simp [intOf]; omega
    · go_wp2
      go_ret
      refine ⟨-1, rfl, .inl ⟨rfl, fun j hat => ?_⟩, rfl⟩
      rcases Nat.lt_or_ge j k with h | h
      · exact hno.out j h hat
      · have := hat.1; rw [tb_length, tb_length] at this; omega

theorem min_any (x y : Int) (w : World) : Calls Tryz.prog 134 #[.int .i64 x, .int .i64 y] w fun e w' => e = .returned (.int .i64 (min x y)) ∧ w = w' := by
  by_cases h : x < y
  · have e : Hid (min x y = x) := by show min x y = x; omega
    go_enter Tryz.func134, Tryz.ntmps134
    go_wp2
    go_ret
    exact ⟨by rw [e.out]; rfl, rfl⟩
  · have e : Hid (min x y = y) := by show min x y = y; omega
    go_enter Tryz.func134, Tryz.ntmps134
    go_wp2
    go_ret
    exact ⟨by rw [e.out]; rfl, rfl⟩
theorem max_any (x y : Int) (w : World) : Calls Tryz.prog 135 #[.int .i64 x, .int .i64 y] w fun e w' => e = .returned (.int .i64 (max x y)) ∧ w = w' := by
  by_cases h : y < x
  · have e : Hid (max x y = x) := by show max x y = x; omega
    go_enter Tryz.func135, Tryz.ntmps135
    go_wp2
    go_ret
    exact ⟨by rw [e.out]; rfl, rfl⟩
  · have e : Hid (max x y = y) := by show max x y = y; omega
    go_enter Tryz.func135, Tryz.ntmps135
    go_wp2
    go_ret
    exact ⟨by rw [e.out]; rfl, rfl⟩
end Go.Proofs.YtjebgfpcmooniaaGreatDoor

namespace Go.Proofs.YtjebgfpcmooniaaGreatDoor
open Go Go.RowKit

def rI (n : Int) : List Value := [.int .i32 n]
theorem rI_len (n : Int) : (rI n).length = 1 := rfl
theorem rI_one (n : Int) : ∀ u ∈ rI n, u.oneCell' = true := by intro u hu; simp [rI] at hu; subst hu; rfl
theorem rI_flat (l : List Int) : l.flatMap rI = l.map (Value.int .i32) := by
  induction l with
  | nil => rfl
  | cons a t ih => simp [List.flatMap_cons, rI, ih]

/-- a text's characters -/
def runesL (s : ByteArray) : List Int := (Conv.runesFrom s s.size 0 #[]).toList.map intOf
theorem runesFrom_ints (s : ByteArray) : ∀ (bound i : Nat) (acc : Array Value) (ns : List Int), acc.toList = ns.map (Value.int .i32) → ∃ ms, (Conv.runesFrom s bound i acc).toList = (ns ++ ms).map (Value.int .i32) ∧ ∀ m ∈ ms, 0 ≤ m
  | 0, _, acc, ns, h => ⟨[], by simpa [Conv.runesFrom] using h, by simp⟩
  | bound + 1, i, acc, ns, h => by
    unfold Conv.runesFrom
    split
    · obtain ⟨ms, h1, h2⟩ := runesFrom_ints s bound (i + (Utf8.decode s i).2) (acc.push (.int .i32 (Int.ofNat (Utf8.decode s i).1))) (ns ++ [Int.ofNat (Utf8.decode s i).1]) (by simp [h])
      refine ⟨Int.ofNat (Utf8.decode s i).1 :: ms, ?_, ?_⟩
      · rw [h1]; simp
      · intro m hm
        rcases List.mem_cons.1 hm with rfl | hm
        · exact Int.natCast_nonneg _
        · exact h2 m hm
    · exact ⟨[], by simpa using h, by simp⟩
theorem runesL_spec (s : ByteArray) : (Conv.runesFrom s s.size 0 #[]).toList = (runesL s).map (Value.int .i32) := by
  obtain ⟨ms, h, _⟩ := runesFrom_ints s s.size 0 #[] [] rfl
  unfold runesL
  rw [h]
  simp [intOf]
theorem runesL_nonneg (s : ByteArray) : ∀ m ∈ runesL s, 0 ≤ m := by
  obtain ⟨ms, h, h0⟩ := runesFrom_ints s s.size 0 #[] [] rfl
  unfold runesL
  rw [h]
  simpa [intOf] using h0
theorem runesL_length (s : ByteArray) : (Conv.runesFrom s s.size 0 #[]).size = (runesL s).length := by simp [runesL]
theorem runesL_le (s : ByteArray) : (runesL s).length ≤ s.size := by
  have := size_runesFrom s s.size 0 #[]
  rw [runesL_length] at this
  simpa using this

theorem st92 : STy Tryz.prog 92 21 1 4 := STy.mk' (by kernel_rfl) (show _ = some (some (.int .i32 0), 1, 4) from by kernel_rfl) rfl (by omega) (by omega)
theorem u9 : Tryz.prog.underlying 9 = some .string := by kernel_rfl
theorem u21 : Tryz.prog.underlying 21 = some (.int .i32) := by kernel_rfl
theorem u92 : Tryz.prog.underlying 92 = some (.slice 21) := by kernel_rfl
theorem u96 : Tryz.prog.underlying 96 = some (.slice 5) := by kernel_rfl
theorem u5 : Tryz.prog.underlying 5 = some (.int .u8) := by kernel_rfl

/-- '[]rune(s)' -/
theorem conv_runes (s : ByteArray) (w : World) (hs : s.size ≤ 2147483648) : ∃ v w', (convert 9 92 (.string s)).run Tryz.prog w = .ok v w' ∧ (∃ g cap, v = .slice (some ⟨g, 0, none⟩) (runesL s).length cap) ∧ OwnL rI 21 1 w' w.heap.size v (runesL s) ∧ Below w.heap.size w w' := by
  have hle := runesL_le s
  have hr := run_runes_of_string (P := Tryz.prog) w 9 92 21 s u9 u92 u21 (by rw [runesL_length]; omega)
  refine ⟨_, _, hr, ⟨_, _, by rw [runesL_length]⟩, ?_, ((Below.refl _ _).drew).alloc (Nat.le_refl _) _⟩
  have hge := grownCap_ge w (Conv.runesFrom s s.size 0 #[]).size 0 21
  have hcm := grownCap_le_maxLen w (Conv.runesFrom s s.size 0 #[]).size 0 21 (by rw [runesL_length]; unfold maxLen; omega)
  refine ⟨by rw [rI_flat]; simp, .inr ⟨w.heap.size, _, _, by rw [← runesL_length], Nat.le_refl _, heap_alloc_new w.drew _, by rw [← runesL_length]; exact hge, hcm, ?_, ?_⟩⟩
  · simp only [Array.size_append, Array.size_replicate]; omega
  · rw [rI_flat, ← runesL_spec, Array.toList_append, ← runesL_length, Nat.mul_one]
    exact List.take_left

def RunesPost (s : ByteArray) (w : World) (e : Ending) (w' : World) : Prop := ∃ v, e = .returned v ∧ (∃ g cap, v = .slice (some ⟨g, 0, none⟩) (runesL s).length cap) ∧ OwnL rI 21 1 w' w.heap.size v (runesL s) ∧ Below w.heap.size w w'

theorem runes_any (s : ByteArray) (w : World) (hs : s.size ≤ 2147483648) : Calls Tryz.prog 57 #[.string s] w (RunesPost s w) := by
  obtain ⟨v, w', hr, hv, hown, hb⟩ := conv_runes s w hs
  obtain ⟨g, cap, rfl⟩ := hv
  go_enter Tryz.func57, Tryz.ntmps57
  go_wp2
  go_ret
  exact ⟨_, rfl, ⟨g, cap, rfl⟩, hown, hb⟩

/-- 'string(r)' of owned characters, the first m of them -/
theorem conv_string {base g cap m : Nat} {zs : List Int} {w : World} (hown : OwnL rI 21 1 w base (.slice (some ⟨g, 0, none⟩) zs.length cap) zs) (hm : m ≤ zs.length) :
    (convert 92 9 (.slice (some ⟨g, 0, none⟩) m cap)).run Tryz.prog w = .ok (.string (runesBytes (zs.take m))) w := by
  refine run_convert_runes w 92 9 21 ⟨g, 0, none⟩ m cap zs hm u92 u21 u9 fun j hj => ?_
  have := World.ownsRow.cells (g := g) hown rfl j (.int .i32 (zs.getD j 0)) (by rw [rI_flat]; simp [List.getElem?_eq_getElem hj])
  exact this

/-- the first characters of a text -/
def cleanT (s : ByteArray) (m : Nat) : ByteArray := runesBytes ((runesL s).take m)
theorem cleanT_size (s : ByteArray) (m : Nat) : (cleanT s m).size ≤ 4 * m := by
  have := runesBytes_size_le ((runesL s).take m)
  have h2 : ((runesL s).take m).length ≤ m := List.length_take_le _ _
  unfold cleanT
  omega

theorem clean_any (s : ByteArray) (m : Nat) (w : World) (hs : s.size ≤ 2147483648) (hm : m ≤ 2147483648) :
    Calls Tryz.prog 28 #[.string s, .int .i64 m] w fun e w' => e = .returned (.string (cleanT s m)) ∧ Below w.heap.size w w' := by
  have hle := runesL_le s
  go_enter Tryz.func28, Tryz.ntmps28
  go_wp2_with fail
  refine (runes_any s _ hs).mono ?_
  rintro e w1 ⟨v, rfl, ⟨g, cap, rfl⟩, hown, hb⟩
  have hcap : (runesL s).length ≤ cap := by
    rcases hown.2 with ⟨h, _⟩ | ⟨g', cap', cur, h, _, _, hc, _⟩
    · cases h
    · injection h with _ _ h; subst h; exact hc
  have hcm : cap ≤ 9223372036854775807 := by
    rcases hown.2 with ⟨h, _⟩ | ⟨g', cap', cur, h, _, _, hc, hc2, _⟩
    · cases h
    · injection h with _ _ h; subst h; exact hc2
  by_cases hlt : m < (runesL s).length
  · have hcv := conv_string (m := m) hown (by omega)
    go_wp2
    go_ret
    exact ⟨rfl, hb⟩
  · have hcv := conv_string (m := (runesL s).length) hown (by omega)
    have e1 : Hid (runesBytes ((runesL s).take (runesL s).length) = cleanT s m) := by
      show _ = runesBytes _
      rw [List.take_of_length_le (Nat.le_refl _), List.take_of_length_le (by omega)]
    have e2 := e1.out
    rw [e2] at hcv
    clear e2
    go_wp2
    go_ret
    exact ⟨rfl, hb⟩

theorem st96 : STy Tryz.prog 96 5 1 1 := STy.mk' (by kernel_rfl) (show _ = some (some (.int .u8 0), 1, 1) from by kernel_rfl) rfl (by omega) (by omega)
def bI (n : Int) : List Value := [.int .u8 n]
theorem bI_len (n : Int) : (bI n).length = 1 := rfl
theorem bI_one (n : Int) : ∀ u ∈ bI n, u.oneCell' = true := by intro u hu; simp [bI] at hu; subst hu; rfl

end Go.Proofs.YtjebgfpcmooniaaGreatDoor

namespace Go.Proofs.YtjebgfpcmooniaaGreatDoor
open Go Go.RowKit

def b8 (b : UInt8) : List Value := [.int .u8 (b.toNat : Int)]
theorem b8_len (b : UInt8) : (b8 b).length = 1 := rfl
theorem b8_one (b : UInt8) : ∀ u ∈ b8 b, u.oneCell' = true := by intro u hu; simp [b8] at hu; subst hu; rfl

/-- a byte, one beyond ASCII as a small letter -/
def plainB (c : UInt8) : UInt8 := if 128 ≤ c.toNat then UInt8.ofNat (97 + c.toNat % 26) else c
theorem plainB_lt (c : UInt8) : (plainB c).toNat < 128 := by
  unfold plainB
  split
  · have : c.toNat % 26 < 26 := Nat.mod_lt _ (by omega)
    simp; omega
  · omega
theorem plainB_hi (c : UInt8) (h : 128 ≤ c.toNat) : ((plainB c).toNat : Int) = 97 + (c.toNat : Int) % 26 := by
  unfold plainB
  rw [if_pos h]
  have : c.toNat % 26 < 26 := Nat.mod_lt _ (by omega)
  simp; omega
theorem plainB_lo (c : UInt8) (h : ¬ 128 ≤ c.toNat) : plainB c = c := by unfold plainB; rw [if_neg h]

theorem b8_hi (c : UInt8) (h : (128 : Int) ≤ c.toNat) : b8 (plainB c) = [.int .u8 (97 + (c.toNat : Int) % 26)] := by rw [b8, plainB_hi c (by omega)]
theorem b8_lo (c : UInt8) (h : ¬ (128 : Int) ≤ c.toNat) : b8 (plainB c) = [.int .u8 (c.toNat : Int)] := by rw [b8, plainB_lo c (by omega)]
theorem b8_hi_cells (c : UInt8) (h : (128 : Int) ≤ c.toNat) {w : World} {g : Nat} {t : TypeId} (hg : w.heap[g]? = some (.cells #[.int .u8 (97 + (c.toNat : Int) % 26)] t (0, 0))) : ∀ (j : Nat) (u : Value), (b8 (plainB c))[j]? = some u → w.cell? ((⟨g, 0, none⟩ : Addr).add j) = some u := by
  rw [b8_hi c h]; exact cells1_of hg
theorem b8_lo_cells (c : UInt8) (h : ¬ (128 : Int) ≤ c.toNat) {w : World} {g : Nat} {t : TypeId} (hg : w.heap[g]? = some (.cells #[.int .u8 (c.toNat : Int)] t (0, 0))) : ∀ (j : Nat) (u : Value), (b8 (plainB c))[j]? = some u → w.cell? ((⟨g, 0, none⟩ : Addr).add j) = some u := by
  rw [b8_lo c h]; exact cells1_of hg
def plainL (l : List UInt8) : List UInt8 := (l.take 400).map plainB

/-- 'string(b)' of owned bytes -/
theorem conv_bytes {base : Nat} {v : Value} {l : List UInt8} {w : World} (hown : OwnL b8 5 1 w base v l) :
    (convert 96 9 v).run Tryz.prog w = .ok (.string ⟨l.toArray⟩) w := by
  rcases hown.2 with ⟨rfl, h0⟩ | ⟨g, cap, cur, rfl, _⟩
  · have : l = [] := List.eq_nil_of_length_eq_zero h0
    subst this
    rw [run_convert_bytes_string w 96 9 5 none 0 0 u96 u5 u9]
    rfl
  · refine run_convert_bytes_back w 96 9 5 ⟨g, 0, none⟩ cap l u96 u5 u9 fun j hj => ?_
    refine World.ownsRow.cells (g := g) hown rfl j _ ?_
    have : (l.flatMap b8)[j * 1 + 0]? = (b8 l[j])[0]? := flat_at b8_len l j l[j] (List.getElem?_eq_getElem hj) 0 (by omega)
    simpa [b8] using this

theorem relP (s : ByteArray) (k : Nat) (acc : List UInt8) (hlt : k < s.size) (h4 : k < 400) (Hl : Hid (acc.length = k)) (Hacc : Hid (acc = ((tb s).take k).map plainB)) {w wr w1 : World} {v : Value} {g cap : Nat} {o : Obj}
    (hb : Below w.heap.size w wr) (hown : OwnL b8 5 1 wr w.heap.size v acc) (hown1 : OwnL b8 5 1 w1 w.heap.size (.slice (some ⟨g, 0, none⟩) (acc.length + 1) cap) (acc ++ [plainB (s[k]'hlt)])) (hg1 : (wr.alloc o).grownBy w1 v.ownBlock) :
    ∃ (k' : Nat) (acc' : List UInt8), k' ≤ s.size ∧ k' ≤ 400 ∧ acc'.length = k' ∧ Value.int .i64 ((k : Int) + 1) = .int .i64 k' ∧ Hid (acc' = ((tb s).take k').map plainB) ∧ (∃ A c, Value.slice (some ⟨g, 0, none⟩) (acc.length + 1) cap = .slice A acc'.length c) ∧ OwnL b8 5 1 w1 w.heap.size (.slice (some ⟨g, 0, none⟩) (acc.length + 1) cap) acc' ∧ Below w.heap.size w w1 := by
  refine ⟨k + 1, acc ++ [plainB (s[k]'hlt)], by omega, by omega, by rw [List.length_append, Hl.out]; rfl, by go_num, ?_, ⟨_, _, by rw [List.length_append]; rfl⟩, hown1, (hb.alloc hb.size _).grown hg1 (le_al hb.size) (fun j hj => (hown.lt j hj).1)⟩
  show _ = _
  rw [Hacc.out, take_succ_some (x := s[k]'hlt) (by rw [List.getElem?_eq_getElem (by rw [tb_length]; omega)]; rfl), List.map_append]
  rfl

set_option maxRecDepth 100000 in
set_option maxHeartbeats 400000 in
theorem ptPlain_any (s : ByteArray) (w : World) (hs : s.size ≤ 2147483648) :
    Calls Tryz.prog 26 #[.string s] w fun e w' => e = .returned (.string ⟨(plainL (tb s)).toArray⟩) ∧ Below w.heap.size w w' := by
  go_enter Tryz.func26, Tryz.ntmps26
  go_wp2
  go_loopw [3, 4] (fun v i wr => ∃ (k : Nat) (acc : List UInt8), k ≤ s.size ∧ k ≤ 400 ∧ acc.length = k ∧ i = .int .i64 k ∧ Hid (acc = ((tb s).take k).map plainB) ∧ (∃ A c, v = .slice A acc.length c) ∧ OwnL b8 5 1 wr w.heap.size v acc ∧ Below w.heap.size w wr) (fun _ i _ => s.size - (intOf i).toNat)
  case atStart => exact ⟨0, [], by omega, by omega, rfl, rfl, rfl, ⟨none, 0, rfl⟩, OwnL.nil _ _, Below.refl _ _⟩
  case round =>
    obtain ⟨k, acc, hk, hk4, hl, rfl, Hacc, ⟨A, c, rfl⟩, hown, hb⟩ := hrel
    have hl1 : acc.length ≤ k := by omega
    have hl2 : k ≤ acc.length := by omega
    have Hl := Lib.hid hl
    clear hl
    by_cases hlt : k < s.size ∧ k < 400
    · obtain ⟨hlt, h4⟩ := hlt
      go_wp2_with (at_builtin; refine Hid.out ?_)
      · refine Lib.hid ?_
        have h128 : (128 : Int) ≤ (s[k]'hlt).toNat := by assumption
        refine wpList_push (P := Tryz.prog) st96 rfl _ _ rfl rfl (hown.alloc _) (plainB (s[k]'hlt)) ⟨wr.heap.size, 0, none⟩ 1 (by rfl) b8_len (b8_one _) (by omega) (le_al hb.size) (b8_hi_cells _ h128 (heap_alloc_new _ _)) ?_
        intro g cap w1 hown1 hg1 hat1
        go_wp2
        go_roundw
        case rel => exact relP s k acc hlt (by omega) Hl Hacc hb hown hown1 hg1
        case measure => simp [intOf]; omega
      · refine Lib.hid ?_
        have h128 : ¬ (128 : Int) ≤ (s[k]'hlt).toNat := by
          have : ((s[k]'hlt).toNat : Int) < 128 := by assumption
          omega
        refine wpList_push (P := Tryz.prog) st96 rfl _ _ rfl rfl (hown.alloc _) (plainB (s[k]'hlt)) ⟨wr.heap.size, 0, none⟩ 1 (by rfl) b8_len (b8_one _) (by omega) (le_al hb.size) (b8_lo_cells _ h128 (heap_alloc_new _ _)) ?_
        intro g cap w1 hown1 hg1 hat1
        go_wp2
        go_roundw
        case rel => exact relP s k acc hlt (by omega) Hl Hacc hb hown hown1 hg1
        case measure => simp [intOf]; omega
    · have hkk : Hid (⟨acc.toArray⟩ = (⟨(plainL (tb s)).toArray⟩ : ByteArray)) := by
        show _ = _
        rw [Hacc.out]
        unfold plainL
        congr 3
        by_cases h4 : k < 400
        · rw [List.take_of_length_le (by rw [tb_length]; omega), List.take_of_length_le (by rw [tb_length]; omega)]
        · rw [show k = 400 by omega]
      have hcv := conv_bytes hown
      by_cases hs1 : k < s.size
      · have h4 : ¬ k < 400 := by omega
        have h4' : ¬ acc.length < 400 := by omega
        go_wp2
        go_ret
        exact ⟨by rw [← hkk.out]; rfl, hb⟩
      · go_wp2
        go_ret
        exact ⟨by rw [← hkk.out]; rfl, hb⟩
end Go.Proofs.YtjebgfpcmooniaaGreatDoor
