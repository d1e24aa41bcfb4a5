/- PatchAddContext: a patch with more context from a text around it. -/
import Derived.Test.YtjebgfpcmooniaaGreatDoorZDmp
import Derived.Deep.CutBlock
namespace Go.Proofs.YtjebgfpcmooniaaGreatDoor
open Go Go.RowKit

theorem idx_exists (s p : List UInt8) : ∃ n, IdxSpec s p n := by
  by_cases h : ∃ k, isAt s p k
  · obtain ⟨k, hk⟩ := h
    induction k using Nat.strongRecOn with
    | _ k ih =>
      by_cases h2 : ∃ j, j < k ∧ isAt s p j
      · obtain ⟨j, hj, ha⟩ := h2
        exact ih j hj ha
      · exact ⟨k, .inr ⟨k, rfl, hk, fun j hj ha => h2 ⟨j, hj, ha⟩⟩⟩
  · exact ⟨-1, .inl ⟨rfl, fun k hk => h ⟨k, hk⟩⟩⟩
noncomputable def idxN (s p : List UInt8) : Int := Classical.choose (idx_exists s p)
theorem idxN_spec (s p : List UInt8) : IdxSpec s p (idxN s p) := Classical.choose_spec (idx_exists s p)
theorem idx_unique {s p : List UInt8} {a b : Int} (ha : IdxSpec s p a) (hb : IdxSpec s p b) : a = b := by
  rcases ha with ⟨rfl, h1⟩ | ⟨k, rfl, h1, h2⟩ <;> rcases hb with ⟨rfl, h3⟩ | ⟨j, rfl, h3, h4⟩
  · rfl
  · exact absurd h3 (h1 j)
  · exact absurd h1 (h3 k)
  · have : k = j := by
      rcases Nat.lt_trichotomy k j with h | h | h
      · exact absurd h1 (h4 k h)
      · exact h
      · exact absurd h3 (h2 j h)
    rw [this]
theorem zzIndex_fn (s sub : ByteArray) (w : World) (hs : s.size ≤ 140737488351232) (hsub : sub.size ≤ 140737488351232) :
    Calls Tryz.prog 142 #[.string s, .string sub] w fun e w' => e = .returned (.int .i64 (idxN (tb s) (tb sub))) ∧ w = w' :=
  (zzIndex_any s sub w hs hsub).mono fun _ _ ⟨_, he, hn, hw⟩ => ⟨by rw [he, idx_unique hn (idxN_spec _ _)], hw⟩
theorem idxN_same (s : List UInt8) : idxN s s = 0 := idx_unique (idxN_spec s s) (.inr ⟨0, rfl, ⟨by omega, by simp⟩, fun j hj => absurd hj (by omega)⟩)
theorem lastIndex_same (s : List UInt8) : Lib.lastIndex s s = 0 := by
  unfold Lib.lastIndex
  rw [if_pos (Nat.le_refl _), Nat.sub_self]
  have : Lib.occAt s s 0 = true := by simp [Lib.occAt]
  exact Lib.lastOcc_hit s s 0 this

theorem quiet_l {P : Program} {f : FuncId} {args : Array Value} {w : World} {n : Nat} {v : Value}
    (h : Calls P f args (w.drewN n) fun e w' => e = .returned v ∧ w.drewN n = w') : Calls P f args (w.drewN n) fun e w'' => e = .returned v ∧ ∃ m, w'' = w.drewN m :=
  h.mono fun _ _ ⟨he, hm⟩ => ⟨he, n, hm.symm⟩

theorem max0_sub (a b : Nat) (w : World) : Calls Tryz.prog 135 #[.int .i64 0, .int .i64 ((a : Int) - (b : Int))] w fun e w' => e = .returned (.int .i64 ((a - b : Nat) : Int)) ∧ w = w' :=
  (max_any 0 ((a : Int) - b) w).mono fun _ _ h => ⟨by rw [h.1, show max 0 ((a : Int) - b) = ((a - b : Nat) : Int) by omega], h.2⟩
theorem min_nat (a b : Nat) (w : World) : Calls Tryz.prog 134 #[.int .i64 (a : Int), .int .i64 (b : Int)] w fun e w' => e = .returned (.int .i64 ((min a b : Nat) : Int)) ∧ w = w' :=
  (min_any (a : Int) b w).mono fun _ _ h => ⟨by rw [h.1, show min (a : Int) (b : Int) = ((min a b : Nat) : Int) by omega], h.2⟩

/-- the world while a patch gets its context: its copy lies in block b, the result's place behind it -/
structure CW (w wr : World) (gd : Nat) (dv : Value) (ds : List D) (s1 s2 l1 l2 : Int) (tmo cost dist mar bits : Int) (th de : Nat) (row : Option Nat) : Prop where
  b4 : wr.heap[w.heap.size]? = some (.cells #[dv, .int .i64 s1, .int .i64 s2, .int .i64 l1, .int .i64 l2] 114 (0, 0))
  b6 : wr.heap[w.heap.size + 1]? = some (.cells #[.slice none 0 0, .int .i64 0, .int .i64 0, .int .i64 0, .int .i64 0] 114 (0, 0))
  dmp : DmpAt wr gd tmo cost dist mar bits th de
  own : OwnL dP 128 2 wr 0 dv ds
  gb : w.grownBy wr row
  sz : w.heap.size + 2 ≤ wr.heap.size
theorem CW.drewN {w wr : World} {gd : Nat} {dv : Value} {ds : List D} {s1 s2 l1 l2 tmo cost dist mar bits : Int} {th de : Nat} {row : Option Nat} (h : CW w wr gd dv ds s1 s2 l1 l2 tmo cost dist mar bits th de row) (n : Nat) : CW w (wr.drewN n) gd dv ds s1 s2 l1 l2 tmo cost dist mar bits th de row :=
  ⟨h.b4, h.b6, h.dmp, h.own, gb_drewN h.gb n, h.sz⟩

/-- the pattern with so much around it -/
def patAt (t : ByteArray) (s2 l1 p : Nat) : List UInt8 := ((tb t).take (s2 + l1 + p)).drop (s2 - p)
theorem patAt_whole {t : ByteArray} {s2 l1 p : Nat} (hs : s2 + l1 ≤ t.size) (hp : t.size ≤ p) : patAt t s2 l1 p = tb t := by
  unfold patAt
  rw [show s2 - p = 0 by omega, List.drop_zero, List.take_of_length_le (by rw [tb_length]; omega)]

/-- an equality ahead, unless there is none -/
def preD (p : ByteArray) (ds : List D) : List D := if p.size = 0 then ds else ⟨0, p⟩ :: ds
def sufD (ds : List D) (p : ByteArray) : List D := if p.size = 0 then ds else ds ++ [⟨0, p⟩]

/-- a store of the slice into the patch's copy -/
theorem CW.store {w wr w1 : World} {gd : Nat} {dv dv' : Value} {ds ds' : List D} {s1 s2 l1 l2 tmo cost dist mar bits : Int} {th de : Nat} {row row1 : Option Nat} (h : CW w wr gd dv ds s1 s2 l1 l2 tmo cost dist mar bits th de row) (hgd : gd < w.heap.size)
    (hg : wr.grownBy w1 row1) (hr : row1 = row ∨ ∀ g, row1 = some g → w.heap.size ≤ g) (hne : ∀ g, row1 = some g → g ≠ gd ∧ g ≠ w.heap.size ∧ g ≠ w.heap.size + 1) (hown : OwnL dP 128 2 w1 0 dv' ds') :
    CW w (w1.setCell ⟨w.heap.size, 0, none⟩ dv') gd dv' ds' s1 s2 l1 l2 tmo cost dist mar bits th de row := by
  have hsz := h.sz
  have b4 := gb_heap hg (i := w.heap.size) (by omega) (fun e => (hne _ e.symm).2.1 rfl) h.b4
  have b6 := gb_heap hg (i := w.heap.size + 1) (by omega) (fun e => (hne _ e.symm).2.2 rfl) h.b6
  have dm := gb_heap hg (i := gd) (by omega) (fun e => (hne _ e.symm).1 rfl) h.dmp
  refine ⟨?_, blk_far b6 (by simp) _, blk_far dm (by simp; omega) _, hown.setCell_other (own_block_ty hown b4 (by omega)) _, gb_setCell (gb_trans h.gb hg hr) (.inr (Nat.le_refl _)) _, by simpa [World.setCell] using Nat.le_trans hsz hg.size⟩
  have := blk_set b4 0 dv'
  simpa using this

theorem row_or {g1 g0 B : Nat} (h : g1 = g0 ∨ B ≤ g1) : (some g1 : Option Nat) = some g0 ∨ ∀ g, some g1 = some g → B ≤ g := by
  rcases h with rfl | h
  · exact .inl rfl
  · refine .inr fun g e => ?_
    injection e with e
    omega
theorem row_ne {g1 a b c : Nat} (ha : g1 ≠ a) (hb : g1 ≠ b) (hc : g1 ≠ c) : ∀ g, some g1 = some g → g ≠ a ∧ g ≠ b ∧ g ≠ c := by
  intro g e
  injection e with e
  subst e
  exact ⟨ha, hb, hc⟩
theorem new_row {g1 g0 g3 B m n c : Nat} (h : g1 = g0 ∨ B ≤ g1) (hat : (Value.slice (some ⟨g1, 0, none⟩) n c).ownBlock = some g3 ∨ g3 = m) (hm : B ≤ m) : g3 = g0 ∨ B ≤ g3 := by
  rcases hat with e | e
  · have : g1 = g3 := by simpa [Value.ownBlock] using e
    omega
  · omega

/-- the stores at the end: the numbers of the copy, then the result -/
def stB (w : World) (b : Nat) (s1 s2 l1 l2 : Int) : World := (((w.setCell ⟨b, 1, none⟩ (.int .i64 s1)).setCell ⟨b, 2, none⟩ (.int .i64 s2)).setCell ⟨b, 3, none⟩ (.int .i64 l1)).setCell ⟨b, 4, none⟩ (.int .i64 l2)
def stR (w : World) (b : Nat) (dv : Value) (s1 s2 l1 l2 : Int) : World := ((((w.setCell ⟨b, 0, none⟩ dv).setCell ⟨b, 1, none⟩ (.int .i64 s1)).setCell ⟨b, 2, none⟩ (.int .i64 s2)).setCell ⟨b, 3, none⟩ (.int .i64 l1)).setCell ⟨b, 4, none⟩ (.int .i64 l2)
theorem CW.finish {w wr : World} {gd : Nat} {dv : Value} {ds : List D} {s1 s2 l1 l2 tmo cost dist mar bits : Int} {th de : Nat} {row : Option Nat} (h : CW w wr gd dv ds s1 s2 l1 l2 tmo cost dist mar bits th de row) (x1 x2 y1 y2 : Int) :
    (stR (stB wr w.heap.size x1 x2 y1 y2) (w.heap.size + 1) dv x1 x2 y1 y2).heap[w.heap.size + 1]? = some (.cells #[dv, .int .i64 x1, .int .i64 x2, .int .i64 y1, .int .i64 y2] 114 (0, 0)) ∧
    OwnL dP 128 2 (stR (stB wr w.heap.size x1 x2 y1 y2) (w.heap.size + 1) dv x1 x2 y1 y2) 0 dv ds ∧ w.grownBy (stR (stB wr w.heap.size x1 x2 y1 y2) (w.heap.size + 1) dv x1 x2 y1 y2) row := by
  have t4 := own_block_ty h.own h.b4 (by omega)
  have t6 := own_block_ty h.own h.b6 (by omega)
  unfold stR stB
  refine ⟨?_, ?_, ?_⟩
  · have e := blk_far (blk_far (blk_far (blk_far h.b6 (p := ⟨w.heap.size, 1, none⟩) (by simp) (.int .i64 x1)) (p := ⟨w.heap.size, 2, none⟩) (by simp) (.int .i64 x2)) (p := ⟨w.heap.size, 3, none⟩) (by simp) (.int .i64 y1)) (p := ⟨w.heap.size, 4, none⟩) (by simp) (.int .i64 y2)
    have e2 := blk_set (blk_set (blk_set (blk_set (blk_set e 0 dv) 1 (.int .i64 x1)) 2 (.int .i64 x2)) 3 (.int .i64 y1)) 4 (.int .i64 y2)
    simpa using e2
  · exact ((((((((h.own.setCell_other t4 _).setCell_other t4 _).setCell_other t4 _).setCell_other t4 _).setCell_other t6 _).setCell_other t6 _).setCell_other t6 _).setCell_other t6 _).setCell_other t6 _
  · have o4 : row = some w.heap.size ∨ w.heap.size ≤ w.heap.size := .inr (Nat.le_refl _)
    have o6 : row = some (w.heap.size + 1) ∨ w.heap.size ≤ w.heap.size + 1 := .inr (Nat.le_succ _)
    exact gb_setCell (gb_setCell (gb_setCell (gb_setCell (gb_setCell (gb_setCell (gb_setCell (gb_setCell (gb_setCell h.gb o4 _) o4 _) o4 _) o4 _) o6 _) o6 _) o6 _) o6 _) o6 _

/-- what a patch with context is -/
def CtxPost (w : World) (g0 : Nat) (ds : List D) (s1 l2 : Int) (s2 l1 : Nat) (t : ByteArray) (mar : Nat) (e : Ending) (w' : World) : Prop :=
  ∃ (g' n' c' q : Nat) (pre suf : ByteArray), e = .returned (.agg #[.slice (some ⟨g', 0, none⟩) n' c', .int .i64 (s1 - pre.size), .int .i64 (s2 - pre.size), .int .i64 (l1 + (pre.size + suf.size)), .int .i64 (l2 + (pre.size + suf.size))]) ∧
    OwnL dP 128 2 w' 0 (.slice (some ⟨g', 0, none⟩) n' c') (sufD (preD pre ds) suf) ∧ (g' = g0 ∨ w.heap.size ≤ g') ∧ w.grownBy w' (some g0) ∧
    mar ≤ q ∧ tb pre = ((tb t).take s2).drop (s2 - q) ∧ tb suf = ((tb t).take (s2 + l1 + q)).drop (s2 + l1)

theorem ctx_size (t : ByteArray) (s2 l1 p mar : Nat) (hs : s2 + l1 ≤ t.size) : (t.extract (max 0 ((s2 : Int) - (p + mar))).toNat (min (t.size : Int) (s2 + l1 + (p + mar))).toNat).size ≤ t.size := by
  rw [← tb_length, tb_extract, List.length_drop, List.length_take, tb_length]; omega
theorem ctx_tb (t : ByteArray) (s2 l1 p mar : Nat) : Hid (tb (t.extract (max 0 ((s2 : Int) - (p + mar))).toNat (min (t.size : Int) (s2 + l1 + (p + mar))).toNat) = patAt t s2 l1 (p + mar)) := by
  show _ = _
  rw [tb_extract, patAt, show (max 0 ((s2 : Int) - (p + mar))).toNat = s2 - (p + mar) by omega]
  by_cases h : t.size ≤ s2 + l1 + (p + mar)
  · rw [show (min (t.size : Int) (s2 + l1 + (p + mar))).toNat = t.size by omega, List.take_of_length_le (by rw [tb_length]; omega), List.take_of_length_le (by rw [tb_length]; omega)]
  · rw [show (min (t.size : Int) (s2 + l1 + (p + mar))).toNat = s2 + l1 + (p + mar) by omega]

set_option maxRecDepth 100000 in
set_option maxHeartbeats 1000000 in
theorem ctx_any (w : World) (gd g0 n c : Nat) (ds : List D) (s1 l2 : Int) (s2 l1 : Nat) (t : ByteArray) (tmo cost dist bits : Int) (mar : Nat) (th de : Nat)
    (hmar0 : 1 ≤ mar) (hmar1 : mar ≤ 8) (hb0 : 32 ≤ bits) (hb1 : bits ≤ 62) (ht1 : t.size ≤ 1000000) (ht0 : 0 < t.size) (hs : s2 + l1 ≤ t.size) (hs1 : 0 ≤ s1) (hs1' : s1 ≤ 1000000) (hl2 : 0 ≤ l2) (hl2' : l2 ≤ 1000000)
    (hn0 : 0 < n) (hn1 : n ≤ 100000)
    (hdmp : DmpAt w gd tmo cost dist mar bits th de) (hown : OwnL dP 128 2 w 0 (.slice (some ⟨g0, 0, none⟩) n c) ds) :
    Calls Tryz.prog 128 #[.pointer (some ⟨gd, 0, none⟩), .agg #[.slice (some ⟨g0, 0, none⟩) n c, .int .i64 s1, .int .i64 s2, .int .i64 l1, .int .i64 l2], .string t] w (CtxPost w g0 ds s1 l2 s2 l1 t mar) := by
  have hgd : gd < w.heap.size := (Array.getElem?_eq_some_iff.1 (show w.heap[gd]? = _ from hdmp)).1
  have m4 := blk_cell hdmp 4
  have m5 := blk_cell hdmp 5
  simp at m4 m5
  have e0 : ((t.size : Int) == 0) = false := by rw [beq_eq_false_iff_ne]; omega
  go_enter Tryz.func128, Tryz.ntmps128
  go_wp2
  have hcw : CW w ((w.alloc (.cells #[.slice (some ⟨g0, 0, none⟩) n c, .int .i64 s1, .int .i64 s2, .int .i64 l1, .int .i64 l2] 114)).alloc (.cells #[.slice none 0 0, .int .i64 0, .int .i64 0, .int .i64 0, .int .i64 0] 114)) gd (.slice (some ⟨g0, 0, none⟩) n c) ds s1 s2 l1 l2 tmo cost dist mar bits th de (some g0) :=
    ⟨(Below.heap_alloc _ _ _ (by simp)).trans (heap_alloc_new w _), heap_alloc_at _ _ _ (by simp), (Below.heap_alloc _ _ _ (by simp; omega)).trans ((Below.heap_alloc _ _ _ hgd).trans hdmp), (hown.alloc _).alloc _, gb_alloc (gb_alloc (gb_refl _ _) _) _, by simp⟩
  generalize (w.alloc (.cells #[.slice (some ⟨g0, 0, none⟩) n c, .int .i64 s1, .int .i64 s2, .int .i64 l1, .int .i64 l2] 114)).alloc (.cells #[.slice none 0 0, .int .i64 0, .int .i64 0, .int .i64 0, .int .i64 0] 114) = W0 at hcw ⊢
  go_loopw [7, 8, 9, 10] (fun pat pad _ _ wr => ∃ (p : Nat) (s : ByteArray), pad = .int .i64 p ∧ pat = .string s ∧ p ≤ t.size + 8 ∧ s.size ≤ t.size ∧ Hid (tb s = patAt t s2 l1 p) ∧ CW w wr gd (.slice (some ⟨g0, 0, none⟩) n c) ds s1 s2 l1 l2 tmo cost dist mar bits th de (some g0)) (fun _ pad _ _ _ => t.size + 9 - (intOf pad).toNat)
  case atStart => exact ⟨0, _, rfl, rfl, by omega, by have := tb_length (t.extract s2 (s2 + l1)); rw [tb_extract] at this; rw [← this, List.length_drop, List.length_take, tb_length]; omega, by show _ = _; rw [tb_extract]; simp [patAt], hcw⟩
  case round =>
    obtain ⟨p, s, rfl, rfl, hp, hsz, Hs, hcw⟩ := hrel
    have m4 := blk_cell hcw.dmp 4
    have m5 := blk_cell hcw.dmp 5
    have p2 := blk_cell hcw.b4 2
    have p3 := blk_cell hcw.b4 3
    simp at m4 m5 p2 p3
    have hg : 0 ≤ p := by omega
    by_cases hgo : (idxN (tb t) (tb s) != Lib.lastIndex t.data.toList s.data.toList) = true ∧ (s.size : Int) < bits - 2 * mar
    · obtain ⟨eq0, hlt⟩ := hgo
      have hne : ¬ t.size ≤ p := fun hle => by
        have := Hs.out
        rw [patAt_whole hs hle] at this
        have e2 : s.data.toList = t.data.toList := this
        rw [show tb s = s.data.toList from rfl, show tb t = t.data.toList from rfl, e2, idxN_same, lastIndex_same] at eq0
        simp at eq0
      go_wp2_with fail
      go_quiet (first | (go_at_call 142; exact quiet_l (zzIndex_fn t s _ (by omega) (by omega))) | (go_at_call 159; exact Calls.quiet_of_same (Tryz.strings_LastIndex t s (by omega) _)))
      go_wp2_with (first | (go_at_call 135; refine (max_any _ _ _).mono ?_; rintro e w' ⟨rfl, rfl⟩) | (go_at_call 134; refine (min_any _ _ _).mono ?_; rintro e w' ⟨rfl, rfl⟩))
      go_roundw
      case rel => exact ⟨p + mar, _, by go_num, rfl, by omega, ctx_size t s2 l1 p mar hs, ctx_tb t s2 l1 p mar, hcw.drewN _⟩
      case measure => simp [intOf]; omega
    · have hcs : ((idxN (tb t) (tb s) != Lib.lastIndex t.data.toList s.data.toList) = false) ∨ ((idxN (tb t) (tb s) != Lib.lastIndex t.data.toList s.data.toList) = true ∧ ¬ (s.size : Int) < bits - 2 * mar) := by
        by_cases h1 : (idxN (tb t) (tb s) != Lib.lastIndex t.data.toList s.data.toList) = true
        · exact .inr ⟨h1, fun h2 => hgo ⟨h1, h2⟩⟩
        · exact .inl (by simpa using h1)
      obtain ⟨q, hq⟩ : ∃ q : Nat, (p : Int) + (mar : Int) = (q : Int) := ⟨p + mar, by simp⟩
      have hq2 : q ≤ 1000020 := by omega
      rcases hcs with eq0 | ⟨eq0, hlt⟩
      all_goals
        go_wp2_with fail
        go_quiet (first | (go_at_call 142; exact quiet_l (zzIndex_fn t s _ (by omega) (by omega))) | (go_at_call 159; exact Calls.quiet_of_same (Tryz.strings_LastIndex t s (by omega) _)))
        have hcy := hcw.drewN nq
        clear m4 m5 p2 p3 hcw
        generalize wr.drewN nq = wy at hcy ⊢
        have m4 := blk_cell hcy.dmp 4
        have m5 := blk_cell hcy.dmp 5
        have p2 := blk_cell hcy.b4 2
        have p3 := blk_cell hcy.b4 3
        simp at m4 m5 p2 p3
        go_wp2_with fail
        go_quiet (first | (go_at_call 135; exact quiet_l (max0_sub s2 q _)))
        have hcz := hcy.drewN nq
        clear m4 m5 p2 p3 hcy
        generalize wy.drewN nq = wz at hcz ⊢
        obtain ⟨pre, hpre⟩ : ∃ pre, pre = t.extract (s2 - q) s2 := ⟨_, rfl⟩
        rw [← hpre]
        have Hpre := Lib.hid hpre
        clear hpre
        go_upto_if 90 with (fail)
        go_cut [] (fun wx => ∃ (g1 n1 c1 : Nat) (ds1 : List D), CW w wx gd (.slice (some ⟨g1, 0, none⟩) n1 c1) ds1 s1 s2 l1 l2 tmo cost dist mar bits th de (some g0) ∧ n1 ≤ 100001 ∧ (g1 = g0 ∨ w.heap.size ≤ g1) ∧ Hid (ds1 = preD pre ds))
        case first =>
          by_cases hp0 : pre.size = 0
          · have e1 : ((pre.size : Int) != 0) = false := by simp [hp0]
            have H := Lib.hid hp0
            clear hp0
            go_wp2_with fail
            go_meet
            exact ⟨g0, n, c, ds, hcz, by omega, .inl rfl, by show _ = _; rw [preD, if_pos H.out]⟩
          · have e1 : ((pre.size : Int) != 0) = true := by rw [bne_iff_ne]; omega
            have H := Lib.hid hp0
            clear hp0
            have p0 := blk_cell hcz.b4 0
            simp at p0
            have hz := hcz.sz
            have p0' : ∀ o, (wz.alloc o).cell? ⟨w.heap.size, 0, none⟩ = some (.slice (some ⟨g0, 0, none⟩) n c) := fun o => (World.cell?_alloc_lt wz o _ (by simp; omega)).trans p0
            clear p0
            have hol := OwnL.lit1 (f := dP) (e := 128) (sz := 2) (B := 0) (x := ⟨0, pre⟩) (w := wz.alloc (.cells #[.int .i8 0, .string pre] 128)) (heap_alloc_new _ _) (Nat.zero_le _) rfl rfl
            have hos := hcz.own.alloc (.cells #[.int .i8 0, .string pre] 128)
            have hnn := hcz.own.len
            have Hnn := Lib.hid hnn
            clear hnn
            go_wp2_with (at_builtin; refine Hid.out ?_)
            refine Lib.hid ?_
            refine wpList_appendL1 (P := Tryz.prog) (v := .slice (some ⟨wz.heap.size, 0, none⟩) 1 1) st77 rfl (.tmp 93) (.tmp 95) rfl (by rfl) hol ds ⟨g0, 0, none⟩ n c (by rfl) Hnn.out hn0 hos.at_cells (by intro u hu; obtain ⟨d, _, h⟩ := List.mem_flatMap.1 hu; exact dP_one d u h) dP_len (by have := Hnn.out; simp; omega) (Nat.zero_le _) ?_
            intro g1 c1 w1 hown1 hg1 hat1
            have hg1' : wz.grownBy w1 (some wz.heap.size) := gb_trans (gb_alloc (gb_refl _ _) _) hg1 (.inl rfl)
            have hst := hcz.store hgd hg1' (.inr (by intro g h; injection h; omega)) (by intro g h; injection h; omega) hown1
            have b4 := gb_heap hg1' (i := w.heap.size) (by omega) (by simp; omega) hcz.b4
            have q0 := blk_cell b4 0
            have q1 := blk_frozen b4 0
            simp at q0
            clear b4 p0' hos hol
            go_wp2_with fail
            go_meet
            exact ⟨g1, _, c1, _, hst, by simp; omega, .inr (by rcases hat1 with h | h <;> simp [Value.ownBlock] at h <;> omega), by show _ = _; rw [preD, if_neg H.out]; rfl⟩
        case rest =>
          obtain ⟨g1, n1, c1, ds1, hc1, hn1', hg1, Hds1⟩ := hcut
          obtain ⟨r, hr⟩ : ∃ r : Nat, (s2 : Int) + (l1 : Int) + (q : Int) = (r : Int) := ⟨s2 + l1 + q, by simp⟩
          have p2 := blk_cell hc1.b4 2
          have p3 := blk_cell hc1.b4 3
          simp at p2 p3
          have hprs : pre.size ≤ t.size := by
            have := tb_extract t (s2 - q) s2
            rw [← Hpre.out] at this
            rw [← tb_length, this, List.length_drop, List.length_take, tb_length]; omega
          go_wp2_with fail
          go_quiet (first | (go_at_call 134; exact quiet_l (min_nat t.size r _)))
          have hcv := hc1.drewN nq
          clear p2 p3 hc1
          generalize wc.drewN nq = wv at hcv ⊢
          obtain ⟨suf, hsuf⟩ : ∃ suf, suf = t.extract (s2 + l1) (min t.size r) := ⟨_, rfl⟩
          rw [← hsuf]
          have Hsuf := Lib.hid hsuf
          have hsfs : suf.size ≤ t.size := by
            rw [hsuf, ← tb_length, tb_extract, List.length_drop, List.length_take, tb_length]; omega
          clear hsuf
          go_upto_if 117 with (fail)
          go_cut [] (fun wx => ∃ (g2 n2 c2 : Nat) (ds2 : List D), CW w wx gd (.slice (some ⟨g2, 0, none⟩) n2 c2) ds2 s1 s2 l1 l2 tmo cost dist mar bits th de (some g0) ∧ (g2 = g0 ∨ w.heap.size ≤ g2) ∧ Hid (ds2 = sufD ds1 suf))
          case first =>
            by_cases hp0 : suf.size = 0
            · have e1 : ((suf.size : Int) != 0) = false := by simp [hp0]
              have H := Lib.hid hp0
              clear hp0
              go_wp2_with fail
              go_meet
              exact ⟨g1, n1, c1, ds1, hcv, hg1, by show _ = _; rw [sufD, if_pos H.out]⟩
            · have e1 : ((suf.size : Int) != 0) = true := by rw [bne_iff_ne]; omega
              have H := Lib.hid hp0
              clear hp0
              have p0 := blk_cell hcv.b4 0
              simp at p0
              have hz := hcv.sz
              have hnn := hcv.own.len
              have Hnn := Lib.hid hnn
              clear hnn
              have t4 : g1 ≠ w.heap.size := fun e => own_block_ty hcv.own hcv.b4 (by omega) (by rw [e]; rfl)
              have t6 : g1 ≠ w.heap.size + 1 := fun e => own_block_ty hcv.own hcv.b6 (by omega) (by rw [e]; rfl)
              have td : g1 ≠ gd := fun e => own_block_ty hcv.own (show wv.heap[gd]? = _ from hcv.dmp) (by omega) (by rw [e]; rfl)
              go_wp2_with (at_builtin; refine Hid.out ?_)
              refine Lib.hid ?_
              refine wpList_push (P := Tryz.prog) (v := .slice (some ⟨g1, 0, none⟩) n1 c1) st77 rfl (.tmp 119) (.tmp 122) rfl rfl (hcv.own.alloc _) ⟨0, suf⟩ ⟨wv.heap.size, 0, none⟩ 1 (by rfl) dP_len (dP_one _) (by have := Hnn.out; omega) (Nat.zero_le _) (cells2_of (heap_alloc_new _ _)) ?_
              intro g3 c3 w1 hown1 hgr hat1
              have hgr' : wv.grownBy w1 (some g1) := gb_trans (gb_alloc (gb_refl _ _) _) hgr (.inl rfl)
              have hst := hcv.store hgd hgr' (row_or hg1) (row_ne td t4 t6) hown1
              have b4 := gb_heap hgr' (i := w.heap.size) (by omega) (by intro e; injection e with e; exact t4 e.symm) hcv.b4
              have q0 := blk_cell b4 0
              have q1 := blk_frozen b4 0
              simp at q0
              clear b4 p0
              go_wp2_with fail
              go_meet
              exact ⟨g3, _, c3, _, hst, new_row hg1 hat1 (by simp; omega), by show _ = _; rw [sufD, if_neg H.out]⟩
          case rest =>
            obtain ⟨g2, n2, c2, ds2, hc2, hg2, Hds2⟩ := hcut
            have x0 := blk_cell hc2.b4 0
            have x1 := blk_cell hc2.b4 1
            have x2 := blk_cell hc2.b4 2
            have x3 := blk_cell hc2.b4 3
            have x4 := blk_cell hc2.b4 4
            have f1 := blk_frozen hc2.b4 1
            have f2 := blk_frozen hc2.b4 2
            have f3 := blk_frozen hc2.b4 3
            have f4 := blk_frozen hc2.b4 4
            have y0 := blk_cell hc2.b6 0
            have y1 := blk_cell hc2.b6 1
            have y2 := blk_cell hc2.b6 2
            have y3 := blk_cell hc2.b6 3
            have y4 := blk_cell hc2.b6 4
            have h0 := blk_frozen hc2.b6 0
            have h1 := blk_frozen hc2.b6 1
            have h2 := blk_frozen hc2.b6 2
            have h3 := blk_frozen hc2.b6 3
            have h4 := blk_frozen hc2.b6 4
            simp at x0 x1 x2 x3 x4 y0 y1 y2 y3 y4
            obtain ⟨fb, fo, fg⟩ := hc2.finish (s1 - pre.size) (s2 - pre.size) (l1 + (pre.size + suf.size)) (l2 + (pre.size + suf.size))
            go_wp2_with fail
            change bodyPost _ _ _ _ _ (stR (stB wc w.heap.size (s1 - pre.size) (s2 - pre.size) (l1 + (pre.size + suf.size)) (l2 + (pre.size + suf.size))) (w.heap.size + 1) (.slice (some ⟨g2, 0, none⟩) n2 c2) (s1 - pre.size) (s2 - pre.size) (l1 + (pre.size + suf.size)) (l2 + (pre.size + suf.size)))
            generalize (stR (stB wc w.heap.size (s1 - pre.size) (s2 - pre.size) (l1 + (pre.size + suf.size)) (l2 + (pre.size + suf.size))) (w.heap.size + 1) (.slice (some ⟨g2, 0, none⟩) n2 c2) (s1 - pre.size) (s2 - pre.size) (l1 + (pre.size + suf.size)) (l2 + (pre.size + suf.size))) = wF at fb fo fg ⊢
            clear x0 x1 x2 x3 x4 f1 f2 f3 f4 y0 y1 y2 y3 y4 h0 h1 h2 h3 h4
            have z0 := blk_cell fb 0
            have z1 := blk_cell fb 1
            have z2 := blk_cell fb 2
            have z3 := blk_cell fb 3
            have z4 := blk_cell fb 4
            simp at z0 z1 z2 z3 z4
            refine bodyPost_ret (v := .agg #[.slice (some ⟨g2, 0, none⟩) n2 c2, .int .i64 (s1 - pre.size), .int .i64 (s2 - pre.size), .int .i64 (l1 + (pre.size + suf.size)), .int .i64 (l2 + (pre.size + suf.size))]) (by simp [results, Tryz.results128, go_sem, z0, z1, z2, z3, z4]) rfl ⟨g2, n2, c2, q, pre, suf, rfl, ?_, hg2, fg, by omega, ?_, ?_⟩
            · rw [← Hds1.out, ← Hds2.out]
              exact fo
            · rw [Hpre.out, tb_extract]
            · rw [Hsuf.out, tb_extract]
              by_cases hle : t.size ≤ r
              · rw [show min t.size r = t.size by omega, List.take_of_length_le (by rw [tb_length]; omega), List.take_of_length_le (by rw [tb_length]; omega)]
              · rw [show min t.size r = s2 + l1 + q by omega]
end Go.Proofs.YtjebgfpcmooniaaGreatDoor
