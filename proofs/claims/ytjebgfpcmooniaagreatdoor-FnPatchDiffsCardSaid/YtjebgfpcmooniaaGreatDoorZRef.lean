/- The parts that the laws speak of: zzFits1, Parted, ptParts. ptParts: plain parts, none of which is empty. The reference's functions on parts: Edited, Source, Target, SameParts. -/
import Derived.Test.YtjebgfpcmooniaaGreatDoorZPlain
namespace Go.Proofs.YtjebgfpcmooniaaGreatDoor
open Go Go.RowKit

theorem fits2_yes (o : Int) (t : ByteArray) (w : World) (h : (t.size : Int) ≤ 2147483647) :
    Calls Tryz.prog 43 #[.agg #[.int .i64 o, .string t]] w fun e w' => e = .returned (.bool true) ∧ Below w.heap.size w w' := by
  go_enter Tryz.func43, Tryz.ntmps43
  go_wp2
  go_ret
  exact ⟨rfl, (Below.refl _ _).alloc (Nat.le_refl _) _⟩
theorem fits2_no (o : Int) (t : ByteArray) (w : World) (h : ¬ (t.size : Int) ≤ 2147483647) :
    Calls Tryz.prog 43 #[.agg #[.int .i64 o, .string t]] w fun e w' => e = .returned (.bool false) ∧ Below w.heap.size w w' := by
  have h' : (2147483647 : Int) < t.size := by omega
  go_enter Tryz.func43, Tryz.ntmps43
  go_wp2
  go_ret
  exact ⟨rfl, (Below.refl _ _).alloc (Nat.le_refl _) _⟩

def FitsPost (n : Nat) (l : List D) (w : World) (e : Ending) (w' : World) : Prop :=
  ∃ b : Bool, e = .returned (.bool b) ∧ (b = true → n ≤ 2147483647 ∧ ∀ d ∈ l, d.t.size ≤ 2147483647) ∧ Below w.heap.size w w'

set_option maxRecDepth 100000 in
set_option maxHeartbeats 400000 in
theorem fits1_any (A : Option Addr) (n c : Nat) (l : List D) (w : World) (hr : RdL dI 2 w w.heap.size A n l) (hn : n ≤ 140737488351232) :
    Calls Tryz.prog 14 #[.slice A n c] w (FitsPost n l w) := by
  by_cases hbig : (2147483647 : Int) < n
  · go_enter Tryz.func14, Tryz.ntmps14
    go_wp2
    go_ret
    exact ⟨false, rfl, (fun h => by cases h), Below.refl _ _⟩
  go_enter Tryz.func14, Tryz.ntmps14
  go_wp2
  go_loopw [10] (fun i wr => ∃ k : Nat, k ≤ n ∧ i = .int .i64 k ∧ Hid (∀ d ∈ l.take k, d.t.size ≤ 2147483647) ∧ Below w.heap.size w wr) (fun i _ => n - (intOf i).toNat)
  case atStart => exact ⟨0, by omega, rfl, by intro d hd; simp at hd, Below.refl _ _⟩
  case round =>
    obtain ⟨k, hk, rfl, Hs, hb⟩ := hrel
    by_cases hlt : k < n
    · obtain ⟨ad, d, rfl, hab, hd, c0, c1⟩ := rd_dI (hr.below hb) hlt
      have Hd := Lib.hid hd
      clear hd
      by_cases ht : (d.t.size : Int) ≤ 2147483647
      · have ht2 := Lib.hid ht
        clear ht
        go_wp2_with (go_at_call 43; refine (fits2_yes d.op d.t _ ht2.out).mono ?_; rintro e w1 ⟨rfl, hb1⟩)
        go_roundw
        case rel => 
          refine ⟨k + 1, by omega, by go_num, ?_, (hb.alloc hb.size _).trans (hb1.mono (le_al hb.size))⟩
          intro x hx
          rw [take_succ_some Hd.out, List.mem_append] at hx
          rcases hx with hx | hx
          · exact Hs.out x hx
          · simp at hx; subst hx; have := ht2.out; omega
        case measure => simp [intOf]; omega
      · have ht2 := Lib.hid ht
        clear ht
        go_wp2_with (go_at_call 43; refine (fits2_no d.op d.t _ ht2.out).mono ?_; rintro e w1 ⟨rfl, hb1⟩)
        go_ret
        exact ⟨false, rfl, (fun h => by cases h), (hb.alloc hb.size _).trans (hb1.mono (le_al hb.size))⟩
    · go_wp2
      go_ret
      refine ⟨true, rfl, fun _ => ⟨by omega, ?_⟩, hb⟩
      have := Hs.out
      rw [List.take_of_length_le (by rw [hr.1]; omega)] at this
      exact this

/-- a kind of the three -/
def op3 (n : Int) : Int := if n.tmod 3 = 2 ∨ n.tmod 3 = -2 then (-(n.tmod 3)).tdiv 2 else n.tmod 3
theorem op3_range (n : Int) : -1 ≤ op3 n ∧ op3 n ≤ 1 := by
  have h1 : n.tmod 3 < 3 := Int.tmod_lt_of_pos n (by omega)
  have h2 : -3 < n.tmod 3 := Int.lt_tmod_of_pos n (by omega)
  unfold op3
  split
  · rename_i h
    rcases h with h | h <;> rw [h] <;> decide
  · omega
def partD (d : D) : D := ⟨op3 d.op, cleanT d.t 30⟩

theorem clean30 (s : ByteArray) (w : World) (hs : s.size ≤ 2147483648) :
    Calls Tryz.prog 28 #[.string s, .int .i64 30] w fun e w' => e = .returned (.string (cleanT s 30)) ∧ Below w.heap.size w w' := clean_any s 30 w hs (by omega)

theorem relPd (n : Nat) (l : List D) (k : Nat) (acc : List D) (d : D) (x : Int) (hlt : k < n) (h3 : k < 30) (hal : acc.length ≤ k) (hx : x = op3 d.op) (Hd : Hid (l[k]? = some d)) (Hacc : Hid (acc = (l.take k).map partD)) {w wr w1 w2 : World} {v : Value} {g cap : Nat} {o : Obj}
    (hb : Below w.heap.size w wr) (hb1 : Below wr.heap.size wr w1) (hown : OwnL dI 64 2 wr w.heap.size v acc) (hown1 : OwnL dI 64 2 w2 w.heap.size (.slice (some ⟨g, 0, none⟩) (acc.length + 1) cap) (acc ++ [⟨x, cleanT d.t 30⟩])) (hg1 : (w1.alloc o).grownBy w2 v.ownBlock) :
    ∃ (k' : Nat) (acc' : List D), k' ≤ n ∧ k' ≤ 30 ∧ acc'.length ≤ k' ∧ Value.int .i64 ((k : Int) + 1) = .int .i64 k' ∧ Hid (acc' = (l.take k').map partD) ∧ OwnL dI 64 2 w2 w.heap.size (.slice (some ⟨g, 0, none⟩) (acc.length + 1) cap) acc' ∧ Below w.heap.size w w2 := by
  refine ⟨k + 1, acc ++ [⟨x, cleanT d.t 30⟩], by omega, by omega, by rw [List.length_append, List.length_singleton]; omega, by go_num, ?_, hown1, ((hb.trans (hb1.mono hb.size)).alloc (Nat.le_trans hb.size hb1.size) _).grown hg1 (le_al (Nat.le_trans hb.size hb1.size)) (fun j hj => (hown.lt j hj).1)⟩
  show _ = _
  rw [Hacc.out, take_succ_some Hd.out, List.map_append, hx]
  rfl

set_option maxRecDepth 100000 in
set_option maxHeartbeats 400000 in
theorem parted_any (A : Option Addr) (n c : Nat) (l : List D) (w : World) (hr : RdL dI 2 w w.heap.size A n l) (hn : n ≤ 2147483647) (hs : Hid (∀ d ∈ l, d.t.size ≤ 2147483647)) :
    Calls Tryz.prog 44 #[.slice A n c, .int .i64 30] w fun e w' => ∃ v, e = .returned v ∧ OwnL dI 64 2 w' w.heap.size v ((l.take 30).map partD) ∧ Below w.heap.size w w' := by
  go_enter Tryz.func44, Tryz.ntmps44
  go_wp2
  go_loopw [5, 6] (fun v i wr => ∃ (k : Nat) (acc : List D), k ≤ n ∧ k ≤ 30 ∧ acc.length ≤ k ∧ i = .int .i64 k ∧ Hid (acc = (l.take k).map partD) ∧ OwnL dI 64 2 wr w.heap.size v acc ∧ Below w.heap.size w wr) (fun _ i _ => n - (intOf i).toNat)
  case atStart => exact ⟨0, [], by omega, by omega, by simp, rfl, rfl, OwnL.nil _ _, Below.refl _ _⟩
  case round =>
    obtain ⟨k, acc, hk, hk3, hal, rfl, Hacc, hown, hb⟩ := hrel
    by_cases hlt : k < n ∧ k < 30
    · obtain ⟨hlt, h3⟩ := hlt
      obtain ⟨ad, d, rfl, hab, hd, c0, c1⟩ := rd_dI (hr.below hb) hlt
      have hsd : Hid (d.t.size ≤ 2147483648) := Nat.le_succ_of_le (hs.out d (List.mem_of_getElem? hd))
      have Hd := Lib.hid hd
      clear hd
      have hc3 : d.op.tmod 3 = 2 ∨ d.op.tmod 3 = -2 ∨ ((d.op.tmod 3 == 2) = false ∧ (d.op.tmod 3 == -2) = false) := by
        by_cases h1 : d.op.tmod 3 = 2
        · exact .inl h1
        · by_cases h2 : d.op.tmod 3 = -2
          · exact .inr (.inl h2)
          · exact .inr (.inr ⟨by simpa using h1, by simpa using h2⟩)
      rcases hc3 with h1 | h1 | ⟨h1, h2⟩
      · have hx := Lib.hid (show (-1 : Int) = op3 d.op from by rw [op3, if_pos (.inl h1), h1]; rfl)
        skip
        go_wp2_with (first | (go_at_call 28; refine (clean30 d.t _ hsd.out).mono ?_; rintro e w1 ⟨rfl, hb1⟩) | (at_builtin; refine Hid.out ?_))
        refine Lib.hid ?_
        have hown1 := hown.below_size hb1
        refine wpList_push (P := Tryz.prog) st25 rfl _ _ rfl rfl (hown1.alloc _) ⟨-1, cleanT d.t 30⟩ ⟨w1.heap.size, 0, none⟩ 1 (by rfl) dI_len (dI_one _) (by omega) (le_al (Nat.le_trans hb.size hb1.size)) (cells2_of (heap_alloc_new _ _)) ?_
        intro g cap w2 hown2 hg1 hat1
        go_wp2
        go_roundw
        case rel => exact relPd n l k acc d _ hlt h3 hal hx.out Hd Hacc hb hb1 hown hown2 hg1
        case measure => simp [intOf]; omega
      · have hx := Lib.hid (show (1 : Int) = op3 d.op from by rw [op3, if_pos (.inr h1), h1]; rfl)
        skip
        go_wp2_with (first | (go_at_call 28; refine (clean30 d.t _ hsd.out).mono ?_; rintro e w1 ⟨rfl, hb1⟩) | (at_builtin; refine Hid.out ?_))
        refine Lib.hid ?_
        have hown1 := hown.below_size hb1
        refine wpList_push (P := Tryz.prog) st25 rfl _ _ rfl rfl (hown1.alloc _) ⟨1, cleanT d.t 30⟩ ⟨w1.heap.size, 0, none⟩ 1 (by rfl) dI_len (dI_one _) (by omega) (le_al (Nat.le_trans hb.size hb1.size)) (cells2_of (heap_alloc_new _ _)) ?_
        intro g cap w2 hown2 hg1 hat1
        go_wp2
        go_roundw
        case rel => exact relPd n l k acc d _ hlt h3 hal hx.out Hd Hacc hb hb1 hown hown2 hg1
        case measure => simp [intOf]; omega
      · have hx := Lib.hid (show (d.op.tmod 3 : Int) = op3 d.op from by rw [op3, if_neg]; rintro (h | h) <;> simp [h] at h1 h2)
        skip
        go_wp2_with (first | (go_at_call 28; refine (clean30 d.t _ hsd.out).mono ?_; rintro e w1 ⟨rfl, hb1⟩) | (at_builtin; refine Hid.out ?_))
        refine Lib.hid ?_
        have hown1 := hown.below_size hb1
        refine wpList_push (P := Tryz.prog) st25 rfl _ _ rfl rfl (hown1.alloc _) ⟨d.op.tmod 3, cleanT d.t 30⟩ ⟨w1.heap.size, 0, none⟩ 1 (by rfl) dI_len (dI_one _) (by omega) (le_al (Nat.le_trans hb.size hb1.size)) (cells2_of (heap_alloc_new _ _)) ?_
        intro g cap w2 hown2 hg1 hat1
        go_wp2
        go_roundw
        case rel => exact relPd n l k acc d _ hlt h3 hal hx.out Hd Hacc hb hb1 hown hown2 hg1
        case measure => simp [intOf]; omega
    · by_cases hkn : k < n
      · have h3 : ¬ k < 30 := by omega
        go_wp2
        go_ret
        refine ⟨_, rfl, ?_, hb⟩
        have e := Hacc.out
        rw [show k = 30 by omega] at e
        rw [← e]
        exact hown
      · go_wp2
        go_ret
        refine ⟨_, rfl, ?_, hb⟩
        have e := Hacc.out
        rw [show l.take k = l.take 30 by rw [List.take_of_length_le (by rw [hr.1]; omega), List.take_of_length_le (by rw [hr.1]; omega)]] at e
        rw [← e]
        exact hown
end Go.Proofs.YtjebgfpcmooniaaGreatDoor

namespace Go.Proofs.YtjebgfpcmooniaaGreatDoor
open Go Go.RowKit

/-- parts as the laws about patches have them -/
structure GoodPart (d : D) : Prop where
  lo : -1 ≤ d.op
  hi : d.op ≤ 1
  pos : 0 < d.t.size
  len : d.t.size ≤ 120
  asc : ∀ b ∈ tb d.t, b.toNat < 128

def Good (l : List D) : Prop := l.length ≤ 30 ∧ ∀ d ∈ l, GoodPart d

theorem plainL_len (l : List UInt8) : (plainL l).length ≤ l.length := by simp [plainL]; omega
theorem plainL_asc (l : List UInt8) : ∀ b ∈ plainL l, b.toNat < 128 := by
  intro b hb
  simp only [plainL, List.mem_map] at hb
  obtain ⟨c, _, rfl⟩ := hb
  exact plainB_lt c

theorem good_step {o : Int} {t : ByteArray} (h1 : -1 ≤ o) (h2 : o ≤ 1) (ht : t.size ≤ 120) (hne : (plainL (tb t)).toArray.toList.isEmpty = false) : GoodPart ⟨o, ⟨(plainL (tb t)).toArray⟩⟩ := by
  have h3 := plainL_len (tb t)
  rw [tb_length] at h3
  have h4 : (⟨(plainL (tb t)).toArray⟩ : ByteArray).size = (plainL (tb t)).length := by simp [ByteArray.size]
  refine ⟨h1, h2, ?_, by show ByteArray.size _ ≤ 120; rw [h4]; omega, ?_⟩
  · show 0 < ByteArray.size _
    rw [h4]
    cases h : plainL (tb t) with
    | nil => rw [h] at hne; simp at hne
    | cons a b => simp
  · intro b hb
    exact plainL_asc (tb t) b (by simpa [tb] using hb)

theorem good_push {l : List D} {d : D} {k : Nat} (h : Good l) (hl : l.length ≤ k) (hk : k < 30) (hd : GoodPart d) : Good (l ++ [d]) := by
  refine ⟨by rw [List.length_append, List.length_singleton]; omega, fun x hx => ?_⟩
  rcases List.mem_append.1 hx with hx | hx
  · exact h.2 x hx
  · simp at hx; subst hx; exact hd

def PtPost (w : World) (e : Ending) (w' : World) : Prop := ∃ (v : Value) (l : List D), e = .returned v ∧ Good l ∧ OwnL dI 64 2 w' w.heap.size v l ∧ Below w.heap.size w w'

set_option maxRecDepth 100000 in
set_option maxHeartbeats 400000 in
theorem ptParts_any (A : Option Addr) (n c : Nat) (l : List D) (w : World) (hr : RdL dI 2 w w.heap.size A n l) (hn : n ≤ 2147483647) (hs : Hid (∀ d ∈ l, d.t.size ≤ 2147483647)) :
    Calls Tryz.prog 16 #[.slice A n c] w (PtPost w) := by
  have hr2 := hr
  go_enter Tryz.func16, Tryz.ntmps16
  go_wp2_with fail
  refine (parted_any A n c l w hr2 hn hs).mono ?_
  rintro e w1 ⟨v, rfl, hown, hb⟩
  clear hr hr2 hs
  obtain ⟨ps, hps⟩ : ∃ ps, ps = (l.take 30).map partD := ⟨_, rfl⟩
  rw [← hps] at hown
  have hpl : ps.length ≤ 30 := by rw [hps]; simp; omega
  have Hp : Hid (∀ d ∈ ps, (-1 ≤ d.op ∧ d.op ≤ 1) ∧ d.t.size ≤ 120) := by
    intro d hd
    rw [hps] at hd
    obtain ⟨x, _, rfl⟩ := List.mem_map.1 hd
    exact ⟨op3_range x.op, cleanT_size x.t 30⟩
  clear hps
  obtain ⟨A2, c2, rfl, hr⟩ := hown.rd dI_len
  go_wp2_with fail
  go_loopw [3, 9] (fun v i wr => ∃ (k : Nat) (acc : List D), k ≤ ps.length ∧ acc.length ≤ k ∧ i = .int .i64 k ∧ Good acc ∧ OwnL dI 64 2 wr w1.heap.size v acc ∧ Below w1.heap.size w1 wr) (fun _ i _ => ps.length - (intOf i).toNat)
  case atStart => exact ⟨0, [], by omega, by simp, rfl, ⟨by simp, by simp⟩, OwnL.nil _ _, Below.refl _ _⟩
  case round =>
    obtain ⟨k, acc, hk, hal, rfl, hgood, hown1, hb1⟩ := hrel
    by_cases hlt : k < ps.length
    · obtain ⟨ad, d, rfl, hab, hd, c0, c1⟩ := rd_dI (hr.below hb1) hlt
      obtain ⟨⟨o1, o2⟩, ht⟩ := Hp.out d (List.mem_of_getElem? hd)
      have Hd := Lib.hid hd
      have Ht : Hid (d.t.size ≤ 2147483648) := by show d.t.size ≤ 2147483648; omega
      clear hd
      go_wp2_with (go_at_call 26; refine (ptPlain_any d.t _ Ht.out).mono ?_; rintro e w2 ⟨rfl, hb2⟩; refine Hid.out ?_)
      refine Lib.hid ?_
      have hblk : w2.heap[wr.heap.size]? = some (.cells #[.int .i64 d.op, .string d.t] 64 (0, 0)) := (hb2.block _ (by simp)).trans (heap_alloc_new wr _)
      have hz := hb2.size
      simp at hz
      have b0 := blk_cell hblk 0
      have b1 := blk_cell hblk 1
      have f1 := blk_frozen hblk 1
      simp at b0 b1
      clear hblk
      have hown2 := (hown1.alloc (.cells #[.int .i64 d.op, .string d.t] 64)).below_size hb2
      have hown3 := hown2.setCell_other (a := ⟨wr.heap.size, 1, none⟩) hown1.ne_new (.string ⟨(plainL (tb d.t)).toArray⟩)
      have hb3 : Below w1.heap.size w1 (w2.setCell ⟨wr.heap.size, 1, none⟩ (.string ⟨(plainL (tb d.t)).toArray⟩)) := ((hb1.alloc hb1.size _).trans (hb2.mono (le_al hb1.size))).setCell (p := ⟨wr.heap.size, 1, none⟩) hb1.size _
      go_wp2_with (at_builtin; refine Hid.out ?_)
      · refine Lib.hid ?_
        have hne : (!(plainL (tb d.t)).isEmpty) = true := by assumption
        refine wpList_push (P := Tryz.prog) st25 rfl _ _ rfl rfl (hown3.alloc _) ⟨d.op, ⟨(plainL (tb d.t)).toArray⟩⟩ ⟨w2.heap.size, 0, none⟩ 1 (by rfl) dI_len (dI_one _) (by omega) (le_al hb3.size) (cells2_of (heap_alloc_at (w2.setCell _ _) _ _ (by simp))) ?_
        intro g cap w3 hown4 hg1 hat1
        go_wp2
        go_roundw
        case rel => exact ⟨k + 1, acc ++ [⟨d.op, ⟨(plainL (tb d.t)).toArray⟩⟩], by omega, by rw [List.length_append]; simp; omega, by go_num, good_push hgood hal (by omega) (good_step o1 o2 ht (by simpa using hne)), hown4, (hb3.alloc hb3.size _).grown hg1 (le_al hb3.size) (fun j hj => (hown1.lt j hj).1)⟩
        case measure => simp [intOf]; omega
      · go_roundw
        case rel => exact ⟨k + 1, acc, by omega, by omega, by go_num, hgood, hown3, hb3⟩
        case measure => simp [intOf]; omega
    · go_wp2
      go_ret
      exact ⟨_, acc, rfl, hgood, hown1.base_le hb.size, hb.trans (hb1.mono hb.size)⟩
end Go.Proofs.YtjebgfpcmooniaaGreatDoor

namespace Go.Proofs.YtjebgfpcmooniaaGreatDoor
open Go Go.RowKit

theorem le_step {m k : Nat} (h : m ≤ k * 1000000) : m ≤ (k + 1) * 1000000 := Nat.le_trans h (Nat.mul_le_mul_right _ (Nat.le_succ k))
def editedN (l : List D) : Nat := (l.map fun d => if d.op = 0 then 0 else (runesL d.t).length).sum
theorem editedN_snoc (l : List D) (d : D) : editedN (l ++ [d]) = editedN l + (if d.op = 0 then 0 else (runesL d.t).length) := by simp [editedN]

set_option maxRecDepth 100000 in
set_option maxHeartbeats 400000 in
theorem edited_any (A : Option Addr) (n c : Nat) (l : List D) (w : World) (hr : RdL dI 2 w w.heap.size A n l) (hn : n ≤ 1000) (hs : Hid (∀ d ∈ l, d.t.size ≤ 1000000)) :
    Calls Tryz.prog 21 #[.slice A n c] w fun e w' => e = .returned (.int .i64 (editedN l)) ∧ Below w.heap.size w w' := by
  go_enter Tryz.func21, Tryz.ntmps21
  go_wp2
  go_loopw [3, 8] (fun v i wr => ∃ (k m : Nat), k ≤ n ∧ i = .int .i64 k ∧ v = .int .i64 m ∧ m ≤ k * 1000000 ∧ Hid (m = editedN (l.take k)) ∧ Below w.heap.size w wr) (fun _ i _ => n - (intOf i).toNat)
  case atStart => exact ⟨0, 0, by omega, rfl, rfl, by omega, rfl, Below.refl _ _⟩
  case round =>
    obtain ⟨k, m, hk, rfl, rfl, hm, Hm, hb⟩ := hrel
    by_cases hlt : k < n
    · obtain ⟨ad, d, rfl, hab, hd, c0, c1⟩ := rd_dI (hr.below hb) hlt
      have ht := hs.out d (List.mem_of_getElem? hd)
      have hrl := Nat.le_trans (runesL_le d.t) ht
      have hm2 : m ≤ 1000000000 := by omega
      have Hm2 := Lib.hid hm
      have Hd := Lib.hid hd
      have Ht : Hid (d.t.size ≤ 2147483648) := by show d.t.size ≤ 2147483648; omega
      clear hd hm ht
      by_cases ho : d.op = 0
      · have e0 : (d.op == 0) = true := by simpa using ho
        have Ho := Lib.hid ho
        clear ho
        go_wp2_with fail
        go_roundw
        case rel => exact ⟨k + 1, m, by omega, by go_num, rfl, le_step Hm2.out, by show _ = _; rw [take_succ_some Hd.out, editedN_snoc, if_pos Ho.out, Nat.add_zero]; exact Hm.out, hb.alloc hb.size _⟩
        case measure => simp [intOf]; omega
      · have e0 : (d.op == 0) = false := by simpa using ho
        have Ho := Lib.hid ho
        clear ho
        go_wp2_with (go_at_call 57; refine (runes_any d.t _ Ht.out).mono ?_; rintro e w2 ⟨v, rfl, ⟨g, cap, rfl⟩, hown, hb2⟩)
        go_roundw
        case rel => exact ⟨k + 1, m + (runesL d.t).length, by omega, by go_num, by go_num, by have := Hm2.out; omega, by show _ = _; rw [take_succ_some Hd.out, editedN_snoc, if_neg Ho.out, Hm.out], (hb.alloc hb.size _).trans (hb2.mono (le_al hb.size))⟩
        case measure => simp [intOf]; omega
    · go_wp2
      go_ret
      have e := Hm.out
      rw [List.take_of_length_le (by rw [hr.1]; omega)] at e
      exact ⟨by rw [← e]; rfl, hb⟩
theorem tb_append (a b : ByteArray) : tb (a ++ b) = tb a ++ tb b := by simp [tb]

/-- the source of a difference -/
def srcL (l : List D) : List UInt8 := l.flatMap fun d => if d.op = 1 then [] else tb d.t
theorem srcL_snoc (l : List D) (d : D) : srcL (l ++ [d]) = srcL l ++ (if d.op = 1 then [] else tb d.t) := by simp [srcL]
theorem srcL_append (a b : List D) : srcL (a ++ b) = srcL a ++ srcL b := by simp [srcL]
theorem srcL_nil : srcL [] = [] := rfl
theorem srcL_cons (d : D) (l : List D) : srcL (d :: l) = (if d.op = 1 then [] else tb d.t) ++ srcL l := by simp [srcL]

set_option maxRecDepth 100000 in
set_option maxHeartbeats 400000 in
theorem src_any (A : Option Addr) (n c : Nat) (l : List D) (w : World) (hr : RdL dI 2 w w.heap.size A n l) (hn : n ≤ 1000) (hs : Hid (∀ d ∈ l, d.t.size ≤ 1000000)) :
    Calls Tryz.prog 23 #[.slice A n c] w fun e w' => (∃ t, e = .returned (.string t) ∧ tb t = srcL l) ∧ Below w.heap.size w w' := by
  go_enter Tryz.func23, Tryz.ntmps23
  go_wp2
  go_loopw [3, 8] (fun v i wr => ∃ (k : Nat) (t : ByteArray), k ≤ n ∧ i = .int .i64 k ∧ v = .string t ∧ t.size ≤ k * 1000000 ∧ Hid (tb t = srcL (l.take k)) ∧ Below w.heap.size w wr) (fun _ i _ => n - (intOf i).toNat)
  case atStart => exact ⟨0, ⟨#[]⟩, by omega, rfl, rfl, by simp [ByteArray.size], rfl, Below.refl _ _⟩
  case round =>
    obtain ⟨k, t, hk, rfl, rfl, hm, Hm, hb⟩ := hrel
    by_cases hlt : k < n
    · obtain ⟨ad, d, rfl, hab, hd, c0, c1⟩ := rd_dI (hr.below hb) hlt
      have ht := hs.out d (List.mem_of_getElem? hd)
      have Hd := Lib.hid hd
      have hm2 : t.size ≤ 1000000000 := by omega
      have Hm2 := Lib.hid hm
      clear hd hm
      by_cases ho : d.op = 1
      · have e0 : (d.op == 1) = true := by simpa using ho
        have Ho := Lib.hid ho
        clear ho
        go_wp2_with fail
        go_roundw
        case rel => exact ⟨k + 1, t, by omega, by go_num, rfl, le_step Hm2.out, by show _ = _; rw [take_succ_some Hd.out, srcL_snoc, if_pos Ho.out, List.append_nil]; exact Hm.out, hb.alloc hb.size _⟩
        case measure => simp [intOf]; omega
      · have e0 : (d.op == 1) = false := by simpa using ho
        have Ho := Lib.hid ho
        clear ho
        go_wp2_with fail
        go_roundw
        case rel => exact ⟨k + 1, _, by omega, by go_num, rfl, by have := Hm2.out; rw [ByteArray.size_append]; omega, by show _ = _; rw [take_succ_some Hd.out, srcL_snoc, if_neg Ho.out, tb_append, Hm.out], hb.alloc hb.size _⟩
        case measure => simp [intOf]; omega
    · go_wp2
      go_ret
      have e := Hm.out
      rw [List.take_of_length_le (by rw [hr.1]; omega)] at e
      exact ⟨⟨t, rfl, e⟩, hb⟩

/-- the target of a difference -/
def tgtL (l : List D) : List UInt8 := l.flatMap fun d => if d.op = -1 then [] else tb d.t
theorem tgtL_snoc (l : List D) (d : D) : tgtL (l ++ [d]) = tgtL l ++ (if d.op = -1 then [] else tb d.t) := by simp [tgtL]
theorem tgtL_append (a b : List D) : tgtL (a ++ b) = tgtL a ++ tgtL b := by simp [tgtL]
theorem tgtL_nil : tgtL [] = [] := rfl
theorem tgtL_cons (d : D) (l : List D) : tgtL (d :: l) = (if d.op = -1 then [] else tb d.t) ++ tgtL l := by simp [tgtL]

set_option maxRecDepth 100000 in
set_option maxHeartbeats 400000 in
theorem tgt_any (A : Option Addr) (n c : Nat) (l : List D) (w : World) (hr : RdL dI 2 w w.heap.size A n l) (hn : n ≤ 1000) (hs : Hid (∀ d ∈ l, d.t.size ≤ 1000000)) :
    Calls Tryz.prog 24 #[.slice A n c] w fun e w' => (∃ t, e = .returned (.string t) ∧ tb t = tgtL l) ∧ Below w.heap.size w w' := by
  go_enter Tryz.func24, Tryz.ntmps24
  go_wp2
  go_loopw [3, 8] (fun v i wr => ∃ (k : Nat) (t : ByteArray), k ≤ n ∧ i = .int .i64 k ∧ v = .string t ∧ t.size ≤ k * 1000000 ∧ Hid (tb t = tgtL (l.take k)) ∧ Below w.heap.size w wr) (fun _ i _ => n - (intOf i).toNat)
  case atStart => exact ⟨0, ⟨#[]⟩, by omega, rfl, rfl, by simp [ByteArray.size], rfl, Below.refl _ _⟩
  case round =>
    obtain ⟨k, t, hk, rfl, rfl, hm, Hm, hb⟩ := hrel
    by_cases hlt : k < n
    · obtain ⟨ad, d, rfl, hab, hd, c0, c1⟩ := rd_dI (hr.below hb) hlt
      have ht := hs.out d (List.mem_of_getElem? hd)
      have Hd := Lib.hid hd
      have hm2 : t.size ≤ 1000000000 := by omega
      have Hm2 := Lib.hid hm
      clear hd hm
      by_cases ho : d.op = -1
      · have e0 : (d.op == -1) = true := by simpa using ho
        have Ho := Lib.hid ho
        clear ho
        go_wp2_with fail
        go_roundw
        case rel => exact ⟨k + 1, t, by omega, by go_num, rfl, le_step Hm2.out, by show _ = _; rw [take_succ_some Hd.out, tgtL_snoc, if_pos Ho.out, List.append_nil]; exact Hm.out, hb.alloc hb.size _⟩
        case measure => simp [intOf]; omega
      · have e0 : (d.op == -1) = false := by simpa using ho
        have Ho := Lib.hid ho
        clear ho
        go_wp2_with fail
        go_roundw
        case rel => exact ⟨k + 1, _, by omega, by go_num, rfl, by have := Hm2.out; rw [ByteArray.size_append]; omega, by show _ = _; rw [take_succ_some Hd.out, tgtL_snoc, if_neg Ho.out, tb_append, Hm.out], hb.alloc hb.size _⟩
        case measure => simp [intOf]; omega
    · go_wp2
      go_ret
      have e := Hm.out
      rw [List.take_of_length_le (by rw [hr.1]; omega)] at e
      exact ⟨⟨t, rfl, e⟩, hb⟩
end Go.Proofs.YtjebgfpcmooniaaGreatDoor
