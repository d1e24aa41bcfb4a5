/- The texts of differences, as the package tells them: DiffText1, DiffText2. The settings: which are usable; the package's settings that are made of them. The package's settings in memory. -/
import Derived.Test.YtjebgfpcmooniaaGreatDoorZRef
import Derived.Test.YtjebgfpcmooniaaGreatDoorZShelfD
import Derived.Lib.BufferKept
import Derived.Lib.UnsafeStr
import Derived.Test.YtjebgfpcmooniaaGreatDoorZPlain
namespace Go.Proofs.YtjebgfpcmooniaaGreatDoor
open Go Go.RowKit

theorem le_step2 {a m k : Nat} (h : a ≤ k * 1000000) (h2 : m ≤ 1000000) : a + m ≤ (k + 1) * 1000000 := by rw [Nat.add_mul, Nat.one_mul]; exact Nat.add_le_add h h2

set_option maxRecDepth 100000 in
set_option maxHeartbeats 400000 in
theorem text1_any (dv : Value) (A : Option Addr) (n c : Nat) (l : List D) (w : World) (hr : RdL dP 2 w w.heap.size A n l) (hn : n ≤ 1000000) (hs : Hid (∀ d ∈ l, d.t.size ≤ 1000000)) :
    Calls Tryz.prog 82 #[dv, .slice A n c] w fun e w' => e = .returned (.string ⟨(srcL l).toArray⟩) ∧ Below w.heap.size w w' := by
  go_enter Tryz.func82, Tryz.ntmps82
  go_wp2
  go_loopw [10] (fun i wr => ∃ (k : Nat) (bs : List UInt8), k ≤ n ∧ i = .int .i64 k ∧ bs.length ≤ k * 1000000 ∧ Hid (bs = srcL (l.take k)) ∧ Lib.IsBuffer 135 5 w.heap.size w.heap.size (Lib.byteCells bs) wr ∧ Below w.heap.size w wr) (fun i _ => n - (intOf i).toNat)
  case atStart => exact ⟨0, [], by omega, rfl, by simp, rfl, Lib.fresh_isBuffer 135 5 w, (Below.refl _ _).alloc (Nat.le_refl _) _⟩
  case round =>
    obtain ⟨k, bs, hk, rfl, hm, Hm, hbuf, hb⟩ := hrel
    have Hm2 := Lib.hid hm
    by_cases hlt : k < n
    · obtain ⟨ad, d, rfl, hab, hd, c0, c1⟩ := rd_dP (hr.below hb) hlt
      have ht := hs.out d (List.mem_of_getElem? hd)
      have hlim : (Lib.byteCells bs).length + d.t.size ≤ 140737488355328 := by rw [Lib.byteCells_length]; omega
      have Hlim := Lib.hid hlim
      have Ht := Lib.hid ht
      have Hd := Lib.hid hd
      have hbuf2 := hbuf.alloc (.cells #[.int .i8 d.op, .string d.t] 128)
      have hbl := hbuf.lt
      clear hd hm hlim ht
      by_cases ho : d.op = 1
      · have e0 : (d.op == 1) = true := by simpa using ho
        have Ho := Lib.hid ho
        clear ho
        go_wp2_with fail
        go_roundw
        case rel => exact ⟨k + 1, bs, by omega, by go_num, le_step Hm2.out, by show _ = _; rw [take_succ_some Hd.out, srcL_snoc, if_pos Ho.out, List.append_nil]; exact Hm.out, hbuf2, hb.alloc hb.size _⟩
        case measure => simp [intOf]; omega
      · have e0 : (d.op == 1) = false := by simpa using ho
        have Ho := Lib.hid ho
        clear ho
        go_wp2_with (go_at_call 91; refine (Tryz.Buffer_WriteString w.heap.size w.heap.size _ d.t _ hbuf2 (le_al hb.size) (Lib.byteCells_one _) Hlim.out).mono ?_; rintro e w2 ⟨rfl, hbuf3, hb3⟩)
        go_roundw
        case rel => exact ⟨k + 1, bs ++ tb d.t, by omega, by go_num, by rw [List.length_append, tb_length]; exact le_step2 Hm2.out Ht.out, by show _ = _; rw [take_succ_some Hd.out, srcL_snoc, if_neg Ho.out, Hm.out], by rw [Lib.byteCells_append]; exact hbuf3, (hb.alloc hb.size _).trans hb3⟩
        case measure => simp [intOf]; omega
    · have e := Hm.out
      rw [List.take_of_length_le (by rw [hr.1]; omega)] at e
      have He := Lib.hid e
      clear e
      go_wp2_with (go_at_call 93; refine (Tryz.Buffer_String w.heap.size w.heap.size bs _ hbuf).mono ?_; rintro e w2 ⟨rfl, nd, rfl⟩)
      go_ret
      exact ⟨by rw [← He.out]; rfl, hb.trans ⟨rfl, rfl, rfl, Nat.le_refl _, fun _ _ => rfl⟩⟩

set_option maxRecDepth 100000 in
set_option maxHeartbeats 400000 in
theorem text2_any (dv : Value) (A : Option Addr) (n c : Nat) (l : List D) (w : World) (hr : RdL dP 2 w w.heap.size A n l) (hn : n ≤ 1000000) (hs : Hid (∀ d ∈ l, d.t.size ≤ 1000000)) :
    Calls Tryz.prog 68 #[dv, .slice A n c] w fun e w' => e = .returned (.string ⟨(tgtL l).toArray⟩) ∧ Below w.heap.size w w' := by
  go_enter Tryz.func68, Tryz.ntmps68
  go_wp2
  go_loopw [10] (fun i wr => ∃ (k : Nat) (bs : List UInt8), k ≤ n ∧ i = .int .i64 k ∧ bs.length ≤ k * 1000000 ∧ Hid (bs = tgtL (l.take k)) ∧ Lib.IsBuffer 135 5 w.heap.size w.heap.size (Lib.byteCells bs) wr ∧ Below w.heap.size w wr) (fun i _ => n - (intOf i).toNat)
  case atStart => exact ⟨0, [], by omega, rfl, by simp, rfl, Lib.fresh_isBuffer 135 5 w, (Below.refl _ _).alloc (Nat.le_refl _) _⟩
  case round =>
    obtain ⟨k, bs, hk, rfl, hm, Hm, hbuf, hb⟩ := hrel
    have Hm2 := Lib.hid hm
    by_cases hlt : k < n
    · obtain ⟨ad, d, rfl, hab, hd, c0, c1⟩ := rd_dP (hr.below hb) hlt
      have ht := hs.out d (List.mem_of_getElem? hd)
      have hlim : (Lib.byteCells bs).length + d.t.size ≤ 140737488355328 := by rw [Lib.byteCells_length]; omega
      have Hlim := Lib.hid hlim
      have Ht := Lib.hid ht
      have Hd := Lib.hid hd
      have hbuf2 := hbuf.alloc (.cells #[.int .i8 d.op, .string d.t] 128)
      have hbl := hbuf.lt
      clear hd hm hlim ht
      by_cases ho : d.op = -1
      · have e0 : (d.op == -1) = true := by simpa using ho
        have Ho := Lib.hid ho
        clear ho
        go_wp2_with fail
        go_roundw
        case rel => exact ⟨k + 1, bs, by omega, by go_num, le_step Hm2.out, by show _ = _; rw [take_succ_some Hd.out, tgtL_snoc, if_pos Ho.out, List.append_nil]; exact Hm.out, hbuf2, hb.alloc hb.size _⟩
        case measure => simp [intOf]; omega
      · have e0 : (d.op == -1) = false := by simpa using ho
        have Ho := Lib.hid ho
        clear ho
        go_wp2_with (go_at_call 91; refine (Tryz.Buffer_WriteString w.heap.size w.heap.size _ d.t _ hbuf2 (le_al hb.size) (Lib.byteCells_one _) Hlim.out).mono ?_; rintro e w2 ⟨rfl, hbuf3, hb3⟩)
        go_roundw
        case rel => exact ⟨k + 1, bs ++ tb d.t, by omega, by go_num, by rw [List.length_append, tb_length]; exact le_step2 Hm2.out Ht.out, by show _ = _; rw [take_succ_some Hd.out, tgtL_snoc, if_neg Ho.out, Hm.out], by rw [Lib.byteCells_append]; exact hbuf3, (hb.alloc hb.size _).trans hb3⟩
        case measure => simp [intOf]; omega
    · have e := Hm.out
      rw [List.take_of_length_le (by rw [hr.1]; omega)] at e
      have He := Lib.hid e
      clear e
      go_wp2_with (go_at_call 93; refine (Tryz.Buffer_String w.heap.size w.heap.size bs _ hbuf).mono ?_; rintro e w2 ⟨rfl, nd, rfl⟩)
      go_ret
      exact ⟨by rw [← He.out]; rfl, hb.trans ⟨rfl, rfl, rfl, Nat.le_refl _, fun _ _ => rfl⟩⟩
end Go.Proofs.YtjebgfpcmooniaaGreatDoor

namespace Go.Proofs.YtjebgfpcmooniaaGreatDoor
open Go Go.RowKit

/-- a number from 0 to 1 -/
def okF (x : Nat) : Prop := (FloatKind.f64.format.order x 0 == some Ordering.gt || FloatKind.f64.format.order x 0 == some Ordering.eq) = true ∧ (FloatKind.f64.format.order x 4607182418800017408 == some Ordering.lt || FloatKind.f64.format.order x 4607182418800017408 == some Ordering.eq) = true

structure Us (cost dist : Int) (th de : Nat) (mar bits : Int) : Prop where
  cost0 : 0 ≤ cost
  cost1 : cost ≤ 1000
  dist0 : 0 ≤ dist
  dist1 : dist ≤ 1048576
  mar0 : 1 ≤ mar
  mar1 : mar ≤ 8
  bits0 : 32 ≤ bits
  bits1 : bits ≤ 62
  th : okF th
  de : okF de

def UsPost (cost dist : Int) (th de : Nat) (mar bits : Int) (w : World) (e : Ending) (w' : World) : Prop :=
  ∃ b : Bool, e = .returned (.bool b) ∧ (b = true → Us cost dist th de mar bits) ∧ Below w.heap.size w w'

set_option maxHeartbeats 1000000 in
theorem usable_any (half : Bool) (cost dist : Int) (th de : Nat) (mar bits : Int) (w : World) :
    Calls Tryz.prog 15 #[.agg #[.bool half, .int .i64 cost, .int .i64 dist, .float .f64 th, .float .f64 de, .int .i64 mar, .int .i64 bits]] w (UsPost cost dist th de mar bits w) := by
  go_enter Tryz.func15, Tryz.ntmps15
  go_wp2
  all_goals go_ret
  all_goals refine ⟨_, rfl, fun hb => ?_, (Below.refl _ _).alloc (Nat.le_refl _) _⟩
  all_goals first | (simp at hb; done) | (simp only [Bool.and_eq_true, decide_eq_true_eq] at hb; obtain ⟨⟨⟨⟨k1, k2⟩, k3⟩, k4⟩, k5⟩ := hb; exact ⟨by omega, by omega, by omega, by omega, by omega, by omega, by omega, by omega, ⟨k1, k2⟩, ⟨k3, k4⟩⟩)

/-- a number within bounds -/
theorem within_any (n lo hi us : Int) (w : World) (h1 : lo ≤ n) (h2 : n ≤ hi) :
    Calls Tryz.prog 80 #[.int .i64 n, .int .i64 lo, .int .i64 hi, .int .i64 us] w fun e w' => e = .returned (.int .i64 n) ∧ w = w' := by
  go_enter Tryz.func80, Tryz.ntmps80
  go_wp2
  go_ret
  exact ⟨rfl, rfl⟩

theorem part_any (x : Nat) (w : World) (h : okF x) :
    Calls Tryz.prog 81 #[.float .f64 x] w fun e w' => e = .returned (.float .f64 x) ∧ w = w' := by
  obtain ⟨h1, h2⟩ := h
  go_enter Tryz.func81, Tryz.ntmps81
  go_wp2
  go_ret
  exact ⟨rfl, rfl⟩
end Go.Proofs.YtjebgfpcmooniaaGreatDoor

namespace Go.Proofs.YtjebgfpcmooniaaGreatDoor
open Go Go.RowKit

/-- the package's settings lie at the head of block g -/
def DmpAt (w : World) (g : Nat) (tmo cost dist mar bits : Int) (th de : Nat) : Prop :=
  w.heap[g]? = some (.cells #[.int .i64 tmo, .int .i64 cost, .int .i64 dist, .float .f64 de, .int .i64 mar, .int .i64 bits, .float .f64 th] 119 (0, 0))

theorem DmpAt.below {w w' : World} {g B : Nat} {tmo cost dist mar bits : Int} {th de : Nat} (h : DmpAt w g tmo cost dist mar bits th de) (hb : Below B w w') (hg : g < B) : DmpAt w' g tmo cost dist mar bits th de := (hb.block g hg).trans h

set_option maxRecDepth 100000 in
set_option maxHeartbeats 1000000 in
theorem dmp_any (half : Bool) (cost dist : Int) (th de : Nat) (mar bits : Int) (w : World) (hu : Us cost dist th de mar bits) :
    Calls Tryz.prog 47 #[.agg #[.bool half, .int .i64 cost, .int .i64 dist, .float .f64 th, .float .f64 de, .int .i64 mar, .int .i64 bits]] w fun e w' =>
      ∃ g, e = .returned (.pointer (some ⟨g, 0, none⟩)) ∧ w.heap.size ≤ g ∧ g < w'.heap.size ∧ DmpAt w' g (if half then 1 else 0) cost dist mar bits th de ∧ Below w.heap.size w w' := by
  obtain ⟨a0, a1, a2, a3, a4, a5, a6, a7, a8, a9⟩ := hu
  cases half
  all_goals
    go_enter Tryz.func47, Tryz.ntmps47
    go_wp2_with fail
    refine region_tail 17 (by kernel_rfl) (by kernel_rfl) ?_
    simp only [List.take_succ_cons, List.take_zero, List.drop_succ_cons, List.drop_zero]
    repeat still_step
    still_call ((within_any _ _ _ _ _ a0 a1).mono fun _ _ h => ⟨h.1, h.2.symm⟩)
    repeat still_step
    still_call ((within_any _ _ _ _ _ a2 a3).mono fun _ _ h => ⟨h.1, h.2.symm⟩)
    repeat still_step
    still_call ((part_any _ _ a8).mono fun _ _ h => ⟨h.1, h.2.symm⟩)
    repeat still_step
    still_call ((part_any _ _ a9).mono fun _ _ h => ⟨h.1, h.2.symm⟩)
    repeat still_step
    still_call ((within_any _ _ _ _ _ a4 a5).mono fun _ _ h => ⟨h.1, h.2.symm⟩)
    repeat still_step
    refine wpStill_nil ?_
    go_wp2_with (go_at_call 80; refine (within_any _ _ _ _ _ a6 a7).mono ?_; rintro e w' ⟨rfl, rfl⟩)
    go_ret
    exact ⟨w.heap.size + 1, rfl, by omega, by simp, heap_alloc_at (w.alloc _) _ _ (by simp), (((Below.refl _ _).alloc (Nat.le_refl _) _).alloc (by simp) _).drew⟩
end Go.Proofs.YtjebgfpcmooniaaGreatDoor
