/- PatchMake: patches of differences, in the package. MakeDiffs: the door. -/
import Derived.Test.YtjebgfpcmooniaaGreatDoorZMkTwo
import Derived.Test.YtjebgfpcmooniaaGreatDoorZIdle
import Derived.Test.YtjebgfpcmooniaaGreatDoorZAll
namespace Go.Proofs.YtjebgfpcmooniaaGreatDoor
open Go Go.RowKit

theorem MkPost.back {φ : UInt8 → Prop} {N mar : Nat} {l : List D} {tl : List UInt8} {w w1 w' : World} {e : Ending} (hb : Below w.heap.size w w1) (h : MkPost φ N mar l tl w1 e w') : MkPost φ N mar l tl w e w' := by
  obtain ⟨v7, L, h1, h2, h3, h4, h5⟩ := h
  exact ⟨v7, L, h1, h2.base_le hb.size, fun x hx => (h3 x hx).base_le hb.size, hb.trans (h4.mono hb.size), h5⟩

set_option maxRecDepth 100000 in
set_option maxHeartbeats 1000000 in
theorem mk2_zero (φ : UInt8 → Prop) (N mar : Nat) (w : World) (gd : Nat) (t : ByteArray) (A : Option Addr) (c : Nat) :
    Calls Tryz.prog 86 #[.pointer (some ⟨gd, 0, none⟩), .string t, .slice A 0 c] w (MkPost φ N mar [] (srcL []) w) := by
  go_enter Tryz.func86, Tryz.ntmps86
  go_wp2_with fail
  go_ret
  refine ⟨_, [], rfl, ⟨by simp, .inr ⟨w.heap.size, 0, #[], rfl, Nat.le_refl _, heap_alloc_new _ _, Nat.le_refl _, by simp, by simp, by simp⟩⟩, by simp, (Below.refl _ _).alloc (Nat.le_refl _) _, .nil _, by simp, by simp, by simp⟩

theorem mk2_all (φ : UInt8 → Prop) (N : Nat) (w : World) (gd : Nat) (t : ByteArray) (A : Option Addr) (n c : Nat) (l : List D) (tmo cost dist bits : Int) (mar : Nat) (th de : Nat)
    (hmar0 : 1 ≤ mar) (hmar1 : mar ≤ 8) (hb0 : 32 ≤ bits) (hb1 : bits ≤ 62) (hN : N ≤ 1000000) (hn1 : n ≤ 10000)
    (hL : Hid (OkL φ l N)) (ht : Hid (tb t = srcL l)) (hr : RdL dP 2 w w.heap.size A n l) (hgd : gd < w.heap.size)
    (hdmp : DmpAt w gd tmo cost dist mar bits th de) :
    Calls Tryz.prog 86 #[.pointer (some ⟨gd, 0, none⟩), .string t, .slice A n c] w (MkPost φ N mar l (srcL l) w) := by
  by_cases hn : n = 0
  · subst hn
    have : l = [] := List.length_eq_zero_iff.1 hr.1
    subst this
    exact mk2_zero φ N mar w gd t A c
  · exact mk2_any φ N w gd t A n c l tmo cost dist bits mar th de hmar0 hmar1 hb0 hb1 hN hn1 (by omega) hL ht hr hgd hdmp

theorem MkOk.below {φ : UInt8 → Prop} {N mar : Nat} {l : List D} {w w' : World} {gd : Nat} {A : Option Addr} {n : Nat} {tmo cost dist bits : Int} {th de : Nat} (h : MkOk φ N mar l w gd A n tmo cost dist bits th de) (hb : Below w.heap.size w w') : MkOk φ N mar l w' gd A n tmo cost dist bits th de :=
  ⟨h.hmar0, h.hmar1, h.hb0, h.hb1, h.hN, h.hn1, h.hL, (h.hr.below hb).more hb.size, Nat.lt_of_lt_of_le h.hgd hb.size, h.hdmp.below hb h.hgd⟩

set_option maxRecDepth 100000 in
set_option maxHeartbeats 1000000 in
theorem make2_any (φ : UInt8 → Prop) (N mar : Nat) (w : World) (gd gb : Nat) (t : ByteArray) (A : Option Addr) (n c : Nat) (l : List D) (tmo cost dist bits : Int) (th de : Nat)
    (h : Hid (MkOk φ N mar l w gd A n tmo cost dist bits th de)) (ht : Hid (tb t = srcL l))
    (hcell : w.heap[gb]? = some (.cells #[.iface 9 (.string t), .iface 77 (.slice A n c)] 20 (0, 0))) :
    Calls Tryz.prog 48 #[.pointer (some ⟨gd, 0, none⟩), .slice (some ⟨gb, 0, none⟩) 2 2] w (MkPost φ N mar l (srcL l) w) := by
  have c0 := blk_cell hcell 0
  have c1 := blk_cell hcell 1
  simp at c0 c1
  have ha1 := as77
  have ha2 := as9
  have ha3 := as9f
  go_enter Tryz.func48, Tryz.ntmps48
  go_wp2_with (go_at_call 86; refine Hid.out ?_)
  refine Lib.hid ?_
  refine (mk2_all φ N w gd t A n c l tmo cost dist bits mar th de h.out.hmar0 h.out.hmar1 h.out.hb0 h.out.hb1 h.out.hN h.out.hn1 (Lib.hid h.out.hL) ht h.out.hr h.out.hgd h.out.hdmp).mono ?_
  rintro e w1 ⟨v7, L, rfl, hp⟩
  go_wp2_with fail
  go_ret
  exact ⟨v7, L, rfl, hp⟩

theorem MkOk.sizes {φ : UInt8 → Prop} {N mar : Nat} {l : List D} {w : World} {gd : Nat} {A : Option Addr} {n : Nat} {tmo cost dist bits : Int} {th de : Nat} (h : MkOk φ N mar l w gd A n tmo cost dist bits th de) : ∀ d ∈ l, d.t.size ≤ 1000000 :=
  fun d hd => Nat.le_trans (h.hL.sz d hd) h.hN

set_option maxRecDepth 100000 in
set_option maxHeartbeats 1000000 in
theorem make1_any (φ : UInt8 → Prop) (N mar : Nat) (w : World) (gd gb : Nat) (A : Option Addr) (n c : Nat) (l : List D) (tmo cost dist bits : Int) (th de : Nat)
    (h : Hid (MkOk φ N mar l w gd A n tmo cost dist bits th de))
    (hcell : w.heap[gb]? = some (.cells #[.iface 77 (.slice A n c)] 20 (0, 0))) :
    Calls Tryz.prog 48 #[.pointer (some ⟨gd, 0, none⟩), .slice (some ⟨gb, 0, none⟩) 1 1] w (MkPost φ N mar l (srcL l) w) := by
  have c0 := blk_cell hcell 0
  simp at c0
  have ha1 := as77
  have ha2 := as9
  have ha3 := as9f
  go_enter Tryz.func48, Tryz.ntmps48
  go_wp2_with (go_at_call 82; refine Hid.out ?_)
  refine Lib.hid ?_
  refine (text1_any _ A n c l w h.out.hr (by have := h.out.hn1; omega) (Lib.hid h.out.sizes)).mono ?_
  rintro e w1 ⟨rfl, hb1⟩
  go_wp2_with (go_at_call 48; refine Hid.out ?_)
  refine Lib.hid ?_
  refine (make2_any φ N mar _ gd w1.heap.size ⟨(srcL l).toArray⟩ A n c l tmo cost dist bits th de (Lib.hid ((h.out.below hb1).below ((Below.refl _ _).alloc (Nat.le_refl _) _))) (Lib.hid (by simp [tb])) (heap_alloc_new _ _)).mono ?_
  intro e w2 hp
  have hp2 := MkPost.back (hb1.alloc hb1.size _) hp
  clear hp
  obtain ⟨v7, L, rfl, hp⟩ := hp2
  go_wp2_with fail
  go_ret
  exact ⟨v7, L, rfl, hp⟩
end Go.Proofs.YtjebgfpcmooniaaGreatDoor

namespace Go.Proofs.YtjebgfpcmooniaaGreatDoor
open Go Go.RowKit

/-- patches that differences tell, in the thin package's form -/
def MdPost (φ : UInt8 → Prop) (N mar : Nat) (l : List D) (w : World) (e : Ending) (w' : World) : Prop :=
  ∃ (v : Value) (l' : List (Value × P)), e = .returned (.tuple #[v, .int .i64 0]) ∧ OwnL pvP 66 5 w' w.heap.size v l' ∧ (∀ x ∈ l', OwnL dI 64 2 w' w.heap.size x.1 x.2.ds) ∧ Below w.heap.size w w' ∧
    Placed mar (srcL l) (l'.map (·.2)) (tgtL l) ∧ (∀ x ∈ l', OkP φ l.length N x.2) ∧ l'.length ≤ l.length ∧ (l' = [] ↔ ∀ d ∈ l, d.op = 0)

set_option maxRecDepth 100000 in
set_option maxHeartbeats 1000000 in
theorem makeDiffs_any (φ : UInt8 → Prop) (N : Nat) (half : Bool) (cost dist : Int) (th de : Nat) (mar : Nat) (bits : Int) (A : Option Addr) (n c : Nat) (l : List D) (w : World) (hu : Hid (Us cost dist th de mar bits))
    (hL : Hid (OkL φ l N)) (hN : N ≤ 1000000) (hn : n ≤ 10000) (hr : RdL dI 2 w w.heap.size A n l) :
    Calls Tryz.prog 17 #[.agg #[.bool half, .int .i64 cost, .int .i64 dist, .float .f64 th, .float .f64 de, .int .i64 mar, .int .i64 bits], .slice A n c] w (MdPost φ N mar l w) := by
  have hmf : ∀ (fn : Fn) (first cap : Array Value) (w : World), (Instr.makeFunc fn first cap).run Tryz.prog w = .ok (.func fn first cap) w := fun _ _ _ _ => rfl
  go_enter_defers Tryz.func17, Tryz.ntmps17
  go_wp2_with (go_at_call 47; refine Hid.out ?_)
  refine Lib.hid ?_
  have hsz3 : (((w.alloc (.cells #[.bool half, .int .i64 cost, .int .i64 dist, .float .f64 th, .float .f64 de, .int .i64 mar, .int .i64 bits] 24)).alloc (.cells #[.slice none 0 0] 29)).alloc (.cells #[.int .i64 0] 3)).heap.size = w.heap.size + 3 := by simp
  have hbe : Below w.heap.size w (((w.alloc (.cells #[.bool half, .int .i64 cost, .int .i64 dist, .float .f64 th, .float .f64 de, .int .i64 mar, .int .i64 bits] 24)).alloc (.cells #[.slice none 0 0] 29)).alloc (.cells #[.int .i64 0] 3)) := (((Below.refl _ _).alloc (Nat.le_refl _) _).alloc (by simp) _).alloc (by simp; omega) _
  have ho4 : (((w.alloc (.cells #[.bool half, .int .i64 cost, .int .i64 dist, .float .f64 th, .float .f64 de, .int .i64 mar, .int .i64 bits] 24)).alloc (.cells #[.slice none 0 0] 29)).alloc (.cells #[.int .i64 0] 3)).heap[w.heap.size + 1]? = some (.cells #[.slice none 0 0] 29 (0, 0)) :=
    (Below.heap_alloc _ _ _ (by simp)).trans (heap_alloc_at _ _ _ (by simp))
  have ho5 : (((w.alloc (.cells #[.bool half, .int .i64 cost, .int .i64 dist, .float .f64 th, .float .f64 de, .int .i64 mar, .int .i64 bits] 24)).alloc (.cells #[.slice none 0 0] 29)).alloc (.cells #[.int .i64 0] 3)).heap[w.heap.size + 2]? = some (.cells #[.int .i64 0] 3 (0, 0)) := heap_alloc_at _ _ _ (by simp)
  generalize ((w.alloc (.cells #[.bool half, .int .i64 cost, .int .i64 dist, .float .f64 th, .float .f64 de, .int .i64 mar, .int .i64 bits] 24)).alloc (.cells #[.slice none 0 0] 29)).alloc (.cells #[.int .i64 0] 3) = W at hsz3 hbe ho4 ho5 ⊢
  refine (dmp_any half cost dist th de mar bits W hu.out).mono ?_
  rintro e w1 ⟨gd, rfl, hg1, hg2, hdmp, hb1⟩
  have hr1 : RdL dI 2 w1 w1.heap.size A n l := ((hr.below hbe).below' hb1 hbe.size).more (Nat.le_trans hbe.size hb1.size)
  go_wp2_with (go_at_call 49; refine Hid.out ?_)
  refine Lib.hid ?_
  refine (made_any A n c l w1 hr1 (by omega)).mono ?_
  rintro e w2 ⟨v, rfl, hown, hb2⟩
  rw [made_same hL.out.op] at hown
  obtain ⟨A2, c2, rfl, hr2⟩ := hown.rd dP_len
  have hnl : n = l.length := by have := hr.1; omega
  have hok : MkOk φ N mar l w2 gd A2 l.length (if half then 1 else 0) cost dist bits th de := by
    obtain ⟨a0, a1, a2, a3, a4, a5, a6, a7, a8, a9⟩ := hu.out
    exact ⟨by omega, by omega, by omega, by omega, hN, by omega, hL.out, hr2, Nat.lt_of_lt_of_le hg2 hb2.size, hdmp.below hb2 hg2⟩
  have Hok := Lib.hid hok
  clear hok
  go_wp2_with (go_at_call 48; refine Hid.out ?_)
  refine Lib.hid ?_
  refine (make1_any φ N mar _ gd w2.heap.size A2 l.length c2 l _ cost dist bits th de (Lib.hid (Hok.out.below ((Below.refl _ _).alloc (Nat.le_refl _) _))) (heap_alloc_new _ _)).mono ?_
  intro e w3 hp
  have hp3 := MkPost.back ((Below.refl w2.heap.size w2).alloc (Nat.le_refl _) _) hp
  clear hp
  obtain ⟨v7, L, rfl, k1, k2, k3, k4, k5, k6, k7⟩ := hp3
  obtain ⟨A3, c3, rfl, hr3⟩ := k1.rd pvP_len
  go_wp2_with (go_at_call 46; refine Hid.out ?_)
  refine Lib.hid ?_
  refine (patches_any A3 L.length c3 L w3 hr3 (by omega) (Lib.hid fun x hx => Rows.of_own dP_len (k2 x hx)) (Lib.hid fun x hx => ⟨by have := (k5 x hx).len; omega, (k5 x hx).op⟩)).mono ?_
  rintro e w4 ⟨v4, l', rfl, j1, j2, j3, j4⟩
  obtain ⟨A4, c4, rfl, _⟩ := j2.rd pvP_len
  have hall : Below W.heap.size W w4 := hb1.trans ((hb2.mono hb1.size).trans ((k3.mono (Nat.le_trans hb1.size hb2.size)).trans (j4.mono (Nat.le_trans hb1.size (Nat.le_trans hb2.size k3.size)))))
  have hbel : Below w.heap.size w w4 := hbe.trans (hall.mono hbe.size)
  have q4 := (hall.block (w.heap.size + 1) (by omega)).trans ho4
  have q5 := (hall.block (w.heap.size + 1 + 1) (by omega)).trans ho5
  have hbase : w.heap.size + 3 ≤ w3.heap.size := by have := hb1.size; have := hb2.size; have := k3.size; omega
  have x4 := blk_cell q4 0
  have f4 := blk_frozen q4 0
  have x5 := blk_cell q5 0
  have f5 := blk_frozen q5 0
  simp at x4 x5
  clear hbe ho4 ho5 hb1 hb2 hr1 hr2 k1 k2 k3 hdmp hr3 j4 hall
  go_wp2_with fail
  have n4 : ∀ x : Value × P, ∀ v : Value, (∀ g, v.ownBlock = some g → w3.heap.size ≤ g) → v.ownBlock ≠ some (w.heap.size + 1) ∧ v.ownBlock ≠ some (w.heap.size + 1 + 1) := fun _ v hv => ⟨fun e => by have := hv _ e; omega, fun e => by have := hv _ e; omega⟩
  have o2 := n4 (.slice none 0 0, noP) _ (fun g e => (j2.lt g e).1)
  have r2 : OwnL pvP 66 5 ((w4.setCell ⟨w.heap.size + 1, 0, none⟩ (.slice A4 l'.length c4)).setCell ⟨w.heap.size + 1 + 1, 0, none⟩ (.int .i64 0)) w.heap.size (.slice A4 l'.length c4) l' := ((j2.base_le (by omega)).setCell_other o2.1 _).setCell_other o2.2 _
  have r3 : ∀ x ∈ l', OwnL dI 64 2 ((w4.setCell ⟨w.heap.size + 1, 0, none⟩ (.slice A4 l'.length c4)).setCell ⟨w.heap.size + 1 + 1, 0, none⟩ (.int .i64 0)) w.heap.size x.1 x.2.ds := fun x hx => by
    have o := n4 x x.1 (fun g e => ((j3 x hx).lt g e).1)
    exact (((j3 x hx).base_le (by omega)).setCell_other o.1 _).setCell_other o.2 _
  have r4 : Below w.heap.size w ((w4.setCell ⟨w.heap.size + 1, 0, none⟩ (.slice A4 l'.length c4)).setCell ⟨w.heap.size + 1 + 1, 0, none⟩ (.int .i64 0)) := (hbel.setCell (by simp) _).setCell (by simp; omega) _
  have t4 := blk_cell (blk_far (blk_set q4 0 (.slice A4 l'.length c4)) (p := ⟨w.heap.size + 1 + 1, 0, none⟩) (by simp) (.int .i64 0)) 0
  have t5 := blk_cell (blk_set (blk_far q5 (p := ⟨w.heap.size + 1, 0, none⟩) (by simp) (.slice A4 l'.length c4)) 0 (.int .i64 0)) 0
  simp at t4 t5
  generalize (w4.setCell ⟨w.heap.size + 1, 0, none⟩ (.slice A4 l'.length c4)).setCell ⟨w.heap.size + 1 + 1, 0, none⟩ (.int .i64 0) = wF at r2 r3 r4 t4 t5 ⊢
  have hfin : MdPost φ N mar l w (.returned (.tuple #[.slice A4 l'.length c4, .int .i64 0])) wF := by
    refine ⟨_, l', rfl, r2, r3, r4, ?_, ?_, ?_, ?_⟩
    · rw [j1]; exact k4
    · intro x hx
      have : x.2 ∈ L.map (·.2) := by rw [← j1]; exact List.mem_map_of_mem hx
      obtain ⟨y, hy, e⟩ := List.mem_map.1 this
      rw [← e]; exact k5 y hy
    · have := congrArg List.length j1
      simp at this
      omega
    · rw [← k7]
      have := congrArg List.length j1
      simp at this
      constructor
      · rintro rfl; exact List.length_eq_zero_iff.1 (by simpa using this.symm)
      · rintro rfl; exact List.length_eq_zero_iff.1 (by simpa using this)
  refine leaves_cons (f := 45) (args := #[.pointer (some ⟨w.heap.size + 1, 0, none⟩), .pointer (some ⟨w.heap.size + 1 + 1, 0, none⟩)]) (by simp) (by simp [go_sem]) ?_
  refine (idle45 ⟨w.heap.size + 1, 0, none⟩ ⟨w.heap.size + 1 + 1, 0, none⟩ wF).mono ?_
  rintro e u' w'' ⟨rfl, rfl, rfl⟩
  simp [Leaves, settle, results, Tryz.results17, go_sem, t4, t5]
  exact hfin
end Go.Proofs.YtjebgfpcmooniaaGreatDoor
