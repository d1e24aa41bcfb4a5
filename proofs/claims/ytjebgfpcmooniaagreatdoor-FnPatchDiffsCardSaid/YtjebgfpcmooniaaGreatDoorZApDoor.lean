/- ptAll: whether all patches were applied. FnPatchDiffs: the walk of the law itself: it returns true. Apply: the door. -/
import Derived.Test.YtjebgfpcmooniaaGreatDoorZPlain
import Derived.Test.YtjebgfpcmooniaaGreatDoorZOpen
import Derived.Test.YtjebgfpcmooniaaGreatDoorZAll
import Derived.Test.YtjebgfpcmooniaaGreatDoorZIdle
import Derived.Deep.RegionLaw
namespace Go.Proofs.YtjebgfpcmooniaaGreatDoor
open Go Go.RowKit

def bC (b : Bool) : List Value := [.bool b]
theorem bC_len (b : Bool) : (bC b).length = 1 := rfl
theorem bC_one (b : Bool) : ∀ u ∈ bC b, u.oneCell' = true := by intro u hu; simp [bC] at hu; subst hu; rfl
theorem st38 : STy Tryz.prog 38 4 1 1 := STy.mk' (by kernel_rfl) (show _ = some (some (.bool false), 1, 1) from by kernel_rfl) rfl (by omega) (by omega)
theorem rd_bC {w : World} {B : Nat} {A : Option Addr} {n k : Nat} {l : List Bool} (h : RdL bC 1 w B A n l) (hk : k < n) :
    ∃ ad b, A = some ad ∧ ad.block < B ∧ l[k]? = some b ∧ w.cell? (ad.add k) = some (.bool b) := by
  obtain ⟨ad, x, rfl, hab, hx, hc⟩ := h.at_ hk
  exact ⟨ad, x, rfl, hab, hx, by simpa [add_zero'] using hc 0 _ rfl⟩

set_option maxRecDepth 100000 in
theorem ptAll_any (A : Option Addr) (n c : Nat) (l : List Bool) (w : World) (hr : RdL bC 1 w w.heap.size A n l) (hn : n ≤ 10000000) (hl : Hid (∀ b ∈ l, b = true)) :
    Calls Tryz.prog 25 #[.slice A n c, .int .i64 n] w fun e w' => e = .returned (.bool true) ∧ w = w' := by
  go_enter Tryz.func25, Tryz.ntmps25
  go_wp2
  go_loop [9] (fun i => ∃ k : Nat, k ≤ n ∧ i = .int .i64 k) (fun i => n - (intOf i).toNat)
  case atStart => exact ⟨0, Nat.zero_le _, rfl⟩
  case round =>
    obtain ⟨k, hk, rfl⟩ := hrel
    by_cases hlt : k < n
    · obtain ⟨ad, b, rfl, hab, hb, hc⟩ := rd_bC hr hlt
      have hbt := hl.out b (List.mem_of_getElem? hb)
      subst hbt
      clear hb
      go_wp2
      go_round
      case rel => exact ⟨k + 1, by omega, by go_num⟩
      case measure => simp [intOf]; omega
    · go_wp2
      go_ret
      exact ⟨rfl, rfl⟩
end Go.Proofs.YtjebgfpcmooniaaGreatDoor

namespace Go.Proofs.YtjebgfpcmooniaaGreatDoor
open Go Go.RowKit

theorem okP_more {φ : UInt8 → Prop} {n N : Nat} {p : P} (h : OkP φ n N p) (hn : n ≤ 30) : OkP φ 30 N p := ⟨by have := h.len; omega, h.op, h.sz, h.by_, h.num⟩
/-- what the door Apply hands back where each patch stands -/
def ApPost (t' : List UInt8) (w : World) (e : Ending) (w' : World) : Prop :=
  ∃ (out : ByteArray) (v : Value) (l : List Bool), e = .returned (.tuple #[.string out, v, .int .i64 0]) ∧ tb out = t' ∧ (∀ b ∈ l, b = true) ∧ l.length ≤ 10000000 ∧ OwnL bC 4 1 w' w.heap.size v l ∧ Below w.heap.size w w'
/-- the contract of the door Apply -/
def ApplySaid : Prop :=
  ∀ (φ : UInt8 → Prop) (half : Bool) (cost dist : Int) (th de : Nat) (mar : Nat) (bits : Int) (A : Option Addr) (n c : Nat) (l : List (Value × P)) (t : ByteArray) (t' : List UInt8) (w : World),
    Us cost dist th de mar bits → RdL pvP 5 w w.heap.size A n l → n ≤ 30 → (∀ x ∈ l, Rows dI w w.heap.size x) → (∀ x ∈ l, OkP φ 30 3600 x.2) → Placed mar (tb t) (l.map (·.2)) t' → t.size ≤ 3600 →
    Calls Tryz.prog 22 #[.agg #[.bool half, .int .i64 cost, .int .i64 dist, .float .f64 th, .float .f64 de, .int .i64 mar, .int .i64 bits], .slice A n c, .string t] w (ApPost t' w)

set_option maxRecDepth 100000 in
set_option maxHeartbeats 4000000 in
theorem diffs_law (hAp : Hid ApplySaid) (half : Bool) (cost dist : Int) (th de : Nat) (mar bits : Int) (A : Option Addr) (n c : Nat) (l : List D) (w : World) (hr : RdL dI 2 w w.heap.size A n l) (hn : n ≤ 9223372036854775807) :
    Calls Tryz.prog 4 #[.agg #[.bool half, .int .i64 cost, .int .i64 dist, .float .f64 th, .float .f64 de, .int .i64 mar, .int .i64 bits], .slice A n c] w fun e w' => e = .returned (.bool true) ∧ Below w.heap.size w w' := by
  have hbA : Below w.heap.size w (w.alloc (.cells #[.bool half, .int .i64 cost, .int .i64 dist, .float .f64 th, .float .f64 de, .int .i64 mar, .int .i64 bits] 24)) := (Below.refl _ _).alloc (Nat.le_refl _) _
  have hh := heap_alloc_new w (.cells #[.bool half, .int .i64 cost, .int .i64 dist, .float .f64 th, .float .f64 de, .int .i64 mar, .int .i64 bits] 24)
  have hsA : w.heap.size < (w.alloc (.cells #[.bool half, .int .i64 cost, .int .i64 dist, .float .f64 th, .float .f64 de, .int .i64 mar, .int .i64 bits] 24)).heap.size := by simp
  go_enter Tryz.func4, Tryz.ntmps4
  go_wp2_with (go_at_call 14; refine Hid.out ?_)
  refine Lib.hid ?_
  generalize w.alloc (.cells #[.bool half, .int .i64 cost, .int .i64 dist, .float .f64 th, .float .f64 de, .int .i64 mar, .int .i64 bits] 24) = W at hbA hh hsA ⊢
  have hrA : RdL dI 2 W W.heap.size A n l := (hr.below hbA).more hbA.size
  refine (fits1_all A n c l W hrA hn).mono ?_
  rintro e w1 ⟨b1, rfl, hf1, hb1⟩
  have hB1 : Below w.heap.size w w1 := hbA.trans (hb1.mono hbA.size)
  cases b1 with
  | false =>
    go_wp2_with fail
    go_ret
    exact ⟨rfl, hB1⟩
  | true =>
    obtain ⟨hn1, hs1⟩ := hf1 rfl
    have hh1 := (hb1.block _ hsA).trans hh
    have y0 := blk_cell hh1 0
    have y1 := blk_cell hh1 1
    have y2 := blk_cell hh1 2
    have y3 := blk_cell hh1 3
    have y4 := blk_cell hh1 4
    have y5 := blk_cell hh1 5
    have y6 := blk_cell hh1 6
    simp at y0 y1 y2 y3 y4 y5 y6
    go_wp2_with (go_at_call 15; refine Hid.out ?_)
    refine Lib.hid ?_
    refine (usable_any half cost dist th de mar bits w1).mono ?_
    rintro e w2 ⟨b2, rfl, hf2, hb2⟩
    have hB2 : Below w.heap.size w w2 := hB1.trans (hb2.mono hB1.size)
    cases b2 with
    | false =>
      go_wp2_with fail
      go_ret
      exact ⟨rfl, hB2⟩
    | true =>
      have hus := Lib.hid (hf2 rfl)
      have hs1' := Lib.hid hs1
      clear y0 y1 y2 y3 y4 y5 y6 hs1 hf1 hf2
      go_wp2_with (go_at_call 16; refine Hid.out ?_)
      refine Lib.hid ?_
      refine (ptParts_any A n c l w2 ((hr.below hB2).more hB2.size) hn1 hs1').mono ?_
      rintro e w3 ⟨v3, l3, rfl, hgood, hown3, hb3⟩
      have hB3 : Below w.heap.size w w3 := hB2.trans (hb3.mono hB2.size)
      obtain ⟨A3, c3, rfl, hr3⟩ := hown3.rd dI_len
      have hh3 := (hb3.block _ (Nat.lt_of_lt_of_le hsA (Nat.le_trans hb1.size hb2.size))).trans ((hb2.block _ (Nat.lt_of_lt_of_le hsA hb1.size)).trans hh1)
      have y0 := blk_cell hh3 0
      have y1 := blk_cell hh3 1
      have y2 := blk_cell hh3 2
      have y3 := blk_cell hh3 3
      have y4 := blk_cell hh3 4
      have y5 := blk_cell hh3 5
      have y6 := blk_cell hh3 6
      simp at y0 y1 y2 y3 y4 y5 y6
      have hN := szL_good hgood
      have hokl : Hid (OkL asc l3 3600) := OkL.of (fun d hd => ⟨(hgood.2 d hd).lo, (hgood.2 d hd).hi⟩) (fun d hd => (hgood.2 d hd).asc) hN
      go_wp2_with (go_at_call 17; refine Hid.out ?_)
      refine Lib.hid ?_
      obtain ⟨mar', hmar⟩ := Int.eq_ofNat_of_zero_le (show 0 ≤ mar by have := hus.out.mar0; omega)
      subst hmar
      have hl30 : l3.length ≤ 30 := hgood.1
      refine (makeDiffs_any asc 3600 half cost dist th de mar' bits A3 l3.length c3 l3 w3 hus hokl (by omega) (by omega) hr3).mono ?_
      rintro e w4 ⟨v4, l4, rfl, hown4, heach4, hb4, hpl4, hok4, hlen4, hnil4⟩
      have hB4 : Below w.heap.size w w4 := hB3.trans (hb4.mono hB3.size)
      obtain ⟨A4, c4, rfl, hr4⟩ := hown4.rd pvP_len
      have Hok4 := Lib.hid hok4
      have Heach4 := Lib.hid heach4
      have Hpl4 := Lib.hid hpl4
      have hlen4' : l4.length ≤ 30 := by omega
      have hh4 := (hb4.block _ (Nat.lt_of_lt_of_le hsA (Nat.le_trans hb1.size (Nat.le_trans hb2.size hb3.size)))).trans hh3
      clear y0 y1 y2 y3 y4 y5 y6 hok4 heach4 hnil4 hpl4 hN
      have y0 := blk_cell hh4 0
      have y1 := blk_cell hh4 1
      have y2 := blk_cell hh4 2
      have y3 := blk_cell hh4 3
      have y4 := blk_cell hh4 4
      have y5 := blk_cell hh4 5
      have y6 := blk_cell hh4 6
      simp at y0 y1 y2 y3 y4 y5 y6
      go_wp2_with fail
      have hlt4 : w.heap.size < w4.heap.size := (Array.getElem?_eq_some_iff.1 hh4).1
      have hr34 : RdL dI 2 w4 w4.heap.size A3 l3.length l3 := (hr3.below hb4).more hb4.size
      have hsz3 : Hid (∀ d ∈ l3, d.t.size ≤ 1000000) := fun d hd => by have := (hgood.2 d hd).len; omega
      have hl1000 : l3.length ≤ 1000 := by omega
      have hsrcN : (srcL l3).length ≤ 3600 := Nat.le_trans (srcL_le l3) (szL_good hgood)
      have Hr34 := Lib.hid hr34
      have Hr4 := Lib.hid hr4
      have HCall : Hid (∀ (T : ByteArray) (w5 : World), Hid (tb T = srcL l3) → Below w4.drew.heap.size w4.drew w5 → Calls Tryz.prog 22 #[.agg #[.bool half, .int .i64 cost, .int .i64 dist, .float .f64 th, .float .f64 de, .int .i64 mar', .int .i64 bits], .slice A4 l4.length c4, .string T] w5 (ApPost (tgtL l3) w5)) := fun T w5 hT hb5 =>
        hAp.out asc half cost dist th de mar' bits A4 l4.length c4 l4 T (tgtL l3) w5 hus.out ((Hr4.out.below ((Below.refl _ _).drew.trans hb5)).more hb5.size) hlen4' (fun x hx => ((Rows.of_own dI_len (Heach4.out x hx)).below ((Below.refl _ _).drew.trans hb5)).more hb5.size) (fun x hx => okP_more (Hok4.out x hx) hl30) (by rw [hT.out]; exact Hpl4.out) (by rw [← tb_length, hT.out]; exact hsrcN)
      go_region_held3 (fun w' => w'.cell? ⟨w.heap.size, 0, none⟩ = some (.bool half) ∧ w'.cell? ⟨w.heap.size, 1, none⟩ = some (.int .i64 cost) ∧ w'.cell? ⟨w.heap.size, 2, none⟩ = some (.int .i64 dist) ∧ w'.cell? ⟨w.heap.size, 3, none⟩ = some (.float .f64 th) ∧ w'.cell? ⟨w.heap.size, 4, none⟩ = some (.float .f64 de) ∧ w'.cell? ⟨w.heap.size, 5, none⟩ = some (.int .i64 mar') ∧ w'.cell? ⟨w.heap.size, 6, none⟩ = some (.int .i64 bits))
        (first | exact trivial | go_keep | (go_split_ands; exact ⟨(hb6.cell (Nat.lt_of_lt_of_le hlt4 hb5.size)).trans (by assumption), (hb6.cell (Nat.lt_of_lt_of_le hlt4 hb5.size)).trans (by assumption), (hb6.cell (Nat.lt_of_lt_of_le hlt4 hb5.size)).trans (by assumption), (hb6.cell (Nat.lt_of_lt_of_le hlt4 hb5.size)).trans (by assumption), (hb6.cell (Nat.lt_of_lt_of_le hlt4 hb5.size)).trans (by assumption), (hb6.cell (Nat.lt_of_lt_of_le hlt4 hb5.size)).trans (by assumption), (hb6.cell (Nat.lt_of_lt_of_le hlt4 hb5.size)).trans (by assumption)⟩) | (go_split_ands; exact ⟨(hb5.cell hlt4).trans (by assumption), (hb5.cell hlt4).trans (by assumption), (hb5.cell hlt4).trans (by assumption), (hb5.cell hlt4).trans (by assumption), (hb5.cell hlt4).trans (by assumption), (hb5.cell hlt4).trans (by assumption), (hb5.cell hlt4).trans (by assumption)⟩))
        (first | (go_at_call 23; refine (src_any A3 l3.length c3 l3 _ (show RdL dI 2 w4.drew w4.drew.heap.size A3 l3.length l3 from Hr34.out) hl1000 hsz3).mono ?_; rintro e w5 ⟨⟨T, rfl, hT⟩, hb5⟩; have HT := Lib.hid hT; clear hT) | (go_at_call 22; refine (HCall.out T w5 HT hb5).mono ?_; rintro e w6 ⟨out, v6, l6, rfl, ho6, hl6, hn6, hown6, hb6⟩; have Ho6 := Lib.hid ho6; have Hl6 := Lib.hid hl6; clear ho6 hl6; obtain ⟨A6, c6, rfl, hr6⟩ := hown6.rd bC_len))
      all_goals
        have hb46 : Below w4.heap.size w4 w6 := ((Below.refl _ _).drew.trans hb5).trans (hb6.mono hb5.size)
        have hB6 : Below w.heap.size w w6 := hB4.trans (hb46.mono hB4.size)
        have hr36 : RdL dI 2 w6 w6.heap.size A3 l3.length l3 := (hr34.below hb46).more hb46.size
        clear y0 y1 y2 y3 y4 y5 y6 hAp HCall
        go_wp2_with (go_at_call 24; refine Hid.out ?_)
        refine Lib.hid ?_
        refine (tgt_any A3 l3.length c3 l3 _ hr36 hl1000 hsz3).mono ?_
        rintro e w7 ⟨⟨U, rfl, hU⟩, hb7⟩
        have hUo : U = out := tb_inj (hU.trans Ho6.out.symm)
        subst hUo
        have heq : (U.toList == U.toList) = true := by simp
        clear hU
        go_wp2_with (go_at_call 25; refine Hid.out ?_)
        refine Lib.hid ?_
        refine (ptAll_any A6 l6.length c6 l6 _ ((hr6.below hb7).more hb7.size) hn6 Hl6).mono ?_
        rintro e w8 ⟨rfl, rfl⟩
        go_wp2_with fail
        go_ret
        exact ⟨rfl, hB6.trans (hb7.mono hB6.size)⟩
end Go.Proofs.YtjebgfpcmooniaaGreatDoor

namespace Go.Proofs.YtjebgfpcmooniaaGreatDoor
open Go Go.RowKit

theorem idle58 (p q r : Addr) (w : World) :
    CallsD Tryz.prog 58 #[.pointer (some p), .pointer (some q), .pointer (some r)] .returning w fun e u' w' => e = .returned (.tuple #[]) ∧ u' = .returning ∧ w' = w := by
  refine callsD_of_wpS Tryz.func58 rfl fun c₀ cs hu => ?_
  apply wpS_seq
  apply wpS_region
  simp [wpOpsS, go_sem, recoverD, hu, Tryz.ntmps58, Exit.thenS]
  refine wpS_cond (t := false) (by simp [Act.eval, Array.replicate]) ?_
  simp only [Bool.false_eq_true, if_false]
  refine wpS_of_wp (wp_skip ?_)
  cases c₀
  simp_all [bodyPostS, results, Tryz.results58]

/-- what PatchApply hands back where each patch stands -/
def PaPost (t' : List UInt8) (w : World) (e : Ending) (w' : World) : Prop :=
  ∃ (out : ByteArray) (v : Value) (l : List Bool), e = .returned (.tuple #[.string out, v]) ∧ tb out = t' ∧ (∀ b ∈ l, b = true) ∧ l.length ≤ 10000000 ∧ OwnL bC 4 1 w' w.heap.size v l ∧ Below w.heap.size w w'
/-- the contract of PatchApply -/
def PatchApplySaid : Prop :=
  ∀ (φ : UInt8 → Prop) (gd : Nat) (tmo cost dist : Int) (th de mar bits : Nat) (A : Option Addr) (n c : Nat) (l : List (Value × P)) (t : ByteArray) (t' : List UInt8) (w : World),
    DmpAt w gd tmo cost dist mar bits th de → gd < w.heap.size → 1 ≤ mar → mar ≤ 8 → 32 ≤ bits → bits ≤ 62 → RdL pvP 5 w w.heap.size A n l → n ≤ 30 → (∀ x ∈ l, Rows dP w w.heap.size x) → (∀ x ∈ l, OkP φ 30 3600 x.2) → Placed mar (tb t) (l.map (·.2)) t' → t.size ≤ 3600 →
    Calls Tryz.prog 59 #[.pointer (some ⟨gd, 0, none⟩), .slice A n c, .string t] w (PaPost t' w)

set_option maxRecDepth 100000 in
set_option maxHeartbeats 1000000 in
theorem apply_door (hPA : Hid PatchApplySaid) : ApplySaid := by
  intro φ half cost dist th de mar bits A n c l t t' w hus hr hn hrow hok hpl ht
  have hmf : ∀ (fn : Fn) (first cap : Array Value) (w : World), (Instr.makeFunc fn first cap).run Tryz.prog w = .ok (.func fn first cap) w := fun _ _ _ _ => rfl
  obtain ⟨bits, rfl⟩ := Int.eq_ofNat_of_zero_le (show 0 ≤ bits by have := hus.bits0; omega)
  have HPl := Lib.hid hpl
  have HOk := Lib.hid hok
  have HRow := Lib.hid hrow
  have HUs := Lib.hid hus
  clear hpl hok hrow hus
  go_enter_defers Tryz.func22, Tryz.ntmps22
  go_wp2_with (go_at_call 47; refine Hid.out ?_)
  refine Lib.hid ?_
  have hsz3 : ((((w.alloc (.cells #[.bool half, .int .i64 cost, .int .i64 dist, .float .f64 th, .float .f64 de, .int .i64 mar, .int .i64 bits] 24)).alloc (.cells #[.string ⟨#[]⟩] 9)).alloc (.cells #[.slice none 0 0] 38)).alloc (.cells #[.int .i64 0] 3)).heap.size = w.heap.size + 4 := by simp
  have hbe : Below w.heap.size w ((((w.alloc (.cells #[.bool half, .int .i64 cost, .int .i64 dist, .float .f64 th, .float .f64 de, .int .i64 mar, .int .i64 bits] 24)).alloc (.cells #[.string ⟨#[]⟩] 9)).alloc (.cells #[.slice none 0 0] 38)).alloc (.cells #[.int .i64 0] 3)) := ((((Below.refl _ _).alloc (Nat.le_refl _) _).alloc (by simp) _).alloc (by simp; omega) _).alloc (by simp; omega) _
  have ho4 : ((((w.alloc (.cells #[.bool half, .int .i64 cost, .int .i64 dist, .float .f64 th, .float .f64 de, .int .i64 mar, .int .i64 bits] 24)).alloc (.cells #[.string ⟨#[]⟩] 9)).alloc (.cells #[.slice none 0 0] 38)).alloc (.cells #[.int .i64 0] 3)).heap[w.heap.size + 1]? = some (.cells #[.string ⟨#[]⟩] 9 (0, 0)) :=
    (Below.heap_alloc _ _ _ (by simp)).trans ((Below.heap_alloc _ _ _ (by simp)).trans (heap_alloc_at _ _ _ (by simp)))
  have ho5 : ((((w.alloc (.cells #[.bool half, .int .i64 cost, .int .i64 dist, .float .f64 th, .float .f64 de, .int .i64 mar, .int .i64 bits] 24)).alloc (.cells #[.string ⟨#[]⟩] 9)).alloc (.cells #[.slice none 0 0] 38)).alloc (.cells #[.int .i64 0] 3)).heap[w.heap.size + 2]? = some (.cells #[.slice none 0 0] 38 (0, 0)) := (Below.heap_alloc _ _ _ (by simp)).trans (heap_alloc_at _ _ _ (by simp))
  have ho6 : ((((w.alloc (.cells #[.bool half, .int .i64 cost, .int .i64 dist, .float .f64 th, .float .f64 de, .int .i64 mar, .int .i64 bits] 24)).alloc (.cells #[.string ⟨#[]⟩] 9)).alloc (.cells #[.slice none 0 0] 38)).alloc (.cells #[.int .i64 0] 3)).heap[w.heap.size + 3]? = some (.cells #[.int .i64 0] 3 (0, 0)) := heap_alloc_at _ _ _ (by simp)
  generalize (((w.alloc (.cells #[.bool half, .int .i64 cost, .int .i64 dist, .float .f64 th, .float .f64 de, .int .i64 mar, .int .i64 bits] 24)).alloc (.cells #[.string ⟨#[]⟩] 9)).alloc (.cells #[.slice none 0 0] 38)).alloc (.cells #[.int .i64 0] 3) = W at hsz3 hbe ho4 ho5 ho6 ⊢
  refine (dmp_any half cost dist th de mar bits W HUs.out).mono ?_
  rintro e w1 ⟨gd, rfl, hg1, hg2, hdmp, hb1⟩
  have hr1 : RdL pvP 5 w1 w1.heap.size A n l := ((hr.below hbe).below' hb1 hbe.size).more (Nat.le_trans hbe.size hb1.size)
  have hbw1 : Below w.heap.size w w1 := hbe.trans (hb1.mono hbe.size)
  go_wp2_with (go_at_call 55; refine Hid.out ?_)
  refine Lib.hid ?_
  refine (all_any A n c l w1 hr1 (by omega) (Lib.hid fun x hx => ((HRow.out x hx).below hbw1).more hbw1.size) (Lib.hid fun x hx => ⟨by have := (HOk.out x hx).len; omega, (HOk.out x hx).op⟩)).mono ?_
  rintro e w2 ⟨v2, l', rfl, hl', hown2, heach2, hb2⟩
  obtain ⟨A2, c2, hv2, hr2⟩ := hown2.rd pvP_len
  have hln : l'.length = n := by
    have := congrArg List.length hl'
    rw [List.length_map, List.length_map, hr.1] at this; exact this
  rw [hln] at hv2 hr2
  subst hv2
  clear hln
  obtain ⟨u1, u2, u3, u4, u5, u6, u7, u8, u9, u10⟩ := HUs.out
  have hbw2 : Below w.heap.size w w2 := hbw1.trans (hb2.mono hbw1.size)
  have hok2 : ∀ x ∈ l', OkP φ 30 3600 x.2 := fun x hx => by
    have hm : x.2 ∈ l.map (·.2) := by rw [← hl']; exact List.mem_map_of_mem hx
    obtain ⟨y, hy, e⟩ := List.mem_map.1 hm
    rw [← e]; exact HOk.out y hy
  have hpa := Lib.hid (hPA.out φ gd _ cost dist th de mar bits A2 n c2 l' t t' w2 (hdmp.below hb2 hg2) (Nat.lt_of_lt_of_le hg2 hb2.size) (by omega) (by omega) (by omega) (by omega) hr2 (by omega) (fun x hx => Rows.of_own dP_len (heach2 x hx)) hok2 (by rw [hl']; exact HPl.out) ht)
  clear hdmp hr1 hr2 heach2 hown2 hl' hok2 hPA HPl
  go_wp2_with (go_at_call 59; refine Hid.out ?_)
  refine Lib.hid ?_
  refine hpa.out.mono ?_
  rintro e w3 ⟨out, v3, lb, rfl, ho3, hl3, hn3, hown3, hb3⟩
  have Ho3 := Lib.hid ho3
  have Hl3 := Lib.hid hl3
  obtain ⟨A3, c3, rfl, hr3⟩ := hown3.rd bC_len
  have hall : Below W.heap.size W w3 := hb1.trans ((hb2.mono hb1.size).trans (hb3.mono (Nat.le_trans hb1.size hb2.size)))
  have hbel : Below w.heap.size w w3 := hbe.trans (hall.mono hbe.size)
  have q4 := (hall.block (w.heap.size + 1) (by omega)).trans ho4
  have q5 := (hall.block (w.heap.size + 2) (by omega)).trans ho5
  have q6 := (hall.block (w.heap.size + 3) (by omega)).trans ho6
  have hbase : w.heap.size + 4 ≤ w2.heap.size := by have := hb1.size; have := hb2.size; omega
  have x4 := blk_cell q4 0
  have f4 := blk_frozen q4 0
  have x5 := blk_cell q5 0
  have f5 := blk_frozen q5 0
  have x6 := blk_cell q6 0
  have f6 := blk_frozen q6 0
  simp at x4 x5 x6
  clear ho4 ho5 ho6 hb1 hb2 hb3 hr3 hall hbe hbw1 hbw2 hpa ho3 hl3
  go_wp2_with fail
  have n4 : ∀ v : Value, (∀ g, v.ownBlock = some g → w2.heap.size ≤ g) → v.ownBlock ≠ some (w.heap.size + 1) ∧ v.ownBlock ≠ some (w.heap.size + 1 + 1) ∧ v.ownBlock ≠ some (w.heap.size + 1 + 1 + 1) := fun v hv => ⟨fun e => by have := hv _ e; omega, fun e => by have := hv _ e; omega, fun e => by have := hv _ e; omega⟩
  have o2 := n4 _ (fun g e => (hown3.lt g e).1)
  have hownF : OwnL bC 4 1 ((w3.setCell ⟨w.heap.size + 1, 0, none⟩ (.string out)).setCell ⟨w.heap.size + 1 + 1, 0, none⟩ (.slice A3 lb.length c3)) w.heap.size (.slice A3 lb.length c3) lb := ((hown3.base_le (by omega)).setCell_other o2.1 _).setCell_other o2.2.1 _
  have hbF : Below w.heap.size w ((w3.setCell ⟨w.heap.size + 1, 0, none⟩ (.string out)).setCell ⟨w.heap.size + 1 + 1, 0, none⟩ (.slice A3 lb.length c3)) := (hbel.setCell (by simp) _).setCell (by simp; omega) _
  have p4 := blk_far (blk_set q4 0 (.string out)) (p := ⟨w.heap.size + 1 + 1, 0, none⟩) (by simp) (.slice A3 lb.length c3)
  have p5 := blk_set (blk_far q5 (p := ⟨w.heap.size + 1, 0, none⟩) (by simp) (.string out)) 0 (.slice A3 lb.length c3)
  have p6 := blk_far (blk_far q6 (p := ⟨w.heap.size + 1, 0, none⟩) (by simp) (.string out)) (p := ⟨w.heap.size + 1 + 1, 0, none⟩) (by simp) (.slice A3 lb.length c3)
  generalize (w3.setCell ⟨w.heap.size + 1, 0, none⟩ (.string out)).setCell ⟨w.heap.size + 1 + 1, 0, none⟩ (.slice A3 lb.length c3) = wF at hownF hbF p4 p5 p6 ⊢
  have z4 := blk_cell p4 0
  have z5 := blk_cell p5 0
  have z6 := blk_cell p6 0
  have g4 := blk_frozen p4 0
  have g5 := blk_frozen p5 0
  have g6 := blk_frozen p6 0
  simp at z4 z5 z6
  go_region_law (fail)
  all_goals
    go_wp2_with fail
    have r2 : OwnL bC 4 1 ((((wF.setCell ⟨w.heap.size + 1, 0, none⟩ (.string out)).setCell ⟨w.heap.size + 1 + 1, 0, none⟩ (.slice A3 lb.length c3)).setCell ⟨w.heap.size + 1 + 1 + 1, 0, none⟩ (.int .i64 0)).drew) w.heap.size (.slice A3 lb.length c3) lb := (((hownF.setCell_other o2.1 _).setCell_other o2.2.1 _).setCell_other o2.2.2 _).drew
    have r4 : Below w.heap.size w ((((wF.setCell ⟨w.heap.size + 1, 0, none⟩ (.string out)).setCell ⟨w.heap.size + 1 + 1, 0, none⟩ (.slice A3 lb.length c3)).setCell ⟨w.heap.size + 1 + 1 + 1, 0, none⟩ (.int .i64 0)).drew) := (((hbF.setCell (by simp) _).setCell (by simp; omega) _).setCell (by simp; omega) _).drew
    have e4 : ((((wF.setCell ⟨w.heap.size + 1, 0, none⟩ (.string out)).setCell ⟨w.heap.size + 1 + 1, 0, none⟩ (.slice A3 lb.length c3)).setCell ⟨w.heap.size + 1 + 1 + 1, 0, none⟩ (.int .i64 0)).drew).heap[w.heap.size + 1]? = some (.cells #[.string out] 9 (0, 0)) := by
      have := blk_far (blk_far (blk_set p4 0 (.string out)) (p := ⟨w.heap.size + 1 + 1, 0, none⟩) (by simp) (.slice A3 lb.length c3)) (p := ⟨w.heap.size + 1 + 1 + 1, 0, none⟩) (by simp) (.int .i64 0)
      exact this
    have e5 : ((((wF.setCell ⟨w.heap.size + 1, 0, none⟩ (.string out)).setCell ⟨w.heap.size + 1 + 1, 0, none⟩ (.slice A3 lb.length c3)).setCell ⟨w.heap.size + 1 + 1 + 1, 0, none⟩ (.int .i64 0)).drew).heap[w.heap.size + 1 + 1]? = some (.cells #[.slice A3 lb.length c3] 38 (0, 0)) := by
      have := blk_far (blk_set (blk_far p5 (p := ⟨w.heap.size + 1, 0, none⟩) (by simp) (.string out)) 0 (.slice A3 lb.length c3)) (p := ⟨w.heap.size + 1 + 1 + 1, 0, none⟩) (by simp) (.int .i64 0)
      exact this
    have e6 : ((((wF.setCell ⟨w.heap.size + 1, 0, none⟩ (.string out)).setCell ⟨w.heap.size + 1 + 1, 0, none⟩ (.slice A3 lb.length c3)).setCell ⟨w.heap.size + 1 + 1 + 1, 0, none⟩ (.int .i64 0)).drew).heap[w.heap.size + 1 + 1 + 1]? = some (.cells #[.int .i64 0] 3 (0, 0)) := by
      have := blk_set (blk_far (blk_far p6 (p := ⟨w.heap.size + 1, 0, none⟩) (by simp) (.string out)) (p := ⟨w.heap.size + 1 + 1, 0, none⟩) (by simp) (.slice A3 lb.length c3)) 0 (.int .i64 0)
      exact this
    generalize (((wF.setCell ⟨w.heap.size + 1, 0, none⟩ (.string out)).setCell ⟨w.heap.size + 1 + 1, 0, none⟩ (.slice A3 lb.length c3)).setCell ⟨w.heap.size + 1 + 1 + 1, 0, none⟩ (.int .i64 0)).drew = wZ at r2 r4 e4 e5 e6 ⊢
    have t4 := blk_cell e4 0
    have t5 := blk_cell e5 0
    have t6 := blk_cell e6 0
    simp at t4 t5 t6
    have hfin : ApPost t' w (.returned (.tuple #[.string out, .slice A3 lb.length c3, .int .i64 0])) wZ := ⟨out, _, lb, rfl, Ho3.out, Hl3.out, hn3, r2, r4⟩
    refine leaves_cons (f := 58) (args := #[.pointer (some ⟨w.heap.size + 1, 0, none⟩), .pointer (some ⟨w.heap.size + 1 + 1, 0, none⟩), .pointer (some ⟨w.heap.size + 1 + 1 + 1, 0, none⟩)]) (by simp) (by simp [go_sem]) ?_
    refine (idle58 ⟨w.heap.size + 1, 0, none⟩ ⟨w.heap.size + 1 + 1, 0, none⟩ ⟨w.heap.size + 1 + 1 + 1, 0, none⟩ wZ).mono ?_
    rintro e u' w'' ⟨rfl, rfl, rfl⟩
    simp [Leaves, settle, results, Tryz.results22, go_sem, t4, t5, t6]
    exact hfin
end Go.Proofs.YtjebgfpcmooniaaGreatDoor
