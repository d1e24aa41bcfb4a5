/- utf8.Valid of bytes of ASCII. utf8.Valid of bytes of ASCII: words. -/
import Derived.Test.YtjebgfpcmooniaaGreatDoorZNumbers
import Derived.Shelf.Unicode.WordAny
import Derived.Deep.DeepBigQuietO
import Derived.Laws.BitsAllLaws
import Derived.Lib.ValidLaws
namespace Go.Proofs.YtjebgfpcmooniaaGreatDoor
open Go Go.RowKit

set_option maxRecDepth 1000000 in
set_option maxHeartbeats 4000000 in
theorem word_any (ad : Addr) (n c : Nat) (x0 x1 x2 x3 x4 x5 x6 x7 : UInt8) (w : World) (hn : 8 ≤ n) (hn1 : n ≤ 1000000000)
    (hc : w.cell? ad = some (.int .u8 (x0.toNat : Int)) ∧ w.cell? ⟨ad.block, ad.off + 1, none⟩ = some (.int .u8 (x1.toNat : Int)) ∧ w.cell? ⟨ad.block, ad.off + 2, none⟩ = some (.int .u8 (x2.toNat : Int)) ∧ w.cell? ⟨ad.block, ad.off + 3, none⟩ = some (.int .u8 (x3.toNat : Int)) ∧ w.cell? ⟨ad.block, ad.off + 4, none⟩ = some (.int .u8 (x4.toNat : Int)) ∧ w.cell? ⟨ad.block, ad.off + 5, none⟩ = some (.int .u8 (x5.toNat : Int)) ∧ w.cell? ⟨ad.block, ad.off + 6, none⟩ = some (.int .u8 (x6.toNat : Int)) ∧ w.cell? ⟨ad.block, ad.off + 7, none⟩ = some (.int .u8 (x7.toNat : Int))) :
    Calls Tryz.prog 130 #[.slice (some ad) n c] w fun e w' => e = .returned (.int .u64 (Lib.leNat [x0, x1, x2, x3, x4, x5, x6, x7])) ∧ ∃ q, w' = w.drewN q := by
  obtain ⟨c0, c1, c2, c3, c4, c5, c6, c7⟩ := hc
  have h0 : x0.toNat < 256 := x0.toNat_lt
  have h1 : x1.toNat < 256 := x1.toNat_lt
  have h2 : x2.toNat < 256 := x2.toNat_lt
  have h3 : x3.toNat < 256 := x3.toNat_lt
  have h4 : x4.toNat < 256 := x4.toNat_lt
  have h5 : x5.toNat < 256 := x5.toNat_lt
  have h6 : x6.toNat < 256 := x6.toNat_lt
  have h7 : x7.toNat < 256 := x7.toNat_lt
  have hv : ((Lib.leNat [x0, x1, x2, x3, x4, x5, x6, x7] : Nat) : Int) = (x0.toNat : Int) + (x1.toNat : Int) * 256 + (x2.toNat : Int) * 65536 + (x3.toNat : Int) * 16777216 + (x4.toNat : Int) * 4294967296 + (x5.toNat : Int) * 1099511627776 + (x6.toNat : Int) * 281474976710656 + (x7.toNat : Int) * 72057594037927936 := by
    simp only [Lib.leNat]
    push_cast
    omega
  have q0 : (0 : Int) < (n : Int) := by omega
  have p0 : 0 < n := by omega
  have q1 : (1 : Int) < (n : Int) := by omega
  have p1 : 1 < n := by omega
  have q2 : (2 : Int) < (n : Int) := by omega
  have p2 : 2 < n := by omega
  have q3 : (3 : Int) < (n : Int) := by omega
  have p3 : 3 < n := by omega
  have q4 : (4 : Int) < (n : Int) := by omega
  have p4 : 4 < n := by omega
  have q5 : (5 : Int) < (n : Int) := by omega
  have p5 : 5 < n := by omega
  have q6 : (6 : Int) < (n : Int) := by omega
  have p6 : 6 < n := by omega
  have q7 : (7 : Int) < (n : Int) := by omega
  have p7 : 7 < n := by omega
  have mixed : Tryz.prog.follows .mixedOrders = true := by kernel_rfl
  go_enter Tryz.func130, Tryz.ntmps130
  go_wp2
  go_quiet_o (fail)
  go_wp2
  go_ret
  refine ⟨?_, _, rfl⟩
  simp (disch := omega) only [u64_wrap_id, u64_or8, u64_or16, u64_or24, u64_or32, u64_or40, u64_or48, u64_or56]
  rw [hv]
  rfl
end Go.Proofs.YtjebgfpcmooniaaGreatDoor

namespace Go.Proofs.YtjebgfpcmooniaaGreatDoor
open Go Go.RowKit

/-- bytes of ASCII, so many from a place on -/
def AB (w : World) (b o n : Nat) : Prop := ∀ i, i < n → ∃ x : UInt8, x.toNat < 128 ∧ w.cell? ⟨b, o + i, none⟩ = some (.int .u8 (x.toNat : Int))
theorem AB.drop {w : World} {b o n : Nat} (h : AB w b o n) (k : Nat) : AB w b (o + k) (n - k) := fun i hi => by
  obtain ⟨x, hx, hc⟩ := h (k + i) (by omega)
  exact ⟨x, hx, by rw [Nat.add_assoc]; exact hc⟩
theorem AB.drewN {w : World} {b o n : Nat} (h : AB w b o n) (q : Nat) : AB (w.drewN q) b o n := h

theorem asc_mask (l : List UInt8) (hl : l.length = 8) (h : ∀ b ∈ l, b.toNat < 128) : Lib.leNat l &&& 9259542123273814144 = 0 := by
  have := (Lib.leNat_mask l).2 h
  rw [hl] at this
  exact this

theorem word_av {w : World} {b o n c : Nat} (h : AB w b o n) (h8 : 8 ≤ n) (hn : n ≤ 1000000000) :
    ∃ X : Nat, X < 18446744073709551616 ∧ X &&& 9259542123273814144 = 0 ∧ ∀ q, Calls Tryz.prog 130 #[.slice (some ⟨b, o, none⟩) n c] (w.drewN q) fun e w' => e = .returned (.int .u64 (X : Int)) ∧ ∃ m, w' = (w.drewN q).drewN m := by
  obtain ⟨x0, a0, c0⟩ := h 0 (by omega)
  obtain ⟨x1, a1, c1⟩ := h 1 (by omega)
  obtain ⟨x2, a2, c2⟩ := h 2 (by omega)
  obtain ⟨x3, a3, c3⟩ := h 3 (by omega)
  obtain ⟨x4, a4, c4⟩ := h 4 (by omega)
  obtain ⟨x5, a5, c5⟩ := h 5 (by omega)
  obtain ⟨x6, a6, c6⟩ := h 6 (by omega)
  obtain ⟨x7, a7, c7⟩ := h 7 (by omega)
  have hl := Lib.leNat_lt [x0, x1, x2, x3, x4, x5, x6, x7]
  rw [show [x0, x1, x2, x3, x4, x5, x6, x7].length = 8 from rfl, show (256 : Nat) ^ 8 = 18446744073709551616 by decide] at hl
  have hm := asc_mask [x0, x1, x2, x3, x4, x5, x6, x7] rfl (by
    intro b hb
    simp only [List.mem_cons, List.not_mem_nil, or_false] at hb
    rcases hb with rfl | rfl | rfl | rfl | rfl | rfl | rfl | rfl <;> assumption)
  exact ⟨_, hl, hm, fun q => word_any ⟨b, o, none⟩ n c x0 x1 x2 x3 x4 x5 x6 x7 (w.drewN q) h8 hn ⟨c0, c1, c2, c3, c4, c5, c6, c7⟩⟩

theorem or_zero {a b m : Nat} (ha : a &&& m = 0) (hb : b &&& m = 0) : (a ||| b) &&& m = 0 := by
  rw [Nat.and_or_distrib_right, ha, hb]; rfl
/-- two words, and what the walk asks of them -/
theorem or_word {X Y : Nat} (hx : X < 18446744073709551616) (hy : Y < 18446744073709551616) (hX : X &&& 9259542123273814144 = 0) (hY : Y &&& 9259542123273814144 = 0) :
    ∃ O : Nat, bits .or .u64 (X : Int) (Y : Int) = (O : Int) ∧ O < 18446744073709551616 ∧ O &&& 9259542123273814144 = 0 :=
  ⟨X ||| Y, u64_or_nat X Y hx hy, Nat.or_lt_two_pow (n := 64) hx hy, or_zero hX hY⟩
theorem and_word {X : Nat} (hx : X < 18446744073709551616) (hX : X &&& 9259542123273814144 = 0) : bits .and .u64 (X : Int) 9259542123273814144 = 0 := by
  have h : bits .and .u64 (X : Int) ((9259542123273814144 : Nat) : Int) = ((X &&& 9259542123273814144 : Nat) : Int) := u64_and_nat X 9259542123273814144 hx (by omega)
  rw [hX] at h
  exact h

theorem drewN_two (w : World) (q m : Nat) : (w.drewN q).drewN m = w.drewN (q + m) := by simp [World.drewN, Nat.add_assoc]
theorem quiet_w {f : FuncId} {args : Array Value} {w : World} {q : Nat} {v : Value} (h : Calls Tryz.prog f args (w.drewN q) fun e w' => e = .returned v ∧ ∃ m, w' = (w.drewN q).drewN m) : Calls Tryz.prog f args (w.drewN q) fun e w'' => e = .returned v ∧ ∃ m, w'' = w.drewN m :=
  h.mono fun _ _ ⟨he, m, hm⟩ => ⟨he, q + m, by rw [hm, drewN_two]⟩

/-- the state: what is left -/
def VaS (B : Nat) (w : World) (v : Value) (wr : World) : Prop :=
  ∃ (A : Option Addr) (n : Nat), v = .slice A n n ∧ n ≤ 1000000000 ∧ (0 < n → ∃ b o, A = some ⟨b, o, none⟩ ∧ AB wr b o n) ∧ Below B w wr
def sliceLen : Value → Nat
  | .slice _ n _ => n
  | _ => 0

end Go.Proofs.YtjebgfpcmooniaaGreatDoor
