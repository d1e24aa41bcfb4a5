/- utf8.Valid of bytes of ASCII: the walk. -/
import Derived.Test.YtjebgfpcmooniaaGreatDoorZValidA
namespace Go.Proofs.YtjebgfpcmooniaaGreatDoor
open Go Go.RowKit

set_option maxRecDepth 1000000 in
set_option maxHeartbeats 16000000 in
theorem valid_any (A : Option Addr) (n c : Nat) (w : World) (h1 : n ≤ c) (h2 : n ≤ 1000000000) (h : Hid (0 < n → ∃ b o, A = some ⟨b, o, none⟩ ∧ AB w b o n)) :
    Calls Tryz.prog 90 #[.slice A n c] w fun e w' => e = .returned (.bool true) ∧ Below w.heap.size w w' := by
  have mixed : Tryz.prog.follows .mixedOrders = true := by kernel_rfl
  go_enter Tryz.func90, Tryz.ntmps90
  go_wp2
  go_loopw [0] (VaS w.heap.size w) (fun v _ => sliceLen v)
  case atStart => exact ⟨A, n, rfl, h2, h.out, Below.refl _ _⟩
  case round =>
    obtain ⟨A', n', rfl, hn', hav, hb⟩ := hrel
    by_cases h0 : 0 < n'
    · obtain ⟨b, o, rfl, hab⟩ := hav h0
      obtain ⟨x, hx, cx⟩ := hab 0 h0
      have hx' : (x.toNat : Int) < 128 := by omega
      rw [Nat.add_zero] at cx
      by_cases h8 : 8 < n' - 1
      · obtain ⟨n1, hn1⟩ : ∃ n1, n' - 1 = n1 := ⟨_, rfl⟩
        obtain ⟨o1, ho1⟩ : ∃ o1, o + 1 = o1 := ⟨_, rfl⟩
        have e1 : n' ≠ 1 := by omega
        have hab1 : AB wr b o1 n1 := by rw [← ho1, ← hn1]; exact hab.drop 1
        rw [hn1] at h8
        have h8' : (8 : Int) < (n1 : Int) := by omega
        have e9 : n1 ≠ 8 := by omega
        obtain ⟨X1, lX1, mX1, cX1⟩ := word_av (c := n1) hab1 (by omega) (by omega)
        have hand1 := and_word lX1 mX1
        have hnn : n1 + 1 = n' := by omega
        go_wp2_with (go_at_call 130; refine Hid.out ?_)
        refine Lib.hid ?_
        refine (cX1 0).mono ?_
        rintro e w1 ⟨rfl, m, rfl⟩
        have hb1 : Below w.heap.size w ((wr.drewN 0).drewN m) := below_drewN (below_drewN hb 0) m
        have hab1' : AB ((wr.drewN 0).drewN m) b o1 n1 := hab1
        generalize (wr.drewN 0).drewN m = w1 at hb1 hab1' ⊢
        obtain ⟨n2, hn2⟩ : ∃ n2, n1 - 8 = n2 := ⟨_, rfl⟩
        obtain ⟨o2, ho2⟩ : ∃ o2, o1 + 8 = o2 := ⟨_, rfl⟩
        have hab2 : AB w1 b o2 n2 := by rw [← ho2, ← hn2]; exact hab1'.drop 8
        have hnn2 : n2 + 8 = n1 := by omega
        clear cX1 hb hab hav cx hab1 hab1'
        by_cases h16 : 16 < n2
        · have h16' : (16 : Int) < (n2 : Int) := by omega
          have s8 : (8 : Int) ≤ (n2 : Int) := by omega
          have e17 : n2 ≠ 8 := by omega
          have e18 : n2 ≠ 16 := by omega
          obtain ⟨n3, hn3⟩ : ∃ n3, n2 - 8 = n3 := ⟨_, rfl⟩
          obtain ⟨o3, ho3⟩ : ∃ o3, o2 + 8 = o3 := ⟨_, rfl⟩
          have hab3 : AB w1 b o3 n3 := by rw [← ho3, ← hn3]; exact hab2.drop 8
          obtain ⟨n4, hn4⟩ : ∃ n4, n2 - 16 = n4 := ⟨_, rfl⟩
          obtain ⟨o4, ho4⟩ : ∃ o4, o2 + 16 = o4 := ⟨_, rfl⟩
          have hab4 : AB w1 b o4 n4 := by rw [← ho4, ← hn4]; exact hab2.drop 16
          have hnn4 : n4 + 16 = n2 := by omega
          obtain ⟨X2, lX2, mX2, cX2⟩ := word_av (c := n2) hab2 (by omega) (by omega)
          obtain ⟨X3, lX3, mX3, cX3⟩ := word_av (c := n3) hab3 (by omega) (by omega)
          obtain ⟨O2, hor2, lO2, mO2⟩ := or_word lX2 lX3 mX2 mX3
          have hand2 := and_word lO2 mO2
          clear hab2 hab3 mX2 mX3 mO2 lX2 lX3 lO2
          go_wp2_with fail
          go_big_quiet_o (first | (go_at_call 130; with_reducible (refine Calls.quiet_of (cX2 _))) | (go_at_call 130; with_reducible (refine Calls.quiet_of (cX3 _))))
          have hb2 := below_drewN hb1 nq
          have hab4' : AB (w1.drewN nq) b o4 n4 := hab4
          generalize w1.drewN nq = w2 at hb2 hab4' ⊢
          clear cX2 cX3 hb1 hab4
          go_wp2
          go_loopw [0] (fun v wx => ∃ p m : Nat, v = .slice (some ⟨b, p, none⟩) m m ∧ m ≤ n4 ∧ AB wx b p m ∧ Below w.heap.size w wx) (fun v _ => sliceLen v)
          case atStart => exact ⟨o4, n4, rfl, Nat.le_refl _, hab4', hb2⟩
          case round =>
            obtain ⟨p, m, rfl, hm4, habm, hbm⟩ := hrel
            clear hab4' hb2
            by_cases c32 : 32 < m
            · have c32' : (32 : Int) < (m : Int) := by omega
              have s8 : (8 : Int) ≤ (m : Int) := by omega
              have s16 : (16 : Int) ≤ (m : Int) := by omega
              have s24 : (24 : Int) ≤ (m : Int) := by omega
              have f8 : m ≠ 8 := by omega
              have f16 : m ≠ 16 := by omega
              have f24 : m ≠ 24 := by omega
              have f32 : m ≠ 32 := by omega
              obtain ⟨m1, hm1⟩ : ∃ k, m - 8 = k := ⟨_, rfl⟩
              obtain ⟨p1, hp1⟩ : ∃ k, p + 8 = k := ⟨_, rfl⟩
              have hab1 : AB wr b p1 m1 := by rw [← hp1, ← hm1]; exact habm.drop 8
              obtain ⟨m2, hm2⟩ : ∃ k, m - 16 = k := ⟨_, rfl⟩
              obtain ⟨p2, hp2⟩ : ∃ k, p + 16 = k := ⟨_, rfl⟩
              have hab2 : AB wr b p2 m2 := by rw [← hp2, ← hm2]; exact habm.drop 16
              obtain ⟨m3, hm3⟩ : ∃ k, m - 24 = k := ⟨_, rfl⟩
              obtain ⟨p3, hp3⟩ : ∃ k, p + 24 = k := ⟨_, rfl⟩
              have hab3 : AB wr b p3 m3 := by rw [← hp3, ← hm3]; exact habm.drop 24
              obtain ⟨m5, hm5⟩ : ∃ k, m - 32 = k := ⟨_, rfl⟩
              obtain ⟨p5, hp5⟩ : ∃ k, p + 32 = k := ⟨_, rfl⟩
              have hab5 : AB wr b p5 m5 := by rw [← hp5, ← hm5]; exact habm.drop 32
              have hm55 : m5 + 32 = m := by omega
              obtain ⟨B0, lB0, mB0, cB0⟩ := word_av (c := m) habm (by omega) (by omega)
              obtain ⟨B1, lB1, mB1, cB1⟩ := word_av (c := m1) hab1 (by omega) (by omega)
              obtain ⟨B2, lB2, mB2, cB2⟩ := word_av (c := m2) hab2 (by omega) (by omega)
              obtain ⟨B3, lB3, mB3, cB3⟩ := word_av (c := m3) hab3 (by omega) (by omega)
              obtain ⟨P1, ho1', lP1, mP1⟩ := or_word lB0 lB1 mB0 mB1
              obtain ⟨P2, ho2', lP2, mP2⟩ := or_word lB2 lB3 mB2 mB3
              obtain ⟨P3, ho3', lP3, mP3⟩ := or_word lP1 lP2 mP1 mP2
              have hand3 := and_word lP3 mP3
              clear habm hab1 hab2 hab3 mB0 mB1 mB2 mB3 mP1 mP2 mP3 lB0 lB1 lB2 lB3 lP1 lP2 lP3
              go_wp2_with fail
              go_big_quiet_o (first | (go_at_call 130; with_reducible (refine Calls.quiet_of (cB0 _))) | (go_at_call 130; with_reducible (refine Calls.quiet_of (cB1 _))) | (go_at_call 130; with_reducible (refine Calls.quiet_of (cB2 _))) | (go_at_call 130; with_reducible (refine Calls.quiet_of (cB3 _))))
              have hb3 := below_drewN hbm nq
              have hab5' : AB (wr.drewN nq) b p5 m5 := hab5
              clear cB0 cB1 cB2 cB3
              go_wp2
              go_roundw
              case rel => exact ⟨p5, m5, rfl, by omega, hab5', hb3⟩
              case measure => simp [sliceLen]; omega
            · have c32' : ¬ (32 : Int) < (m : Int) := by omega
              have c32b : decide ((32 : Int) < (m : Int)) = false := decide_eq_false c32'
              go_wp2_with fail
              go_big_quiet_o (fail)
              have hb3 := below_drewN hbm nq
              have hab5' : AB (wr.drewN nq) b p m := habm
              go_wp2
              go_roundw
              case rel => exact ⟨_, m, rfl, by omega, fun _ => ⟨b, p, rfl, hab5'⟩, hb3⟩
              case measure => simp [sliceLen]; omega
        · have h16' : ¬ (16 : Int) < (n2 : Int) := by omega
          have dd : decide ((16 : Int) < (n2 : Int)) = false := by simp; omega
          go_wp2_with fail
          go_quiet (fail)
          have hb2 := below_drewN hb1 nq
          go_wp2_with fail
          exact ⟨⟨_, n2, rfl, by omega, fun h3 => ⟨b, o2, rfl, hab2⟩, hb2⟩, by simp [sliceLen]; omega⟩
      · have h8' : ¬ (8 : Int) < ((n' - 1 : Nat) : Int) := by omega
        go_wp2_with fail
        refine ⟨⟨_, n' - 1, rfl, by omega, fun h3 => ⟨b, o + 1, by rw [if_neg (by omega)], hab.drop 1⟩, hb⟩, by simp [sliceLen]; omega⟩
    · go_wp2
      go_ret
      exact ⟨rfl, hb⟩
end Go.Proofs.YtjebgfpcmooniaaGreatDoor
