/- Whole numbers as floats: how they stand to each other, and the way back. No program in sight. math.Min and math.Max of whole numbers; MatchMain at a text that stands where it is looked for. -/
import Derived.WalkKit
import Derived.WalkLawsBesides
import Derived.Test.YtjebgfpcmooniaaGreatDoorZPlain
import Derived.Laws.Externs
namespace Go.Proofs.YtjebgfpcmooniaaGreatDoor
open Go Go.RowKit

/-- a whole number's float -/
def fI (n : Int) : Nat := floatOfInt .f64 n

theorem log_bd {m : Nat} (h0 : 0 < m) (h : m < 2 ^ 53) : m.log2 ≤ 52 ∧ 2 ^ 52 ≤ m * 2 ^ (52 - m.log2) ∧ m * 2 ^ (52 - m.log2) < 2 ^ 53 := by
  have h1 : m.log2 < 53 := (Nat.log2_lt (by omega)).2 h
  have h2 : 2 ^ m.log2 ≤ m := Nat.log2_self_le (by omega)
  have h3 : m < 2 ^ (m.log2 + 1) := Nat.lt_log2_self
  refine ⟨by omega, ?_, ?_⟩
  · calc 2 ^ 52 = 2 ^ m.log2 * 2 ^ (52 - m.log2) := by rw [← Nat.pow_add]; congr 1; omega
      _ ≤ _ := Nat.mul_le_mul_right _ h2
  · calc m * 2 ^ (52 - m.log2) < 2 ^ (m.log2 + 1) * 2 ^ (52 - m.log2) := Nat.mul_lt_mul_of_pos_right h3 (Nat.two_pow_pos _)
      _ = 2 ^ 53 := by rw [← Nat.pow_add]; congr 1; omega

theorem read_word (neg : Bool) (L kept : Nat) (hL : L ≤ 52) (h1 : 2 ^ 52 ≤ kept) (h2 : kept < 2 ^ 53) :
    Ieee.double.read (Ieee.double.word neg ((L + 1022) * 2 ^ 52 + kept)) = .number neg kept ((L : Int) - 52) := by
  have e : ((L + 1022) * 2 ^ 52 + kept) = (L + 1023) * 2 ^ 52 + (kept - 2 ^ 52) := by omega
  have hs : Ieee.double.signWeight = 2 ^ 63 := rfl
  have hb : Ieee.double.binade = 2 ^ 52 := rfl
  have hi : Ieee.double.infRung = 2047 * 2 ^ 52 := rfl
  have hl : Ieee.double.leastPlace = -1074 := rfl
  obtain ⟨k, hk⟩ : ∃ k, kept = 2 ^ 52 + k := ⟨kept - 2 ^ 52, by omega⟩
  have hk2 : k < 2 ^ 52 := by omega
  have hr : Ieee.double.word neg ((L + 1022) * 2 ^ 52 + kept) % 2 ^ 63 = (L + 1023) * 2 ^ 52 + k := by
    unfold Ieee.Format.word; rw [hs]; split <;> omega
  have hn : (Ieee.double.word neg ((L + 1022) * 2 ^ 52 + kept) / 2 ^ 63 % 2 == 1) = neg := by
    unfold Ieee.Format.word; rw [hs]
    cases neg
    · have : ((L + 1022) * 2 ^ 52 + kept) / 2 ^ 63 = 0 := by omega
      simp [this]
    · have : (2 ^ 63 + ((L + 1022) * 2 ^ 52 + kept)) / 2 ^ 63 = 1 := by omega
      simp [this]
  unfold Ieee.Format.read
  simp only [hs, hb, hi, hl, hr, hn]
  rw [if_neg (by omega), if_pos (by omega)]
  have q1 : ((L + 1023) * 2 ^ 52 + k) % 2 ^ 52 = k := by omega
  have q2 : ((L + 1023) * 2 ^ 52 + k) / 2 ^ 52 = L + 1023 := by omega
  rw [q1, q2, hk, show (-1074 + ((L + 1023 - 1 : Nat) : Int)) = (L : Int) - 52 by omega]

set_option maxHeartbeats 400000 in
theorem nearest_eq (neg : Bool) (m : Nat) (h0 : 0 < m) (h : m < 2 ^ 53) : Ieee.double.nearest neg m 0 = Ieee.double.word neg ((m.log2 + 1022) * 2 ^ 52 + m * 2 ^ (52 - m.log2)) := by
  obtain ⟨a, b, c⟩ := log_bd h0 h
  have hb : Ieee.double.binade = 2 ^ 52 := rfl
  have hi : Ieee.double.infRung = 2047 * 2 ^ 52 := rfl
  have hl : Ieee.double.leastPlace = -1074 := rfl
  have hf : Ieee.double.fractionBits = 52 := rfl
  unfold Ieee.Format.nearest
  rw [if_neg (by omega)]
  simp only [hb, hi, hl, hf]
  have e1 : max (0 + (m.log2 : Int) - (52 : Nat)) (-1074) = (m.log2 : Int) - 52 := by omega
  rw [e1]
  have e2 : (0 - ((m.log2 : Int) - 52)).toNat = 52 - m.log2 := by omega
  have e3 : (((m.log2 : Int) - 52) - 0).toNat = 0 := by omega
  have e4 : (((m.log2 : Int) - 52) - -1074).toNat = m.log2 + 1022 := by omega
  rw [e2, e3, e4, Nat.shiftLeft_eq]
  have e5 : Ieee.Toward.even.cut neg (m * 2 ^ (52 - m.log2)) 0 = m * 2 ^ (52 - m.log2) := by
    simp [Ieee.Toward.cut, Nat.mod_one]
  rw [e5]
  generalize m * 2 ^ (52 - m.log2) = K at b c ⊢
  rw [Nat.min_eq_left (by omega)]

/-- what a whole number's float stands for -/
theorem read_fI (n : Int) (h : n.natAbs < 2 ^ 53) : ∃ neg mag place, Ieee.double.read (fI n) = .number neg mag place ∧ (place ≤ 0 ∧ -1074 ≤ place) ∧ ((mag / 2 ^ (-place).toNat = n.natAbs ∧ (-place).toNat ≤ mag.log2 + 2 ∧ neg = decide (n < 0)) ∨ (mag = 0 ∧ n = 0)) ∧ ∀ base : Int, base ≤ place → Ieee.signed neg mag (place - base).toNat = n * 2 ^ (-base).toNat := by
  have hw : fI n = Ieee.double.nearest (decide (n < 0)) n.natAbs 0 := rfl
  by_cases h0 : n = 0
  · subst h0
    refine ⟨false, 0, -1074, by rw [hw]; rfl, ⟨by omega, by omega⟩, .inr ⟨rfl, rfl⟩, fun base hb => ?_⟩
    simp [Ieee.signed]
  · obtain ⟨a, b, c⟩ := log_bd (m := n.natAbs) (by omega) h
    refine ⟨decide (n < 0), n.natAbs * 2 ^ (52 - n.natAbs.log2), (n.natAbs.log2 : Int) - 52, ?_, ⟨by omega, by omega⟩, .inl ⟨?_, ?_, rfl⟩, fun base hb => ?_⟩
    · rw [hw, nearest_eq _ _ (by omega) h, read_word _ _ _ a b c]
    · have e : (-((n.natAbs.log2 : Int) - 52)).toNat = 52 - n.natAbs.log2 := by omega
      rw [e, Nat.mul_div_cancel _ (Nat.two_pow_pos _)]
    · have : 52 ≤ (n.natAbs * 2 ^ (52 - n.natAbs.log2)).log2 := (Nat.le_log2 (by omega)).2 b
      omega
    · have e : n.natAbs * 2 ^ (52 - n.natAbs.log2) * 2 ^ ((n.natAbs.log2 : Int) - 52 - base).toNat = n.natAbs * 2 ^ (-base).toNat := by
        rw [Nat.mul_assoc, ← Nat.pow_add]; congr 2; omega
      unfold Ieee.signed
      rw [Nat.shiftLeft_eq, e]
      have e2 : ((n.natAbs * 2 ^ (-base).toNat : Nat) : Int) = (n.natAbs : Int) * 2 ^ (-base).toNat := by push_cast; rfl
      rw [e2]
      by_cases hn : n < 0
      · rw [if_pos (by simpa using hn), ← Int.neg_mul]; congr 1; omega
      · rw [if_neg (by simpa using hn)]; congr 1; omega

theorem compare_scale (a b c : Int) (hc : 0 < c) : compare (a * c) (b * c) = compare a b := by
  rcases Int.lt_trichotomy a b with h | h | h
  · have h2 : a * c < b * c := Int.mul_lt_mul_of_pos_right h hc
    rw [Int.compare_eq_lt.2 h, Int.compare_eq_lt.2 h2]
  · subst h; simp
  · have h2 : b * c < a * c := Int.mul_lt_mul_of_pos_right h hc
    rw [Int.compare_eq_gt.2 h, Int.compare_eq_gt.2 h2]

theorem order_fI (a b : Int) (ha : a.natAbs < 2 ^ 53) (hb : b.natAbs < 2 ^ 53) : FloatKind.f64.format.order (fI a) (fI b) = some (compare a b) := by
  obtain ⟨s, m, i, e1, _, _, h1⟩ := read_fI a ha
  obtain ⟨t, n, j, e2, _, _, h2⟩ := read_fI b hb
  show (Ieee.double.read (fI a)).order (Ieee.double.read (fI b)) = _
  rw [e1, e2]
  show some (compare (Ieee.signed s m (i - min i j).toNat) (Ieee.signed t n (j - min i j).toNat)) = _
  rw [h1 _ (by omega), h2 _ (by omega), compare_scale _ _ _ (Int.pow_pos (by omega))]

theorem order_lt (a b : Int) (ha : a.natAbs < 2 ^ 53) (hb : b.natAbs < 2 ^ 53) : (FloatKind.f64.format.order (fI a) (fI b) == some .lt) = decide (a < b) := by
  rw [order_fI a b ha hb, Bool.eq_iff_iff]; simp [Int.compare_eq_lt]
theorem order_gt (a b : Int) (ha : a.natAbs < 2 ^ 53) (hb : b.natAbs < 2 ^ 53) : (FloatKind.f64.format.order (fI a) (fI b) == some .gt) = decide (b < a) := by
  rw [order_fI a b ha hb, Bool.eq_iff_iff]; simp [Int.compare_eq_gt]
theorem order_eq (a b : Int) (ha : a.natAbs < 2 ^ 53) (hb : b.natAbs < 2 ^ 53) : (FloatKind.f64.format.order (fI a) (fI b) == some .eq) = decide (a = b) := by
  rw [order_fI a b ha hb, Bool.eq_iff_iff]; simp

theorem back_fI (n : Int) (h : n.natAbs < 2 ^ 53) : floatToIntVal .f64 (fI n) .i64 = some n := by
  obtain ⟨s, m, i, e1, ⟨hi, hi2⟩, h2, _⟩ := read_fI n h
  have e : (Ieee.double.read (fI n)).toInt .zero = some n := by
    rw [e1]
    show some (Ieee.signed s (Ieee.Toward.zero.cut s (m <<< i.toNat) (-i).toNat) 0) = some n
    have e0 : i.toNat = 0 := by omega
    rw [e0, Nat.shiftLeft_zero]
    rcases h2 with ⟨h2, h3, h4⟩ | ⟨h2, h3⟩
    · have e3 : Ieee.Toward.zero.cut s m (-i).toNat = n.natAbs := by
        unfold Ieee.Toward.cut
        simp only [Nat.shiftLeft_eq, Nat.one_mul]
        rw [Nat.min_eq_left h3, h2]; rfl
      rw [e3, h4]
      unfold Ieee.signed
      rw [Nat.shiftLeft_zero]
      congr 1
      split
      · rename_i hh; have := of_decide_eq_true hh; omega
      · rename_i hh; have : ¬ n < 0 := fun q => hh (by simpa using q)
        omega
    · subst h2 h3
      simp [Ieee.Toward.cut, Ieee.signed]
  unfold floatToIntVal
  show (match (Ieee.double.read (fI n)).toInt .zero with | some n => _ | none => _) = _
  rw [e]
  show (if IntKind.i64.min ≤ n ∧ n ≤ IntKind.i64.max then some n else none) = some n
  have h1 : IntKind.i64.min = -9223372036854775808 := rfl
  have h2 : IntKind.i64.max = 9223372036854775807 := rfl
  rw [if_pos (by rw [h1, h2]; omega)]
end Go.Proofs.YtjebgfpcmooniaaGreatDoor

namespace Go.Proofs.YtjebgfpcmooniaaGreatDoor
open Go Go.RowKit

theorem zero_fI {n : Int} (h : n.natAbs < 2 ^ 53) : (Ieee.double.read (fI n)).isZero = true → n = 0 := by
  obtain ⟨s, m, i, e, _, h2, _⟩ := read_fI n h
  rw [e]
  intro hz
  rcases h2 with ⟨h2, _, _⟩ | ⟨_, h3⟩
  · have hm : m = 0 := by
      cases m with
      | zero => rfl
      | succ m => simp [Ieee.Datum.isZero] at hz
    subst hm
    simp at h2
    omega
  · exact h3

theorem run_pick {P : Program} (name : String) (neg : Bool) (win : Ordering) (a b : Int) (ha : a.natAbs < 2 ^ 53) (hb : b.natAbs < 2 ^ 53) (w : World) :
    (Extern.MathDim.pick name neg win #[.float .f64 (floatOfInt .f64 a), .float .f64 (floatOfInt .f64 b)]).run P w = .ok (.float .f64 (floatOfInt .f64 (if compare a b = win then a else b))) w := by
  obtain ⟨s, m, i, e1, _⟩ := read_fI a ha
  obtain ⟨t, n, j, e2, _⟩ := read_fI b hb
  have d1 : FloatKind.f64.decode (floatOfInt .f64 a) = .number s m i := e1
  have d2 : FloatKind.f64.decode (floatOfInt .f64 b) = .number t n j := e2
  have z1 := zero_fI ha
  have z2 := zero_fI hb
  have ho : (Ieee.double.read (fI a)).order (Ieee.double.read (fI b)) = some (compare a b) := order_fI a b ha hb
  rw [e1] at z1 ho
  rw [e2] at z2 ho
  change Sem.run P (pure (Value.float FloatKind.f64 (if (FloatKind.f64.decode (floatOfInt .f64 a) == Ieee.Datum.infinity neg || FloatKind.f64.decode (floatOfInt .f64 b) == Ieee.Datum.infinity neg) = true then FloatKind.f64.encode (.infinity neg) else if ((FloatKind.f64.decode (floatOfInt .f64 a)).isNaN || (FloatKind.f64.decode (floatOfInt .f64 b)).isNaN) = true then 0x7FF8000000000001 else if ((FloatKind.f64.decode (floatOfInt .f64 a)).isZero && (FloatKind.f64.decode (floatOfInt .f64 b)).isZero) = true then (if ((FloatKind.f64.decode (floatOfInt .f64 a)).neg == neg) = true then floatOfInt .f64 a else floatOfInt .f64 b) else if ((FloatKind.f64.decode (floatOfInt .f64 a)).order (FloatKind.f64.decode (floatOfInt .f64 b)) == some win) = true then floatOfInt .f64 a else floatOfInt .f64 b))) w = _
  simp only [d1, d2]
  have i1 : ((Ieee.Datum.number s m i == Ieee.Datum.infinity neg) || (Ieee.Datum.number t n j == Ieee.Datum.infinity neg)) = false := by
    rw [Bool.or_eq_false_iff]
    exact ⟨by rw [beq_eq_false_iff_ne]; simp, by rw [beq_eq_false_iff_ne]; simp⟩
  have i2 : ((Ieee.Datum.number s m i).isNaN || (Ieee.Datum.number t n j).isNaN) = false := rfl
  simp only [i1, i2, Bool.false_eq_true, if_false, ho]
  by_cases hz : ((Ieee.Datum.number s m i).isZero && (Ieee.Datum.number t n j).isZero) = true
  · rw [if_pos hz]
    rw [Bool.and_eq_true] at hz
    have q1 := z1 hz.1
    have q2 := z2 hz.2
    subst q1 q2
    simp
  · rw [if_neg hz]
    by_cases hc : compare a b = win
    · rw [hc]; simp
    · have : (some (compare a b) == some win) = false := by
        rw [beq_eq_false_iff_ne]; simpa using hc
      rw [this, if_neg hc]; simp

theorem min99_le (a b : Nat) (w : World) (h : a ≤ b) (hb : b < 1000000000000) : Calls Tryz.prog 99 #[.float .f64 (floatOfInt .f64 (a : Int)), .float .f64 (floatOfInt .f64 (b : Int))] w fun e w' => e = .returned (.float .f64 (floatOfInt .f64 (a : Int))) ∧ w = w' := by
  have hr : ∀ w : World, (callFunc 137 #[.float .f64 (floatOfInt .f64 (a : Int)), .float .f64 (floatOfInt .f64 (b : Int))]).run Tryz.prog w = .ok (.value (.float .f64 (floatOfInt .f64 (a : Int)))) w := by
    intro w
    rw [run_callFunc_extern Tryz.func137 (by kernel_rfl) (by kernel_rfl) (by kernel_rfl) (show Extern.find Tryz.f137 = some (Extern.MathDim.pick "math.archMin" true .lt) from by kernel_rfl), run_pick _ _ _ _ _ (by omega) (by omega)]
    have : (if compare (a : Int) (b : Int) = .lt then (a : Int) else (b : Int)) = (a : Int) := by
      split
      · rfl
      · rename_i hh
        rw [Int.compare_eq_lt] at hh
        omega
    rw [this]; rfl
  go_enter Tryz.func99, Tryz.ntmps99
  go_wp2
  go_ret
  exact ⟨rfl, rfl⟩
theorem max124_zero (b : Nat) (w : World) (hb : b < 1000000000000) : Calls Tryz.prog 124 #[.float .f64 0, .float .f64 (floatOfInt .f64 (b : Int))] w fun e w' => e = .returned (.float .f64 (floatOfInt .f64 (b : Int))) ∧ w = w' := by
  have hr : ∀ w : World, (callFunc 154 #[.float .f64 0, .float .f64 (floatOfInt .f64 (b : Int))]).run Tryz.prog w = .ok (.value (.float .f64 (floatOfInt .f64 (b : Int)))) w := by
    intro w
    have e0 : (Value.float .f64 0) = .float .f64 (floatOfInt .f64 (0 : Int)) := by
      have : floatOfInt .f64 (0 : Int) = 0 := by decide +kernel
      rw [this]
    rw [e0, run_callFunc_extern Tryz.func154 (by kernel_rfl) (by kernel_rfl) (by kernel_rfl) (show Extern.find Tryz.f154 = some (Extern.MathDim.pick "math.archMax" false .gt) from by kernel_rfl), run_pick _ _ _ _ _ (by omega) (by omega)]
    have : (if compare (0 : Int) (b : Int) = .gt then (0 : Int) else (b : Int)) = (b : Int) := by
      split
      · rename_i hh
        rw [Int.compare_eq_gt] at hh
        omega
      · rfl
    rw [this]; rfl
  go_enter Tryz.func124, Tryz.ntmps124
  go_wp2
  go_ret
  exact ⟨rfl, rfl⟩

theorem conv_back (n : Nat) (hn : n < 1000000000000) (w : World) : (convert 22 3 (.float .f64 (floatOfInt .f64 (n : Int)))).run Tryz.prog w = .ok (.int .i64 n) w :=
  run_convert_float_int w 22 3 .f64 .i64 _ _ (by kernel_rfl) (by kernel_rfl) (back_fI (n : Int) (by omega))

set_option maxRecDepth 100000 in
theorem match_at (dv : Value) (t p : ByteArray) (loc : Nat) (w : World) (hat : Hid (isAt (tb t) (tb p) loc)) (hs : t.size ≤ 1000000000) :
    Calls Tryz.prog 98 #[dv, .string t, .string p, .int .i64 loc] w fun e w' => e = .returned (.int .i64 loc) ∧ w = w' := by
  have hle : loc + p.size ≤ t.size := by have := hat.out.1; rw [tb_length, tb_length] at this; exact this
  have hcv := conv_back loc (by omega)
  by_cases heq : t = p
  · subst heq
    have h0 : loc = 0 := by omega
    have H0 := Lib.hid h0
    clear h0
    have he : (t.toList == t.toList) = true := by simp
    go_enter Tryz.func98, Tryz.ntmps98
    go_wp2_with (go_at_call 99; refine Hid.out ?_)
    refine Lib.hid ?_
    refine (min99_le loc t.size _ (by omega) (by omega)).mono ?_
    rintro e w1 ⟨rfl, rfl⟩
    go_wp2_with (go_at_call 124; refine Hid.out ?_)
    refine Lib.hid ?_
    refine (max124_zero loc _ (by omega)).mono ?_
    rintro e w1 ⟨rfl, rfl⟩
    go_wp2_with fail
    go_ret
    exact ⟨by rw [H0.out]; rfl, rfl⟩
  · have he : (t.toList == p.toList) = false := by
      rw [beq_eq_false_iff_ne, toList_tb, toList_tb]
      exact fun e => heq (tb_inj e)
    have hn : 0 < t.size := by
      refine Nat.pos_of_ne_zero fun h0 => heq (tb_inj ?_)
      have e1 : tb t = [] := List.length_eq_zero_iff.1 (by rw [tb_length]; exact h0)
      have e2 : tb p = [] := List.length_eq_zero_iff.1 (by rw [tb_length]; omega)
      rw [e1, e2]
    have hn0 : ((t.size : Int) == 0) = false := by rw [beq_eq_false_iff_ne]; omega
    have hx : ((t.extract loc (loc + p.size)).toList == p.toList) = true := (isAt_extract t p loc hle).2 hat.out
    clear heq
    go_enter Tryz.func98, Tryz.ntmps98
    go_wp2_with (go_at_call 99; refine Hid.out ?_)
    refine Lib.hid ?_
    refine (min99_le loc t.size _ (by omega) (by omega)).mono ?_
    rintro e w1 ⟨rfl, rfl⟩
    go_wp2_with (go_at_call 124; refine Hid.out ?_)
    refine Lib.hid ?_
    refine (max124_zero loc _ (by omega)).mono ?_
    rintro e w1 ⟨rfl, rfl⟩
    go_wp2_with fail
    go_ret
    exact ⟨rfl, rfl⟩
end Go.Proofs.YtjebgfpcmooniaaGreatDoor
