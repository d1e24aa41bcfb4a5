/- zzSplit at ends of lines; zzReplaceAll of a plus by its escape. zzDigits, zzRange, zzHeader: a header's parts, as the package writes it. -/
import Derived.Test.YtjebgfpcmooniaaGreatDoorZTabs
import Derived.Test.YtjebgfpcmooniaaGreatDoorZHeader
import Derived.Test.YtjebgfpcmooniaaGreatDoorZShelfD
import Derived.Deep.CutBlock
import Derived.Deep.DeepCutAuto
namespace Go.Proofs.YtjebgfpcmooniaaGreatDoor
open Go Go.RowKit

theorem split_none {l : List UInt8} (h : ∀ k : Nat, l[k]? ≠ some 10) : splitL 10 l = [l] :=
  splitL_none fun b hb e => by
    obtain ⟨k, hk, e2⟩ := List.getElem_of_mem hb
    exact h k (by rw [List.getElem?_eq_getElem hk, e2, e])
theorem split_first {l : List UInt8} {k : Nat} (hat : l[k]? = some 10) (hno : ∀ j, j < k → l[j]? ≠ some 10) : splitL 10 l = l.take k :: splitL 10 (l.drop (k + 1)) ∧ k < l.length := by
  obtain ⟨hk, e0⟩ := List.getElem?_eq_some_iff.1 hat
  refine ⟨?_, hk⟩
  have e : l = l.take k ++ 10 :: l.drop (k + 1) := by
    conv => lhs; rw [← List.take_append_drop k l]
    rw [List.drop_eq_getElem_cons hk, e0]
  conv => lhs; rw [e]
  refine splitL_one fun b hb e2 => ?_
  subst e2
  obtain ⟨j, hj, e3⟩ := List.getElem_of_mem hb
  have h2 : (l.take k)[j]? = some 10 := by rw [List.getElem?_eq_getElem hj, e3]
  rw [List.getElem?_take] at h2
  split at h2
  · rename_i h; exact hno j h h2
  · cases h2

set_option maxRecDepth 100000 in
set_option maxHeartbeats 1000000 in
theorem splitz_any (s : ByteArray) (w : World) (hs : s.size ≤ 50000000) :
    Calls Tryz.prog 109 #[.string s, .string ⟨#[10]⟩] w (SplitPost s 10 w) := by
  go_enter Tryz.func109, Tryz.ntmps109
  go_wp2
  go_loopw [0, 5] (fun v0 v wr => ∃ (s1 : ByteArray) (acc : List ByteArray), v0 = .string s1 ∧ acc.length + s1.size ≤ s.size ∧ Hid (acc.map tb ++ splitL 10 (tb s1) = splitL 10 (tb s)) ∧ OwnL sC 9 1 wr w.heap.size v acc ∧ Below w.heap.size w wr) (fun v0 _ _ => strSz v0)
  case atStart => exact ⟨s, [], rfl, by simp, by show _ = _; simp, OwnL.nil _ _, Below.refl _ _⟩
  case round =>
    obtain ⟨s1, acc, rfl, hl, Hacc, hown, hb⟩ := hrel
    have hsz := hb.size
    go_wp2_with (go_at_call 142; refine Hid.out ?_)
    refine Lib.hid ?_
    refine (zzIndex_any s1 ⟨#[10]⟩ wr (by omega) (by decide)).mono ?_
    rintro e w1 ⟨n, rfl, hidx, rfl⟩
    rcases hidx with ⟨rfl, hno⟩ | ⟨k, rfl, hat, hno⟩
    · have hp := Lib.hid (split_none (l := tb s1) (fun k h => hno k (isAt1.2 h)))
      clear hno
      go_wp2_with (at_builtin; refine Hid.out ?_)
      refine Lib.hid ?_
      refine wpList_push (P := Tryz.prog) st79 rfl (.tmp 42) (.tmp 44) rfl rfl (hown.alloc _) s1 ⟨wr.heap.size, 0, none⟩ 1 (by rfl) sC_len (sC_one _) (by omega) (le_al hsz) (cells1_of (heap_alloc_new _ _)) ?_
      intro g cap w1 hown1 hg1 hat1
      have hb1 : Below w.heap.size w w1 := (hb.alloc hsz _).grown hg1 (le_al hsz) (fun j hj => (hown.lt j hj).1)
      have hfin : Hid ((acc ++ [s1]).map tb = splitL 10 (tb s)) := by show _ = _; rw [← Hacc.out, hp.out, List.map_append]; rfl
      have hlen : Hid ((acc ++ [s1]).length ≤ s.size + 1) := by show _ ≤ _; rw [List.length_append, List.length_singleton]; omega
      go_wp2_with fail
      go_ret
      have e : acc.length + 1 = (acc ++ [s1]).length := by simp
      exact ⟨_, acc ++ [s1], rfl, hfin.out, hown1, hlen.out, hb1⟩
    · obtain ⟨hp', hk⟩ := split_first (l := tb s1) (isAt1.1 hat) (fun j hj h => hno j hj (isAt1.2 h))
      have hp := Lib.hid hp'
      rw [tb_length] at hk
      clear hno hat hp'
      go_wp2_with (at_builtin; refine Hid.out ?_)
      refine Lib.hid ?_
      have hx2 : Hid (tb (s1.extract 0 k) = (tb s1).take k) := by show _ = _; rw [tb_extract, List.drop_zero]
      refine wpList_push (P := Tryz.prog) st79 rfl (.tmp 46) (.tmp 50) rfl rfl (hown.alloc _) (s1.extract 0 k) ⟨wr.heap.size, 0, none⟩ 1 (by rfl) sC_len (sC_one _) (by omega) (le_al hsz) (cells1_of (heap_alloc_new _ _)) ?_
      intro g cap w1 hown1 hg1 hat1
      have hb1 : Below w.heap.size w w1 := (hb.alloc hsz _).grown hg1 (le_al hsz) (fun j hj => (hown.lt j hj).1)
      have hx3 : (s1.extract (k + 1) s1.size).size = s1.size - (k + 1) := by rw [← tb_length, tb_extract, List.length_drop, List.length_take, tb_length]; omega
      have hx4 : Hid (tb (s1.extract (k + 1) s1.size) = (tb s1).drop (k + 1)) := by
        show _ = _
        rw [tb_extract, List.take_of_length_le (by rw [tb_length]; exact Nat.le_refl _)]
      go_wp2_with fail
      go_roundw
      case rel =>
        refine ⟨s1.extract (k + 1) s1.size, acc ++ [s1.extract 0 k], rfl, ?_, ?_, hown1, hb1⟩
        · rw [hx3, List.length_append, List.length_singleton]; omega
        · show _ = _
          rw [hx4.out, ← Hacc.out, hp.out, List.map_append, List.append_assoc]
          simp [hx2.out]
      case measure => simp [strSz, hx3]; omega

/-- a text with its pluses escaped -/
def pluE (b : UInt8) : List UInt8 := if b = 43 then [37, 50, 98] else [b]
theorem pluE_none {l : List UInt8} (h : ∀ k : Nat, l[k]? ≠ some 43) : l.flatMap pluE = l := by
  induction l with
  | nil => rfl
  | cons b l ih =>
    rw [List.flatMap_cons, ih (fun k hk => h (k + 1) (by simpa using hk))]
    have hb : b ≠ 43 := fun e => h 0 (by simp [e])
    rw [pluE, if_neg hb]; rfl
theorem pluE_first {l : List UInt8} {k : Nat} (hat : l[k]? = some 43) (hno : ∀ j, j < k → l[j]? ≠ some 43) : l.flatMap pluE = l.take k ++ ([37, 50, 98] ++ (l.drop (k + 1)).flatMap pluE) ∧ k < l.length := by
  obtain ⟨hk, e0⟩ := List.getElem?_eq_some_iff.1 hat
  refine ⟨?_, hk⟩
  have e : l = l.take k ++ 43 :: l.drop (k + 1) := by
    conv => lhs; rw [← List.take_append_drop k l]
    rw [List.drop_eq_getElem_cons hk, e0]
  conv => lhs; rw [e]
  rw [List.flatMap_append, List.flatMap_cons, pluE_none (l := l.take k)]
  · rfl
  · intro j hj
    rw [List.getElem?_take] at hj
    split at hj
    · rename_i h; exact hno j h hj
    · cases hj

set_option maxRecDepth 100000 in
set_option maxHeartbeats 1000000 in
theorem replace2_any (s : ByteArray) (w : World) (hs : s.size ≤ 50000000) :
    Calls Tryz.prog 103 #[.string s, .string ⟨#[43]⟩, .string ⟨#[37, 50, 98]⟩] w fun e w' => e = .returned (.string ⟨((tb s).flatMap pluE).toArray⟩) ∧ Below w.heap.size w w' := by
  go_enter Tryz.func103, Tryz.ntmps103
  go_wp2
  go_loopw [0, 7] (fun v0 v wr => ∃ (s1 : ByteArray) (acc : List UInt8), v0 = .string s1 ∧ acc.length + 3 * s1.size ≤ 3 * s.size ∧ s1.size ≤ s.size ∧ Hid (acc ++ (tb s1).flatMap pluE = (tb s).flatMap pluE) ∧ OwnL b8 5 1 wr w.heap.size v acc ∧ Below w.heap.size w wr) (fun v0 _ _ => strSz v0)
  case atStart => exact ⟨s, [], rfl, by simp, Nat.le_refl _, by show _ = _; simp, OwnL.nil _ _, Below.refl _ _⟩
  case round =>
    obtain ⟨s1, acc, rfl, hl, hl1, Hacc, hown, hb⟩ := hrel
    have hsz := hb.size
    go_wp2_with (go_at_call 142; refine Hid.out ?_)
    refine Lib.hid ?_
    refine (zzIndex_any s1 ⟨#[43]⟩ wr (by omega) (by decide)).mono ?_
    rintro e w1 ⟨n, rfl, hidx, rfl⟩
    rcases hidx with ⟨rfl, hno⟩ | ⟨k, rfl, hat, hno⟩
    · have hp := Lib.hid (pluE_none (l := tb s1) (fun k h => hno k (isAt1.2 h)))
      clear hno
      go_wp2_with (at_builtin; refine Hid.out ?_)
      refine Lib.hid ?_
      refine wpList_appendS rfl (.tmp 14) (.tmp 15) rfl rfl hown s1 rfl (by omega) hsz ?_
      intro v' w2 hown2 hg2
      have hcv := conv_bytes hown2
      have hb2 : Below w.heap.size w w2 := hb.trans (below_of_gb hg2 hsz (fun g e => (hown.lt g e).1))
      have hfin : Hid (⟨(acc ++ tb s1).toArray⟩ = (⟨((tb s).flatMap pluE).toArray⟩ : ByteArray)) := by
        show _ = _
        rw [← Hacc.out, hp.out]
      go_wp2_with fail
      go_ret
      exact ⟨by rw [← hfin.out]; rfl, hb2⟩
    · obtain ⟨hp', hk⟩ := pluE_first (l := tb s1) (isAt1.1 hat) (fun j hj h => hno j hj (isAt1.2 h))
      have hp := Lib.hid hp'
      rw [tb_length] at hk
      clear hno hat hp'
      go_wp2_with (at_builtin; refine Hid.out ?_)
      refine Lib.hid ?_
      have hx1 : (s1.extract 0 k).size = k := by rw [← tb_length, tb_extract, List.drop_zero, List.length_take, tb_length]; omega
      have hx2 : tb (s1.extract 0 k) = (tb s1).take k := by rw [tb_extract, List.drop_zero]
      refine wpList_appendS rfl (.tmp 18) (.tmp 21) rfl rfl hown (s1.extract 0 k) rfl (by rw [hx1]; omega) hsz ?_
      intro v' w2 hown2 hg2
      have hb2 : Below w.heap.size w w2 := hb.trans (below_of_gb hg2 hsz (fun g e => (hown.lt g e).1))
      rw [hx2] at hown2
      have Hx := Lib.hid hx2
      clear hx1 hx2
      go_wp2_with (at_builtin; refine Hid.out ?_)
      refine Lib.hid ?_
      refine wpList_appendS rfl (.tmp 22) (.tmp 23) rfl rfl hown2 ⟨#[37, 50, 98]⟩ rfl (by have : (⟨#[37, 50, 98]⟩ : ByteArray).size = 3 := rfl; rw [List.length_append, List.length_take, tb_length]; omega) hb2.size ?_
      intro v'' w3 hown3 hg3
      have hb3 : Below w.heap.size w w3 := hb2.trans (below_of_gb hg3 hb2.size (fun g e => (hown2.lt g e).1))
      have hx3 : (s1.extract (k + 1) s1.size).size = s1.size - (k + 1) := by rw [← tb_length, tb_extract, List.length_drop, List.length_take, tb_length]; omega
      have hx4 : Hid (tb (s1.extract (k + 1) s1.size) = (tb s1).drop (k + 1)) := by
        show _ = _
        rw [tb_extract, List.take_of_length_le (by rw [tb_length]; exact Nat.le_refl _)]
      go_wp2_with fail
      go_roundw
      case rel =>
        refine ⟨s1.extract (k + 1) s1.size, acc ++ (tb s1).take k ++ tb ⟨#[37, 50, 98]⟩, rfl, ?_, ?_, ?_, hown3, hb3⟩
        · have : (tb ⟨#[37, 50, 98]⟩).length = 3 := rfl
          rw [hx3, List.length_append, List.length_append, List.length_take, tb_length]; omega
        · rw [hx3]; omega
        · show _ = _
          rw [hx4.out, ← Hacc.out, hp.out]
          simp [tb]
      case measure => simp [strSz, hx3]; omega
end Go.Proofs.YtjebgfpcmooniaaGreatDoor

namespace Go.Proofs.YtjebgfpcmooniaaGreatDoor
open Go Go.RowKit

/-- digits ahead of something else -/
structure Lead (a r : List UInt8) : Prop where
  dig : ∀ b ∈ a, 48 ≤ b.toNat ∧ b.toNat ≤ 57
  stop : ∀ b q, r = b :: q → b.toNat < 48

set_option maxRecDepth 100000 in
set_option maxHeartbeats 1000000 in
theorem zdigits_any (s : ByteArray) (a r : List UInt8) (w : World) (hs : s.size ≤ 50000000) (h : Hid (tb s = a ++ r)) (hl : Hid (Lead a r)) :
    Calls Tryz.prog 191 #[.string s] w fun e w' => e = .returned (.int .i64 a.length) ∧ w = w' := by
  have hal : a.length ≤ s.size := by rw [← tb_length, h.out, List.length_append]; omega
  go_enter Tryz.func191, Tryz.ntmps191
  go_wp2
  go_loop [3] (fun i => ∃ k : Nat, k ≤ a.length ∧ i = .int .i64 k) (fun i => a.length - (intOf i).toNat)
  case atStart => exact ⟨0, by omega, rfl⟩
  case round =>
    obtain ⟨k, hk, rfl⟩ := hrel
    by_cases hlt : k < a.length
    · have hks : k < s.size := by omega
      have he : (s[k]'hks) = a[k]'hlt := by
        have h1 : (tb s)[k]? = some (s[k]'hks) := by rw [List.getElem?_eq_getElem (by rw [tb_length]; exact hks)]; rfl
        rw [h.out, List.getElem?_append_left hlt, List.getElem?_eq_getElem hlt] at h1
        injection h1 with h1
        exact h1.symm
      obtain ⟨d1, d2⟩ := hl.out.dig (a[k]'hlt) (List.getElem_mem hlt)
      rw [← he] at d1 d2
      have d1' : decide ((48 : Int) ≤ ((s[k]'hks).toNat : Int)) = true := by simp; omega
      have d2' : decide (((s[k]'hks).toNat : Int) ≤ 57) = true := by simp; omega
      have d1i : (48 : Int) ≤ ((s[k]'hks).toNat : Int) := by omega
      have d2i : ((s[k]'hks).toNat : Int) ≤ 57 := by omega
      clear he
      go_wp2
      go_round
      case rel => exact ⟨k + 1, by omega, by go_num⟩
      case measure => simp [intOf]; omega
    · have hka : k = a.length := by omega
      subst hka
      by_cases hend : a.length < s.size
      · have h1 : (tb s)[a.length]? = some (s[a.length]'hend) := by rw [List.getElem?_eq_getElem (by rw [tb_length]; exact hend)]; rfl
        have d := hl.out.stop (s[a.length]'hend) (r.drop 1) (by
          rw [h.out, List.getElem?_append_right (Nat.le_refl _), Nat.sub_self] at h1
          cases r with
          | nil => simp at h1
          | cons b q => simp at h1; rw [h1]; rfl)
        have d1' : decide ((48 : Int) ≤ ((s[a.length]'hend).toNat : Int)) = false := by simp; omega
        have d1i : ¬ (48 : Int) ≤ ((s[a.length]'hend).toNat : Int) := by omega
        clear h1
        go_wp2
        go_ret
        exact ⟨rfl, rfl⟩
      · have hend' : ¬ (a.length : Int) < s.size := by omega
        have hendb : decide (a.length < s.size) = false := decide_eq_false hend
        have hendi : decide ((a.length : Int) < (s.size : Int)) = false := decide_eq_false hend'
        go_wp2
        go_ret
        exact ⟨rfl, rfl⟩

/-- a span's two texts: the second one is empty where there is no comma -/
structure Span (c p q : List UInt8) : Prop where
  hp : Digs p
  hq : (q = [] ∧ c = p) ∨ (Digs q ∧ c = p ++ 44 :: q)

set_option maxRecDepth 100000 in
set_option maxHeartbeats 1000000 in
theorem zrange_any (s : ByteArray) (c p q r : List UInt8) (w : World) (hs : s.size ≤ 50000000) (h : Hid (tb s = c ++ 32 :: r)) (hc : Hid (Span c p q)) :
    Calls Tryz.prog 151 #[.string s] w fun e w' => (∃ A B R : ByteArray, e = .returned (.tuple #[.string A, .string B, .string R]) ∧ tb A = p ∧ tb B = q ∧ tb R = 32 :: r) ∧ Below w.heap.size w w' := by
  rcases hc.out.hq with ⟨rfl, rfl⟩ | ⟨hq, hcc⟩
  · have hl : Hid (Lead c (32 :: r)) := ⟨hc.out.hp.dig, fun b q e => by injection e with e1 _; subst e1; decide⟩
    obtain ⟨R, hR⟩ : ∃ R, s.extract c.length s.size = R := ⟨_, rfl⟩
    have hRt : tb R = 32 :: r := by
      rw [← hR, tb_extract, List.take_of_length_le (by rw [tb_length]; exact Nat.le_refl _), h.out, List.drop_left' rfl]
    have hpre : Lib.hasPrefix R.data.toList [44] = false := by
      rw [show R.data.toList = tb R from rfl, hRt]; rfl
    have hcl : c.length ≤ s.size := by rw [← tb_length, h.out, List.length_append]; omega
    have hA : Hid (tb (s.extract 0 c.length) = c) := by show _ = _; rw [tb_extract, List.drop_zero, h.out, List.take_left' rfl]
    have HRt := Lib.hid hRt
    clear hRt
    go_enter Tryz.func151, Tryz.ntmps151
    go_wp2_with (go_at_call 191; refine Hid.out ?_)
    refine Lib.hid ?_
    refine (zdigits_any s c (32 :: r) w hs h hl).mono ?_
    rintro e w1 ⟨rfl, rfl⟩
    go_wp2_with (go_at_call 150; refine Hid.out ?_)
    refine Lib.hid ?_
    refine (Tryz.strings_HasPrefix R ⟨#[44]⟩ w).mono ?_
    rintro e w1 ⟨rfl, rfl⟩
    rw [show (⟨#[44]⟩ : ByteArray).data.toList = [44] from rfl, hpre]
    go_wp2_with fail
    go_ret3
    exact ⟨⟨_, _, _, rfl, hA.out, rfl, HRt.out⟩, Below.refl _ _⟩
  · have hl : Hid (Lead p (44 :: (q ++ 32 :: r))) := ⟨hc.out.hp.dig, fun b q e => by injection e with e1 _; subst e1; decide⟩
    have hst : Hid (tb s = p ++ 44 :: (q ++ 32 :: r)) := by show _ = _; rw [h.out, hcc]; simp
    obtain ⟨R, hR⟩ : ∃ R, s.extract p.length s.size = R := ⟨_, rfl⟩
    have hRt : tb R = 44 :: (q ++ 32 :: r) := by
      rw [← hR, tb_extract, List.take_of_length_le (by rw [tb_length]; exact Nat.le_refl _), hst.out, List.drop_left' rfl]
    have hpre : Lib.hasPrefix R.data.toList [44] = true := by
      rw [show R.data.toList = tb R from rfl, hRt]
      simp [Lib.hasPrefix]
    have hcl : p.length ≤ s.size := by rw [← tb_length, hst.out, List.length_append]; omega
    have hA : Hid (tb (s.extract 0 p.length) = p) := by show _ = _; rw [tb_extract, List.drop_zero, hst.out, List.take_left' rfl]
    have hR1 : 1 ≤ R.size := by rw [← tb_length, hRt]; simp
    have hRs : R.size ≤ s.size := by rw [← hR]; simp
    obtain ⟨R2, hR2⟩ : ∃ R2, R.extract 1 R.size = R2 := ⟨_, rfl⟩
    have hR2t : Hid (tb R2 = q ++ 32 :: r) := by
      show _ = _
      rw [← hR2, tb_extract, List.take_of_length_le (by rw [tb_length]; exact Nat.le_refl _), hRt]; rfl
    have hR2s : R2.size ≤ 50000000 := by rw [← hR2]; simp; omega
    have hql : q.length ≤ R2.size := by rw [← tb_length, hR2t.out, List.length_append]; omega
    have hl2 : Hid (Lead q (32 :: r)) := ⟨hq.dig, fun b q e => by injection e with e1 _; subst e1; decide⟩
    have hB : Hid (tb (R2.extract 0 q.length) = q) := by show _ = _; rw [tb_extract, List.drop_zero, hR2t.out, List.take_left' rfl]
    have hC : Hid (tb (R2.extract q.length R2.size) = 32 :: r) := by show _ = _; rw [tb_extract, List.take_of_length_le (by rw [tb_length]; exact Nat.le_refl _), hR2t.out, List.drop_left' rfl]
    have hqli : ((q.length : Nat) : Int) ≤ R2.size := by omega
    have hcli : ((p.length : Nat) : Int) ≤ s.size := by omega
    clear hRt hcc
    go_enter Tryz.func151, Tryz.ntmps151
    go_wp2_with (go_at_call 191; refine Hid.out ?_)
    refine Lib.hid ?_
    refine (zdigits_any s p (44 :: (q ++ 32 :: r)) w hs hst hl).mono ?_
    rintro e w1 ⟨rfl, rfl⟩
    go_wp2_with (go_at_call 150; refine Hid.out ?_)
    refine Lib.hid ?_
    refine (Tryz.strings_HasPrefix R ⟨#[44]⟩ w).mono ?_
    rintro e w1 ⟨rfl, rfl⟩
    rw [show (⟨#[44]⟩ : ByteArray).data.toList = [44] from rfl, hpre]
    go_wp2_with (go_at_call 191; refine Hid.out ?_)
    refine Lib.hid ?_
    refine (zdigits_any R2 q (32 :: r) _ hR2s hR2t hl2).mono ?_
    rintro e w1 ⟨rfl, rfl⟩
    go_wp2_with fail
    go_region
    all_goals (go_wp2_with fail; go_ret3)
    all_goals exact ⟨⟨_, _, _, rfl, hA.out, hB.out, hC.out⟩, (Below.refl _ _).drew⟩

/-- what a header's parts tell -/
structure Told4 (p : P) (p1 q1 p2 q2 : List UInt8) : Prop where
  a : Span (spanL p.s1 p.l1) p1 q1
  b : Span (spanL p.s2 p.l2) p2 q2

/-- what zzHeader hands back -/
def HdrPost (s : ByteArray) (p1 q1 p2 q2 : List UInt8) (w : World) (e : Ending) (w' : World) : Prop :=
  ∃ (g : Nat) (A1 B1 A2 B2 : ByteArray), e = .returned (.slice (some ⟨g, 0, none⟩) 5 5) ∧ w.heap.size ≤ g ∧ w'.heap[g]? = some (.cells #[.string s, .string A1, .string B1, .string A2, .string B2] 9 (0, 0)) ∧
    (tb A1 = p1 ∧ tb B1 = q1) ∧ (tb A2 = p2 ∧ tb B2 = q2) ∧ Below w.heap.size w w'

set_option maxRecDepth 100000 in
set_option maxHeartbeats 2000000 in
theorem zheader_any (s : ByteArray) (p : P) (p1 q1 p2 q2 : List UInt8) (w : World) (hst : Hid (tb s = hdrL p)) (hp : Hid (NumP p)) (hsp : Hid (Told4 p p1 q1 p2 q2)) :
    Calls Tryz.prog 120 #[.string s] w (HdrPost s p1 q1 p2 q2 w) := by
  obtain ⟨⟨a1, a2⟩, ⟨b1, b2⟩, ⟨a3, a4⟩, ⟨b3, b4⟩⟩ := hp.out
  have z1 := spanL_len a1 a3 a2 a4
  have z2 := spanL_len b1 b3 b2 b4
  have hdef : tb s = hdrL p := hst.out
  rw [hdrL] at hdef
  have hs1 := Lib.hid hsp.out.a
  have hs2 := Lib.hid hsp.out.b
  obtain ⟨S1, h1⟩ : ∃ S1, spanL p.s1 p.l1 = S1 := ⟨_, rfl⟩
  obtain ⟨S2, h2⟩ : ∃ S2, spanL p.s2 p.l2 = S2 := ⟨_, rfl⟩
  rw [h1] at hdef hs1 z1
  rw [h2] at hdef hs2 z2
  have hsz : s.size = S1.length + S2.length + 9 := by
    have := congrArg List.length hdef
    rw [tb_length] at this
    simp only [List.length_append, List.length_cons, List.length_nil] at this
    omega
  have h4n : 4 ≤ s.size := by omega
  have h100 : s.size ≤ 100 := by omega
  have hpre : Lib.hasPrefix s.data.toList [64, 64, 32, 45] = true := by
    rw [show s.data.toList = tb s from rfl, hdef]
    simp [Lib.hasPrefix]
  obtain ⟨r1, hr1⟩ : ∃ r1, s.extract 4 s.size = r1 := ⟨_, rfl⟩
  have hr1t : Hid (tb r1 = S1 ++ 32 :: (43 :: (S2 ++ [32, 64, 64]))) := by
    show _ = _
    rw [← hr1, tb_extract, List.take_of_length_le (by rw [tb_length]; exact Nat.le_refl _), hdef]
    simp
  have hr1s : r1.size ≤ 100 := by rw [← hr1]; simp; omega
  clear hdef hsz a1 a2 a3 a4 b1 b2 b3 b4 h1 h2
  go_enter Tryz.func120, Tryz.ntmps120
  go_wp2_with (go_at_call 150; refine Hid.out ?_)
  refine Lib.hid ?_
  refine (Tryz.strings_HasPrefix s ⟨#[64, 64, 32, 45]⟩ _).mono ?_
  rintro e w1 ⟨rfl, rfl⟩
  rw [show (⟨#[64, 64, 32, 45]⟩ : ByteArray).data.toList = [64, 64, 32, 45] from rfl, hpre]
  have hbA : Below w.heap.size w (w.alloc (.cells #[.string s, .string ⟨#[]⟩, .string ⟨#[]⟩, .string ⟨#[]⟩, .string ⟨#[]⟩] 9)) := (Below.refl _ _).alloc (Nat.le_refl _) _
  have hh := heap_alloc_new w (.cells #[.string s, .string ⟨#[]⟩, .string ⟨#[]⟩, .string ⟨#[]⟩, .string ⟨#[]⟩] 9)
  have hsA : w.heap.size < (w.alloc (.cells #[.string s, .string ⟨#[]⟩, .string ⟨#[]⟩, .string ⟨#[]⟩, .string ⟨#[]⟩] 9)).heap.size := by simp
  go_wp2_with (go_at_call 151; refine Hid.out ?_)
  refine Lib.hid ?_
  generalize w.alloc (.cells #[.string s, .string ⟨#[]⟩, .string ⟨#[]⟩, .string ⟨#[]⟩, .string ⟨#[]⟩] 9) = W at hbA hh hsA ⊢
  refine (zrange_any r1 S1 p1 q1 (43 :: (S2 ++ [32, 64, 64])) W (by omega) hr1t hs1).mono ?_
  rintro e w1 ⟨⟨A1, B1, R1, rfl, hA1, hB1, hR1⟩, hb1⟩
  have hh1 := (hb1.block _ hsA).trans hh
  have x1 := blk_cell hh1 1
  have x2 := blk_cell hh1 2
  have fx1 := blk_frozen hh1 1
  have fx2 := blk_frozen hh1 2
  simp at x1 x2
  have hA1e : A1.toList.isEmpty = false := by
    rw [toList_tb, hA1, List.isEmpty_eq_false_iff]
    intro e
    have := hs1.out.hp.pos
    rw [e] at this
    simp at this
  have hpre2 : Lib.hasPrefix R1.data.toList [32, 43] = true := by
    rw [show R1.data.toList = tb R1 from rfl, hR1]
    simp [Lib.hasPrefix]
  obtain ⟨r2, hr2⟩ : ∃ r2, R1.extract 2 R1.size = r2 := ⟨_, rfl⟩
  have hr2t : Hid (tb r2 = S2 ++ 32 :: [64, 64]) := by
    show _ = _
    rw [← hr2, tb_extract, List.take_of_length_le (by rw [tb_length]; exact Nat.le_refl _), hR1]
    rfl
  have hR1s : R1.size = S2.length + 5 := by rw [← tb_length, hR1]; simp
  have hR2n : 2 ≤ R1.size := by omega
  have hr2s : r2.size ≤ 100 := by rw [← hr2]; simp; omega
  have HA1 := Lib.hid hA1
  have HB1 := Lib.hid hB1
  have hw1 : Below w.heap.size w w1 := hbA.trans (hb1.mono hbA.size)
  have hh2 : ((w1.setCell ⟨w.heap.size, 1, none⟩ (.string A1)).setCell ⟨w.heap.size, 2, none⟩ (.string B1)).heap[w.heap.size]? = some (.cells #[.string s, .string A1, .string B1, .string ⟨#[]⟩, .string ⟨#[]⟩] 9 (0, 0)) := by
    have e2 := blk_set (blk_set hh1 1 (.string A1)) 2 (.string B1)
    simpa using e2
  have hw2 : Below w.heap.size w ((w1.setCell ⟨w.heap.size, 1, none⟩ (.string A1)).setCell ⟨w.heap.size, 2, none⟩ (.string B1)) := below_set8 (below_set8 hw1 (Nat.le_refl _) _) (Nat.le_refl _) _
  clear hA1 hB1 hR1 hR1s
  go_upto_region 5 with fail
  generalize (w1.setCell ⟨w.heap.size, 1, none⟩ (.string A1)).setCell ⟨w.heap.size, 2, none⟩ (.string B1) = w2 at hh2 hw2 ⊢
  have y1 := blk_cell hh2 1
  have y3 := blk_cell hh2 3
  have y4 := blk_cell hh2 4
  have fy3 := blk_frozen hh2 3
  have fy4 := blk_frozen hh2 4
  simp at y1 y3 y4
  go_wp2_with (go_at_call 150; refine Hid.out ?_)
  refine Lib.hid ?_
  refine (Tryz.strings_HasPrefix R1 ⟨#[32, 43]⟩ _).mono ?_
  rintro e w3 ⟨rfl, rfl⟩
  rw [show (⟨#[32, 43]⟩ : ByteArray).data.toList = [32, 43] from rfl, hpre2]
  go_wp2_with (go_at_call 151; refine Hid.out ?_)
  refine Lib.hid ?_
  have hlt2 : w.heap.size < w3.heap.size := (Array.getElem?_eq_some_iff.1 hh2).1
  refine (zrange_any r2 S2 p2 q2 [64, 64] w3 (by omega) hr2t hs2).mono ?_
  rintro e w4 ⟨⟨A2, B2, R2, rfl, hA2, hB2, hR2⟩, hb4⟩
  have hh4 := (hb4.block _ hlt2).trans hh2
  have v3 := blk_cell hh4 3
  have v4 := blk_cell hh4 4
  have fv3 := blk_frozen hh4 3
  have fv4 := blk_frozen hh4 4
  simp at v3 v4
  have hA2e : A2.toList.isEmpty = false := by
    rw [toList_tb, hA2, List.isEmpty_eq_false_iff]
    intro e
    have := hs2.out.hp.pos
    rw [e] at this
    simp at this
  have hR2l : R2.toList = [32, 64, 64] := by rw [toList_tb, hR2]
  have hw4 : Below w.heap.size w w4 := hw2.trans (hb4.mono (by omega))
  have hh5 : ((w4.setCell ⟨w.heap.size, 3, none⟩ (.string A2)).setCell ⟨w.heap.size, 4, none⟩ (.string B2)).heap[w.heap.size]? = some (.cells #[.string s, .string A1, .string B1, .string A2, .string B2] 9 (0, 0)) := by
    have e2 := blk_set (blk_set hh4 3 (.string A2)) 4 (.string B2)
    simpa using e2
  have hw5 : Below w.heap.size w ((w4.setCell ⟨w.heap.size, 3, none⟩ (.string A2)).setCell ⟨w.heap.size, 4, none⟩ (.string B2)) := below_set8 (below_set8 hw4 (Nat.le_refl _) _) (Nat.le_refl _) _
  have HA2 := Lib.hid hA2
  have HB2 := Lib.hid hB2
  clear hA2 hB2 hR2 y1 y3 y4 fy3 fy4
  go_upto_region 8 with fail
  generalize (w4.setCell ⟨w.heap.size, 3, none⟩ (.string A2)).setCell ⟨w.heap.size, 4, none⟩ (.string B2) = w5 at hh5 hw5 ⊢
  have u3' := blk_cell hh5 3
  simp at u3'
  go_wp2_with fail
  go_ret
  exact ⟨w.heap.size, A1, B1, A2, B2, rfl, Nat.le_refl _, hh5, ⟨HA1.out, HB1.out⟩, ⟨HA2.out, HB2.out⟩, hw5⟩
end Go.Proofs.YtjebgfpcmooniaaGreatDoor
