/- The escapes that the package takes back. unescape: a text with the escapes taken back that the package takes back. zzReplaceAll of a plus by a space, as the text of patches does. -/
import Derived.Test.YtjebgfpcmooniaaGreatDoorZPlain
import Derived.Test.YtjebgfpcmooniaaGreatDoorZRef
import Derived.Test.YtjebgfpcmooniaaGreatDoorZCtx
import Derived.Lib.AppendStr
namespace Go.Proofs.YtjebgfpcmooniaaGreatDoor
open Go Go.RowKit

/-- the sign of an escape that is taken back; 0 for any other text -/
def unescF (s : List UInt8) : Int := if (s == [37, 50, 49]) = true then 33 else if (s == [37, 55, 69]) = true then 126 else if (s == [37, 50, 55]) = true then 39 else if (s == [37, 50, 56]) = true then 40 else if (s == [37, 50, 57]) = true then 41 else if (s == [37, 51, 66]) = true then 59 else if (s == [37, 50, 70]) = true then 47 else if (s == [37, 51, 70]) = true then 63 else if (s == [37, 51, 65]) = true then 58 else if (s == [37, 52, 48]) = true then 64 else if (s == [37, 50, 54]) = true then 38 else if (s == [37, 51, 68]) = true then 61 else if (s == [37, 50, 66]) = true then 43 else if (s == [37, 50, 52]) = true then 36 else if (s == [37, 50, 67]) = true then 44 else if (s == [37, 50, 51]) = true then 35 else if (s == [37, 50, 65]) = true then 42 else 0

set_option maxRecDepth 100000 in
set_option maxHeartbeats 4000000 in
theorem unescaped_any (s : ByteArray) (w : World) : Calls Tryz.prog 145 #[.string s] w fun e w' => e = .returned (.int .u8 (unescF s.toList)) ∧ w = w' := by
  go_enter Tryz.func145, Tryz.ntmps145
  go_wp2
  all_goals (go_ret; exact ⟨by simp only [unescF, *, if_true, Bool.false_eq_true, if_false]; rfl, rfl⟩)
end Go.Proofs.YtjebgfpcmooniaaGreatDoor

namespace Go.Proofs.YtjebgfpcmooniaaGreatDoor
open Go Go.RowKit

theorem unescF_range (l : List UInt8) : 0 ≤ unescF l ∧ unescF l ≤ 126 := by
  unfold unescF
  repeat' split
  all_goals omega

/-- the text with its escapes taken back -/
def unescL : List UInt8 → List UInt8
  | [] => []
  | b :: r => if 3 ≤ (b :: r).length ∧ unescF ((b :: r).take 3) ≠ 0 then UInt8.ofNat (unescF ((b :: r).take 3)).toNat :: unescL (r.drop 2) else b :: unescL r
  termination_by l => l.length
  decreasing_by all_goals simp; try omega

theorem unescL_hit {l : List UInt8} (h3 : 3 ≤ l.length) (h : unescF (l.take 3) ≠ 0) : unescL l = UInt8.ofNat (unescF (l.take 3)).toNat :: unescL (l.drop 3) := by
  cases l with
  | nil => simp at h3
  | cons b r => rw [unescL, if_pos ⟨h3, h⟩]; rfl
theorem unescL_miss {l : List UInt8} {b : UInt8} {r : List UInt8} (e : l = b :: r) (h : ¬ (3 ≤ l.length ∧ unescF (l.take 3) ≠ 0)) : unescL l = b :: unescL r := by
  subst e
  rw [unescL, if_neg h]

theorem b8_unesc (l : List UInt8) : b8 (UInt8.ofNat (unescF l).toNat) = [.int .u8 (unescF l)] := by
  have := unescF_range l
  have h : ((UInt8.ofNat (unescF l).toNat).toNat : Int) = unescF l := by
    simp; omega
  rw [b8, h]

theorem drop_tb (s : ByteArray) (k : Nat) (h : k < s.size) : (tb s).drop k = (s[k]'h) :: (tb s).drop (k + 1) := by
  have h2 : k < (tb s).length := by rw [tb_length]; exact h
  rw [List.drop_eq_getElem_cons h2]
  rfl
theorem take3_tb (s : ByteArray) (k : Nat) : (s.extract k (k + 3)).toList = ((tb s).drop k).take 3 := by
  rw [ByteArray.toList_eq, show (s.extract k (k + 3)).data.toList = tb (s.extract k (k + 3)) from rfl, tb_extract, List.drop_take]
  congr 1; omega

set_option maxRecDepth 100000 in
set_option maxHeartbeats 1000000 in
theorem unescape_any (s : ByteArray) (w : World) (hs : s.size ≤ 50000000) :
    Calls Tryz.prog 107 #[.string s] w fun e w' => e = .returned (.string ⟨(unescL (tb s)).toArray⟩) ∧ Below w.heap.size w w' := by
  go_enter Tryz.func107, Tryz.ntmps107
  go_wp2
  go_loopw [3, 4] (fun v i wr => ∃ (k : Nat) (acc : List UInt8), k ≤ s.size ∧ i = .int .i64 k ∧ acc.length ≤ k ∧ Hid (acc ++ unescL ((tb s).drop k) = unescL (tb s)) ∧ OwnL b8 5 1 wr w.heap.size v acc ∧ Below w.heap.size w wr) (fun _ i _ => s.size - (intOf i).toNat)
  case atStart => exact ⟨0, [], by omega, rfl, by simp, by show _ = _; simp, OwnL.nil _ _, Below.refl _ _⟩
  case round =>
    obtain ⟨k, acc, hk, rfl, hl, Hacc, hown, hb⟩ := hrel
    have hsz := hb.size
    by_cases hlt : k < s.size
    · have hd := Lib.hid (drop_tb s k hlt)
      have hdl : ((tb s).drop k).length = s.size - k := by rw [List.length_drop, tb_length]
      by_cases h3 : k + 3 ≤ s.size
      · have h3' : (k : Int) + 3 ≤ s.size := by omega
        have ht := Lib.hid (take3_tb s k)
        by_cases h0 : unescF (((tb s).drop k).take 3) = 0
        · have hstep := Lib.hid (unescL_miss hd.out (fun h => h.2 h0))
          have e0 : (unescF (s.extract k (k + 3)).toList != 0) = false := by rw [ht.out, bne_eq_false_iff_eq]; exact h0
          clear h0 hdl
          go_wp2_with (first | (go_at_call 145; refine (unescaped_any _ _).mono ?_; rintro e w' ⟨rfl, rfl⟩) | (at_builtin; refine Hid.out ?_))
          refine Lib.hid ?_
          refine wpList_push (P := Tryz.prog) st96 rfl (.tmp 29) (.tmp 33) rfl rfl (hown.alloc _) (s[k]'hlt) ⟨wr.heap.size, 0, none⟩ 1 (by rfl) b8_len (b8_one _) (by omega) (le_al hsz) (cells1_of (heap_alloc_new _ _)) ?_
          intro g cap w1 hown1 hg1 hat1
          have hb1 : Below w.heap.size w w1 := (hb.alloc hsz _).grown hg1 (le_al hsz) (fun j hj => (hown.lt j hj).1)
          go_wp2_with fail
          go_roundw
          case rel => exact ⟨k + 1, acc ++ [s[k]'hlt], by omega, by go_num, by rw [List.length_append, List.length_singleton]; omega, by show _ = _; rw [← Hacc.out, hstep.out, List.append_assoc]; rfl, hown1, hb1⟩
          case measure => simp [intOf]; omega
        · have hr3 := Lib.hid (unescL_hit (l := (tb s).drop k) (by omega) h0)
          have e0 : (unescF (s.extract k (k + 3)).toList != 0) = true := by rw [ht.out, bne_iff_ne]; exact h0
          clear h0 hdl
          go_wp2_with (first | (go_at_call 145; refine (unescaped_any _ _).mono ?_; rintro e w' ⟨rfl, rfl⟩) | (at_builtin; refine Hid.out ?_))
          refine Lib.hid ?_
          refine wpList_push (P := Tryz.prog) st96 rfl (.tmp 23) (.tmp 25) rfl rfl (hown.alloc _) (UInt8.ofNat (unescF (s.extract k (k + 3)).toList).toNat) ⟨wr.heap.size, 0, none⟩ 1 (by rfl) b8_len (b8_one _) (by omega) (le_al hsz) (by rw [b8_unesc]; exact cells1_of (heap_alloc_new _ _)) ?_
          intro g cap w1 hown1 hg1 hat1
          have hb1 : Below w.heap.size w w1 := (hb.alloc hsz _).grown hg1 (le_al hsz) (fun j hj => (hown.lt j hj).1)
          go_wp2_with fail
          go_roundw
          case rel => exact ⟨k + 3, acc ++ [UInt8.ofNat (unescF (s.extract k (k + 3)).toList).toNat], by omega, by go_num, by rw [List.length_append, List.length_singleton]; omega, by show _ = _; rw [← Hacc.out, hr3.out, ht.out, List.drop_drop, List.append_assoc]; rfl, hown1, hb1⟩
          case measure => simp [intOf]; omega
      · have h3' : ¬ (k : Int) + 3 ≤ s.size := by omega
        have hstep := Lib.hid (unescL_miss hd.out (fun h => by have := h.1; omega))
        clear hdl
        go_wp2_with (at_builtin; refine Hid.out ?_)
        refine Lib.hid ?_
        refine wpList_push (P := Tryz.prog) st96 rfl (.tmp 29) (.tmp 33) rfl rfl (hown.alloc _) (s[k]'hlt) ⟨wr.heap.size, 0, none⟩ 1 (by rfl) b8_len (b8_one _) (by omega) (le_al hsz) (cells1_of (heap_alloc_new _ _)) ?_
        intro g cap w1 hown1 hg1 hat1
        have hb1 : Below w.heap.size w w1 := (hb.alloc hsz _).grown hg1 (le_al hsz) (fun j hj => (hown.lt j hj).1)
        go_wp2_with fail
        go_roundw
        case rel => exact ⟨k + 1, acc ++ [s[k]'hlt], by omega, by go_num, by rw [List.length_append, List.length_singleton]; omega, by show _ = _; rw [← Hacc.out, hstep.out, List.append_assoc]; rfl, hown1, hb1⟩
        case measure => simp [intOf]; omega
    · have hcv := conv_bytes hown
      have hfin : Hid (⟨acc.toArray⟩ = (⟨(unescL (tb s)).toArray⟩ : ByteArray)) := by
        show _ = _
        have := Hacc.out
        rw [List.drop_eq_nil_of_le (by rw [tb_length]; omega), unescL, List.append_nil] at this
        rw [this]
      go_wp2
      go_ret
      exact ⟨by rw [← hfin.out]; rfl, hb⟩
end Go.Proofs.YtjebgfpcmooniaaGreatDoor

namespace Go.Proofs.YtjebgfpcmooniaaGreatDoor
open Go Go.RowKit

theorem strCells_b8 (s : ByteArray) : Lib.strCells s = (tb s).flatMap b8 := by
  rw [Lib.strCells, show tb s = s.data.toList from rfl]
  induction s.data.toList with
  | nil => rfl
  | cons b l ih => rw [List.map_cons, List.flatMap_cons, ih]; rfl

/-- 'append' of a text onto owned bytes -/
theorem wpList_appendS {ops : Array Oper} {rest : List Oper} {o : Oper} {a : Act} {Q : Exit → Act → World → Prop} {w : World} {base : Nat} {l : List UInt8} {v : Value} (hgd : o.guard = none) (sl x : Operand)
    (ho : o.op = .call { callee := .builtin .append, args := #[sl, x], argTypes := #[96, 9] }) (hs : a.eval sl = v) (hown : OwnL b8 5 1 w base v l) (s : ByteArray) (hx : a.eval x = .string s)
    (hb : l.length + s.size < 1000000000) (hbase : base ≤ w.heap.size)
    (h : ∀ v' w', OwnL b8 5 1 w' base v' (l ++ tb s) → w.grownBy w' v.ownBlock → wpList Tryz.prog ops Q rest (a.put o.dst v') w') : wpList Tryz.prog ops Q (o :: rest) a w := by
  obtain ⟨i, z, hi, hz, hsz, hby, _⟩ := st96.hi
  have hz2 : (Tryz.prog.info? 5).map (fun i => (i.zero, i.size, i.bytes)) = some (some (.int .u8 0), 1, 1) := by kernel_rfl
  obtain ⟨i2, h0, h1, h2, h3⟩ := info_parts hz2
  refine Lib.wpList_append_own_string w hgd sl x 96 9 ho base 5 i2 u96 u9 h0 h1 h2 h3 v l.length (l.flatMap b8) hs hown s hx (by unfold maxLen; omega) (by omega) hbase ?_
  intro v' w' h4 h5 _
  refine h v' w' ?_ h5
  show World.ownsRow w' base 5 1 v' (l ++ tb s).length ((l ++ tb s).flatMap b8)
  rw [List.length_append, List.flatMap_append, tb_length, ← strCells_b8]
  exact h4

def strSz : Value → Nat
  | .string s => s.size
  | _ => 0

/-- a text with its pluses made spaces -/
def plusL (l : List UInt8) : List UInt8 := l.map fun b => if b = 43 then 32 else b
theorem plusL_append (a b : List UInt8) : plusL (a ++ b) = plusL a ++ plusL b := by simp [plusL]
theorem isAt1 {l : List UInt8} {b : UInt8} {k : Nat} : isAt l [b] k ↔ l[k]? = some b := by
  unfold isAt
  constructor
  · rintro ⟨h1, h2⟩
    have h3 := congrArg (fun q => q[0]?) h2
    simpa using h3
  · intro h
    obtain ⟨hk, e⟩ := List.getElem?_eq_some_iff.1 h
    refine ⟨by simp; omega, ?_⟩
    rw [List.drop_eq_getElem_cons hk, e]
    rfl
theorem plusL_none {l : List UInt8} (h : ∀ k : Nat, l[k]? ≠ some 43) : plusL l = l := by
  unfold plusL
  conv => rhs; rw [← List.map_id' l]
  refine List.map_congr_left fun b hb => ?_
  rw [if_neg]
  rintro rfl
  obtain ⟨k, hk, e⟩ := List.getElem_of_mem hb
  exact h k (List.getElem?_eq_some_iff.2 ⟨hk, e⟩)
theorem plusL_first {l : List UInt8} {k : Nat} (hat : l[k]? = some 43) (hno : ∀ j, j < k → l[j]? ≠ some 43) : plusL l = l.take k ++ 32 :: plusL (l.drop (k + 1)) ∧ k < l.length := by
  obtain ⟨hk, e0⟩ := List.getElem?_eq_some_iff.1 hat
  refine ⟨?_, hk⟩
  have e : l = l.take k ++ 43 :: l.drop (k + 1) := by
    conv => lhs; rw [← List.take_append_drop k l]
    rw [List.drop_eq_getElem_cons hk, e0]
  conv => lhs; rw [e]
  rw [plusL_append, plusL_none (l := l.take k)]
  · rfl
  · intro j hj
    rw [List.getElem?_take] at hj
    split at hj
    · rename_i h; exact hno j h hj
    · cases hj

set_option maxRecDepth 100000 in
set_option maxHeartbeats 1000000 in
theorem replace_any (s : ByteArray) (w : World) (hs : s.size ≤ 50000000) :
    Calls Tryz.prog 103 #[.string s, .string ⟨#[43]⟩, .string ⟨#[32]⟩] w fun e w' => e = .returned (.string ⟨(plusL (tb s)).toArray⟩) ∧ Below w.heap.size w w' := by
  go_enter Tryz.func103, Tryz.ntmps103
  go_wp2
  go_loopw [0, 7] (fun v0 v wr => ∃ (s1 : ByteArray) (acc : List UInt8), v0 = .string s1 ∧ acc.length + s1.size ≤ s.size ∧ Hid (acc ++ plusL (tb s1) = plusL (tb s)) ∧ OwnL b8 5 1 wr w.heap.size v acc ∧ Below w.heap.size w wr) (fun v0 _ _ => strSz v0)
  case atStart => exact ⟨s, [], rfl, by simp, by show _ = _; simp, OwnL.nil _ _, Below.refl _ _⟩
  case round =>
    obtain ⟨s1, acc, rfl, hl, Hacc, hown, hb⟩ := hrel
    have hsz := hb.size
    go_wp2_with (go_at_call 142; refine Hid.out ?_)
    refine Lib.hid ?_
    refine (zzIndex_any s1 ⟨#[43]⟩ wr (by omega) (by decide)).mono ?_
    rintro e w1 ⟨n, rfl, hidx, rfl⟩
    rcases hidx with ⟨rfl, hno⟩ | ⟨k, rfl, hat, hno⟩
    · have hp := Lib.hid (plusL_none (l := tb s1) (fun k h => hno k (isAt1.2 h)))
      clear hno
      go_wp2_with (at_builtin; refine Hid.out ?_)
      refine Lib.hid ?_
      refine wpList_appendS rfl (.tmp 14) (.tmp 15) rfl rfl hown s1 rfl (by omega) hsz ?_
      intro v' w2 hown2 hg2
      have hcv := conv_bytes hown2
      have hb2 : Below w.heap.size w w2 := hb.trans (below_of_gb hg2 hsz (fun g e => (hown.lt g e).1))
      have hfin : Hid (⟨(acc ++ tb s1).toArray⟩ = (⟨(plusL (tb s)).toArray⟩ : ByteArray)) := by
        show _ = _
        rw [← Hacc.out, hp.out]
      go_wp2_with fail
      go_ret
      exact ⟨by rw [← hfin.out]; rfl, hb2⟩
    · obtain ⟨hp', hk⟩ := plusL_first (l := tb s1) (isAt1.1 hat) (fun j hj h => hno j hj (isAt1.2 h))
      have hp := Lib.hid hp'
      rw [tb_length] at hk
      clear hno hat hp'
      go_wp2_with (at_builtin; refine Hid.out ?_)
      refine Lib.hid ?_
      have hx1 : (s1.extract 0 k).size = k := by rw [← tb_length, tb_extract, List.drop_zero, List.length_take, tb_length]; omega
      have hx2 : tb (s1.extract 0 k) = (tb s1).take k := by rw [tb_extract, List.drop_zero]
      refine wpList_appendS rfl (.tmp 18) (.tmp 21) rfl rfl hown (s1.extract 0 k) rfl (by rw [hx1]; omega) hsz ?_
      intro v' w2 hown2 hg2
      have hb2 : Below w.heap.size w w2 := hb.trans (below_of_gb hg2 hsz (fun g e => (hown.lt g e).1))
      rw [hx2] at hown2
      have Hx := Lib.hid hx2
      clear hx1 hx2
      go_wp2_with (at_builtin; refine Hid.out ?_)
      refine Lib.hid ?_
      refine wpList_appendS rfl (.tmp 22) (.tmp 23) rfl rfl hown2 ⟨#[32]⟩ rfl (by have : (⟨#[32]⟩ : ByteArray).size = 1 := rfl; rw [List.length_append, List.length_take, tb_length]; omega) hb2.size ?_
      intro v'' w3 hown3 hg3
      have hb3 : Below w.heap.size w w3 := hb2.trans (below_of_gb hg3 hb2.size (fun g e => (hown2.lt g e).1))
      have hx3 : (s1.extract (k + 1) s1.size).size = s1.size - (k + 1) := by rw [← tb_length, tb_extract, List.length_drop, List.length_take, tb_length]; omega
      have hx4 : Hid (tb (s1.extract (k + 1) s1.size) = (tb s1).drop (k + 1)) := by
        show _ = _
        rw [tb_extract, List.take_of_length_le (by rw [tb_length]; exact Nat.le_refl _)]
      go_wp2_with fail
      go_roundw
      case rel =>
        refine ⟨s1.extract (k + 1) s1.size, acc ++ (tb s1).take k ++ tb ⟨#[32]⟩, rfl, ?_, ?_, hown3, hb3⟩
        · have : (tb ⟨#[32]⟩).length = 1 := rfl
          rw [hx3, List.length_append, List.length_append, List.length_take, tb_length]; omega
        · show _ = _
          rw [hx4.out, ← Hacc.out, hp.out]
          simp [tb]
      case measure => simp [strSz, hx3]; omega
end Go.Proofs.YtjebgfpcmooniaaGreatDoor
