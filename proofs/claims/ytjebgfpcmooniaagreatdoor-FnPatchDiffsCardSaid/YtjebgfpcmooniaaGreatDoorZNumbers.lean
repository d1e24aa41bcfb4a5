/- Split: the pieces of a text between a byte. Digits: deHex, deNumber. ptNumbers: the numbers of a span. -/
import Derived.Test.YtjebgfpcmooniaaGreatDoorZReplace
namespace Go.Proofs.YtjebgfpcmooniaaGreatDoor
open Go Go.RowKit

def sC (t : ByteArray) : List Value := [.string t]
theorem sC_len (t : ByteArray) : (sC t).length = 1 := rfl
theorem sC_one (t : ByteArray) : ∀ u ∈ sC t, u.oneCell' = true := by intro u hu; simp [sC] at hu; subst hu; rfl
theorem st79 : STy Tryz.prog 79 9 1 16 := STy.mk' (by kernel_rfl) (show _ = some (some (.string ByteArray.empty), 1, 16) from by kernel_rfl) rfl (by omega) (by omega)

/-- the pieces of a list between a byte -/
def splitL (a : UInt8) : List UInt8 → List (List UInt8)
  | [] => [[]]
  | b :: r => if b = a then [] :: splitL a r else match splitL a r with
    | [] => [[b]]
    | p :: ps => (b :: p) :: ps
def glue (pre : List UInt8) : List (List UInt8) → List (List UInt8)
  | [] => [pre]
  | p :: ps => (pre ++ p) :: ps
theorem splitL_ne (a : UInt8) (l : List UInt8) : splitL a l ≠ [] := by
  cases l with
  | nil => simp [splitL]
  | cons b r => rw [splitL]; split <;> (try split) <;> simp
theorem glue_nil {l : List (List UInt8)} (h : l ≠ []) : glue [] l = l := by
  cases l with
  | nil => exact absurd rfl h
  | cons p ps => rfl
theorem glue_step {a b : UInt8} {pre r : List UInt8} (h : b ≠ a) : glue pre (splitL a (b :: r)) = glue (pre ++ [b]) (splitL a r) := by
  rw [splitL, if_neg h]
  cases e : splitL a r with
  | nil => exact absurd e (splitL_ne a r)
  | cons p ps => simp [glue]
theorem glue_hit {a : UInt8} {pre r : List UInt8} : glue pre (splitL a (a :: r)) = pre :: splitL a r := by
  rw [splitL, if_pos rfl]; simp [glue]

/-- the state of the loop -/
def SplitS (s : ByteArray) (a : UInt8) (w : World) (v i f : Value) (wr : World) : Prop :=
  ∃ (k m : Nat) (acc : List ByteArray), i = .int .i64 k ∧ f = .int .i64 m ∧ k ≤ s.size + 1 ∧ acc.length ≤ k ∧ OwnL sC 9 1 wr w.heap.size v acc ∧ Below w.heap.size w wr ∧ (k ≤ s.size → m ≤ k) ∧
    Hid ((k ≤ s.size ∧ acc.map tb ++ glue (((tb s).take k).drop m) (splitL a ((tb s).drop k)) = splitL a (tb s)) ∨ (k = s.size + 1 ∧ acc.map tb = splitL a (tb s)))

def SplitPost (s : ByteArray) (a : UInt8) (w : World) (e : Ending) (w' : World) : Prop :=
  ∃ (v : Value) (l : List ByteArray), e = .returned v ∧ l.map tb = splitL a (tb s) ∧ OwnL sC 9 1 w' w.heap.size v l ∧ l.length ≤ s.size + 1 ∧ Below w.heap.size w w'

set_option maxRecDepth 100000 in
set_option maxHeartbeats 1000000 in
theorem split_any (s : ByteArray) (a : UInt8) (w : World) (hs : s.size ≤ 50000000) :
    Calls Tryz.prog 50 #[.string s, .int .u8 (a.toNat : Int)] w (SplitPost s a w) := by
  go_enter Tryz.func50, Tryz.ntmps50
  go_wp2
  go_loopw [5, 7, 6] (SplitS s a w) (fun _ i _ _ => s.size + 1 - (intOf i).toNat)
  case atStart => exact ⟨0, 0, [], rfl, rfl, by omega, by simp, OwnL.nil _ _, Below.refl _ _, fun _ => by omega, .inl ⟨by omega, by simp [glue_nil (splitL_ne _ _)]⟩⟩
  case round =>
    obtain ⟨k, m, acc, rfl, rfl, hk, hal, hown, hb, hmk, Hinv⟩ := hrel
    have hsz := hb.size
    by_cases hle : k ≤ s.size
    · have hm := hmk hle
      by_cases hlt : k = s.size
      · have e0 : ((k : Int) == s.size) = true := by rw [beq_iff_eq]; omega
        have Hlt := Lib.hid hlt
        clear hlt
        go_wp2_with (at_builtin; refine Hid.out ?_)
        refine Lib.hid ?_
        refine wpList_push (P := Tryz.prog) st79 rfl (.tmp 25) (.tmp 30) rfl rfl (hown.alloc _) (s.extract m k) ⟨wr.heap.size, 0, none⟩ 1 (by rfl) sC_len (sC_one _) (by omega) (le_al hsz) (cells1_of (heap_alloc_new _ _)) ?_
        intro g cap w1 hown1 hg1 hat1
        have hb1 : Below w.heap.size w w1 := (hb.alloc hsz _).grown hg1 (le_al hsz) (fun j hj => (hown.lt j hj).1)
        go_wp2_with fail
        go_roundw
        case rel =>
          refine ⟨k + 1, k + 1, acc ++ [s.extract m k], by go_num, by go_num, by omega, by rw [List.length_append, List.length_singleton]; omega, hown1, hb1, fun _ => by omega, .inr ⟨by have := Hlt.out; omega, ?_⟩⟩
          rcases Hinv.out with ⟨_, h⟩ | ⟨h, _⟩
          · rw [← h, List.drop_eq_nil_of_le (i := k) (by rw [tb_length]; have := Hlt.out; omega)]
            simp [splitL, glue, tb_extract]
          · have := Hlt.out; omega
        case measure => simp [intOf]; omega
      · have e0 : ((k : Int) == s.size) = false := by rw [beq_eq_false_iff_ne]; omega
        have hlt2 : k < s.size := by omega
        have hd := Lib.hid (drop_tb s k hlt2)
        by_cases ha : s[k]'hlt2 = a
        · have e1 : (((s[k]'hlt2).toNat : Int) == (a.toNat : Int)) = true := by rw [ha]; simp
          have Ha := Lib.hid ha
          clear ha
          go_wp2_with (at_builtin; refine Hid.out ?_)
          refine Lib.hid ?_
          refine wpList_push (P := Tryz.prog) st79 rfl (.tmp 25) (.tmp 30) rfl rfl (hown.alloc _) (s.extract m k) ⟨wr.heap.size, 0, none⟩ 1 (by rfl) sC_len (sC_one _) (by omega) (le_al hsz) (cells1_of (heap_alloc_new _ _)) ?_
          intro g cap w1 hown1 hg1 hat1
          have hb1 : Below w.heap.size w w1 := (hb.alloc hsz _).grown hg1 (le_al hsz) (fun j hj => (hown.lt j hj).1)
          go_wp2_with fail
          go_roundw
          case rel =>
            refine ⟨k + 1, k + 1, acc ++ [s.extract m k], by go_num, by go_num, by omega, by rw [List.length_append, List.length_singleton]; omega, hown1, hb1, fun _ => by omega, .inl ⟨by omega, ?_⟩⟩
            rcases Hinv.out with ⟨_, h⟩ | ⟨h, _⟩
            · have hz : ((tb s).take (k + 1)).drop (k + 1) = [] := List.drop_eq_nil_of_le (by rw [List.length_take]; omega)
              rw [← h, hd.out, Ha.out, glue_hit, List.map_append, hz, glue_nil (splitL_ne _ _)]
              simp [tb_extract]
            · omega
          case measure => simp [intOf]; omega
        · have e1 : (((s[k]'hlt2).toNat : Int) == (a.toNat : Int)) = false := by
            rw [beq_eq_false_iff_ne]
            intro e
            exact ha (UInt8.toNat_inj.1 (by omega))
          have Ha := Lib.hid ha
          clear ha
          go_wp2_with fail
          go_roundw
          case rel =>
            refine ⟨k + 1, m, acc, by go_num, rfl, by omega, by omega, hown, hb, fun _ => by omega, .inl ⟨by omega, ?_⟩⟩
            rcases Hinv.out with ⟨_, h⟩ | ⟨h, _⟩
            · rw [← h, hd.out, glue_step Ha.out]
              congr 2
              rw [take_succ_some (x := s[k]'hlt2) (by rw [List.getElem?_eq_getElem (by rw [tb_length]; omega)]; rfl), List.drop_append_of_le_length (by rw [List.length_take, tb_length]; omega)]
            · omega
          case measure => simp [intOf]; omega
    · go_wp2
      go_ret
      refine ⟨u5, acc, rfl, ?_, hown, by omega, hb⟩
      rcases Hinv.out with ⟨h, _⟩ | ⟨_, h⟩
      · omega
      · exact h
end Go.Proofs.YtjebgfpcmooniaaGreatDoor

namespace Go.Proofs.YtjebgfpcmooniaaGreatDoor
open Go Go.RowKit

/-- the value of a hexadecimal digit; 16 for any other byte -/
def hexN (n : Nat) : Int := if 48 ≤ (n : Int) ∧ (n : Int) ≤ 57 then (n : Int) - 48 else if 97 ≤ (n : Int) ∧ (n : Int) ≤ 102 then (n : Int) - 97 + 10 else if 65 ≤ (n : Int) ∧ (n : Int) ≤ 70 then (n : Int) - 65 + 10 else 16
def hexF (c : UInt8) : Int := hexN c.toNat

set_option maxRecDepth 100000 in
set_option maxHeartbeats 1000000 in
theorem deHexN (n : Nat) (w : World) (hc : n < 256) : Calls Tryz.prog 89 #[.int .u8 (n : Int)] w fun e w' => e = .returned (.int .i64 (hexN n)) ∧ w = w' := by
  by_cases h1 : 48 ≤ n
  · by_cases h2 : n ≤ 57
    · have e : Hid (hexN n = (n : Int) - 48) := by show _ = _; unfold hexN; rw [if_pos (by omega)]
      go_enter Tryz.func89, Tryz.ntmps89
      go_wp2
      go_ret
      exact ⟨by rw [e.out]; rfl, rfl⟩
    · by_cases h3 : 97 ≤ n
      · by_cases h4 : n ≤ 102
        · have e : Hid (hexN n = (n : Int) - 97 + 10) := by show _ = _; unfold hexN; rw [if_neg (by omega), if_pos (by omega)]
          go_enter Tryz.func89, Tryz.ntmps89
          go_wp2
          go_ret
          exact ⟨by rw [e.out]; rfl, rfl⟩
        · have e : Hid (hexN n = 16) := by show _ = _; unfold hexN; rw [if_neg (by omega), if_neg (by omega), if_neg (by omega)]
          go_enter Tryz.func89, Tryz.ntmps89
          go_wp2
          go_ret
          exact ⟨by rw [e.out]; rfl, rfl⟩
      · by_cases h5 : 65 ≤ n
        · by_cases h6 : n ≤ 70
          · have e : Hid (hexN n = (n : Int) - 65 + 10) := by show _ = _; unfold hexN; rw [if_neg (by omega), if_neg (by omega), if_pos (by omega)]
            go_enter Tryz.func89, Tryz.ntmps89
            go_wp2
            go_ret
            exact ⟨by rw [e.out]; rfl, rfl⟩
          · have e : Hid (hexN n = 16) := by show _ = _; unfold hexN; rw [if_neg (by omega), if_neg (by omega), if_neg (by omega)]
            go_enter Tryz.func89, Tryz.ntmps89
            go_wp2
            go_ret
            exact ⟨by rw [e.out]; rfl, rfl⟩
        · have e : Hid (hexN n = 16) := by show _ = _; unfold hexN; rw [if_neg (by omega), if_neg (by omega), if_neg (by omega)]
          go_enter Tryz.func89, Tryz.ntmps89
          go_wp2
          go_ret
          exact ⟨by rw [e.out]; rfl, rfl⟩
  · have e : Hid (hexN n = 16) := by show _ = _; unfold hexN; rw [if_neg (by omega), if_neg (by omega), if_neg (by omega)]
    go_enter Tryz.func89, Tryz.ntmps89
    go_wp2
    go_ret
    exact ⟨by rw [e.out]; rfl, rfl⟩
theorem deHex_any (c : UInt8) (w : World) : Calls Tryz.prog 89 #[.int .u8 (c.toNat : Int)] w fun e w' => e = .returned (.int .i64 (hexF c)) ∧ w = w' :=
  deHexN c.toNat w c.toNat_lt

/-- the number of digits -/
def numL (l : List UInt8) : Nat := l.foldl (fun n b => n * 10 + (b.toNat - 48)) 0
theorem numL_snoc (l : List UInt8) (b : UInt8) : numL (l ++ [b]) = numL l * 10 + (b.toNat - 48) := by simp [numL]

set_option maxRecDepth 100000 in
set_option maxHeartbeats 1000000 in
theorem deNumber_any (s : ByteArray) (w : World) (h0 : 0 < s.size) (h9 : s.size < 10) (hd : Hid (∀ b ∈ tb s, 48 ≤ b.toNat ∧ b.toNat ≤ 57)) :
    Calls Tryz.prog 129 #[.string s] w fun e w' => e = .returned (.tuple #[.int .i64 (numL (tb s)), .bool true]) ∧ w = w' := by
  have hne : s.toList.isEmpty = false := by
    rw [List.isEmpty_eq_false_iff, toList_tb]
    intro e
    have := congrArg List.length e
    rw [tb_length] at this
    simp only [List.length_nil] at this
    omega
  have h9' : decide ((s.size : Int) < 10) = true := by simp; omega
  go_enter Tryz.func129, Tryz.ntmps129
  go_wp2
  go_loop [4, 5] (fun v i => ∃ k m : Nat, k ≤ s.size ∧ i = .int .i64 k ∧ v = .int .i64 m ∧ m < 10 ^ k ∧ Hid (m = numL ((tb s).take k))) (fun _ i => s.size - (intOf i).toNat)
  case atStart => exact ⟨0, 0, by omega, rfl, rfl, by simp, rfl⟩
  case round =>
    obtain ⟨k, m, hk, rfl, rfl, hm, Hm⟩ := hrel
    have hm9 : m < 1000000000 := Nat.lt_of_lt_of_le hm (Nat.pow_le_pow_right (by omega) (show k ≤ 9 by omega))
    have HM := Lib.hid hm
    clear hm
    by_cases hlt : k < s.size
    · obtain ⟨d1, d2⟩ := hd.out (s[k]'hlt) (by
        have : (tb s)[k]? = some (s[k]'hlt) := by rw [List.getElem?_eq_getElem (by rw [tb_length]; omega)]; rfl
        exact List.mem_of_getElem? this)
      have d1' : (48 : Int) ≤ (s[k]'hlt).toNat := by omega
      have d2' : ((s[k]'hlt).toNat : Int) ≤ 57 := by omega
      go_wp2
      go_round
      case rel =>
        refine ⟨k + 1, m * 10 + ((s[k]'hlt).toNat - 48), by omega, by go_num, ?_, ?_, ?_⟩
        · congr 1; omega
        · have := HM.out; rw [Nat.pow_succ]; omega
        · show _ = _
          rw [take_succ_some (x := s[k]'hlt) (by rw [List.getElem?_eq_getElem (by rw [tb_length]; omega)]; rfl), numL_snoc, ← Hm.out]
      case measure => simp [intOf]; omega
    · have hk2 : k = s.size := by omega
      have hfin : Hid (m = numL (tb s)) := by
        show _ = _
        rw [Hm.out, List.take_of_length_le (by rw [tb_length]; omega)]
      go_wp2
      go_ret2
      exact ⟨by rw [← hfin.out]; rfl, rfl⟩
end Go.Proofs.YtjebgfpcmooniaaGreatDoor

namespace Go.Proofs.YtjebgfpcmooniaaGreatDoor
open Go Go.RowKit

/-- digits, some but not many -/
structure Digs (l : List UInt8) : Prop where
  pos : 0 < l.length
  few : l.length < 10
  dig : ∀ b ∈ l, 48 ≤ b.toNat ∧ b.toNat ≤ 57
theorem Digs.no44 {l : List UInt8} (h : Digs l) : ∀ b ∈ l, b ≠ 44 := by
  rintro b hb rfl
  have := (h.dig 44 hb).1
  simp at this
theorem splitL_none {a : UInt8} {l : List UInt8} (h : ∀ b ∈ l, b ≠ a) : splitL a l = [l] := by
  induction l with
  | nil => rfl
  | cons b r ih =>
    rw [splitL, if_neg (h b (by simp)), ih (fun x hx => h x (by simp [hx]))]
theorem splitL_one {a : UInt8} {l r : List UInt8} (h : ∀ b ∈ l, b ≠ a) : splitL a (l ++ a :: r) = l :: splitL a r := by
  induction l with
  | nil => rw [List.nil_append, splitL, if_pos rfl]
  | cons b l ih =>
    rw [List.cons_append, splitL, if_neg (h b (by simp)), ih (fun x hx => h x (by simp [hx]))]

theorem rd_sC {w : World} {B : Nat} {A : Option Addr} {n k : Nat} {l : List ByteArray} (h : RdL sC 1 w B A n l) (hk : k < n) :
    ∃ ad x, A = some ad ∧ ad.block < B ∧ l[k]? = some x ∧ w.cell? (ad.add k) = some (.string x) := by
  obtain ⟨ad, x, rfl, hab, hx, hc⟩ := h.at_ hk
  exact ⟨ad, x, rfl, hab, hx, by simpa [add_zero'] using hc 0 _ rfl⟩

theorem two_of {α : Type} {l : List α} (h : l.length = 2) : ∃ x y, l = [x, y] := by
  cases l with
  | nil => simp at h
  | cons x r =>
    cases r with
    | nil => simp at h
    | cons y r =>
      simp at h
      exact ⟨x, y, by rw [h]⟩

/-- one number alone: a span of one byte -/
theorem numbers_one (s : ByteArray) (w : World) (h : Hid (Digs (tb s))) (hn : Hid (0 < numL (tb s))) (hb : Hid (numL (tb s) < 1000000000)) :
    Calls Tryz.prog 88 #[.string s] w fun e w' => e = .returned (.tuple #[.int .i64 ((numL (tb s) : Int) - 1), .int .i64 1, .bool true]) ∧ Below w.heap.size w w' := by
  have hsz : s.size < 10 := by have := h.out.few; rw [tb_length] at this; exact this
  go_enter Tryz.func88, Tryz.ntmps88
  go_wp2_with (go_at_call 50; refine Hid.out ?_)
  refine Lib.hid ?_
  refine (split_any s 44 w (by omega)).mono ?_
  rintro e w1 ⟨v, l, rfl, hl, hown, hll, hb1⟩
  rw [splitL_none h.out.no44] at hl
  obtain ⟨x, rfl⟩ := List.length_eq_one_iff.1 (show l.length = 1 by have := congrArg List.length hl; simpa using this)
  have hx : tb x = tb s := by simpa using hl
  obtain ⟨A, c, rfl, hr⟩ := hown.rd sC_len
  obtain ⟨ad, y, rfl, hab, hy, hc⟩ := rd_sC hr (show 0 < 1 by omega)
  have hyx : x = y := by simpa using hy
  subst hyx
  rw [add_zero'] at hc
  have hxs : x.size = s.size := by rw [← tb_length, hx, tb_length]
  have hm : ∃ m, m = numL (tb s) := ⟨_, rfl⟩
  obtain ⟨m, hm⟩ := hm
  have hm0 : 0 < m := by rw [hm]; exact hn.out
  have hm9 : m < 1000000000 := by rw [hm]; exact hb.out
  have Hm := Lib.hid hm
  clear hm
  go_wp2_with (go_at_call 129; refine Hid.out ?_)
  refine Lib.hid ?_
  refine (deNumber_any x w1 (by have := h.out.pos; rw [tb_length] at this; omega) (by omega) (Lib.hid (by rw [hx]; exact h.out.dig))).mono ?_
  rintro e w2 ⟨rfl, rfl⟩
  rw [hx, ← Hm.out]
  go_wp2_with fail
  go_ret3
  exact ⟨by rw [← Hm.out]; rfl, hb1⟩

/-- where a span begins, that is told by two numbers -/
def spanFrom (p q : List UInt8) : Int := if 0 < numL q then (numL p : Int) - 1 else numL p

/-- two numbers, a comma between them -/
theorem numbers_two (s : ByteArray) (p q : List UInt8) (w : World) (hs : Hid (tb s = p ++ 44 :: q)) (hp : Hid (Digs p)) (hq : Hid (Digs q)) (hn : Hid (0 < numL p ∨ numL q = 0)) (hb : Hid (numL p < 1000000000 ∧ numL q < 1000000000)) :
    Calls Tryz.prog 88 #[.string s] w fun e w' => e = .returned (.tuple #[.int .i64 (spanFrom p q), .int .i64 (numL q), .bool true]) ∧ Below w.heap.size w w' := by
  have hsz : s.size < 20 := by
    have h1 := congrArg List.length hs.out
    rw [tb_length] at h1
    have := hp.out.few
    have := hq.out.few
    simp at h1; omega
  go_enter Tryz.func88, Tryz.ntmps88
  go_wp2_with (go_at_call 50; refine Hid.out ?_)
  refine Lib.hid ?_
  refine (split_any s 44 w (by omega)).mono ?_
  rintro e w1 ⟨v, l, rfl, hl, hown, hll, hb1⟩
  rw [hs.out, splitL_one hp.out.no44, splitL_none hq.out.no44] at hl
  obtain ⟨x, y, rfl⟩ := two_of (show l.length = 2 by have := congrArg List.length hl; simpa using this)
  simp only [List.map_cons, List.map_nil, List.cons.injEq, and_true] at hl
  obtain ⟨hx, hy⟩ := hl
  obtain ⟨A, c, rfl, hr⟩ := hown.rd sC_len
  obtain ⟨ad, x', rfl, hab, hx', hc⟩ := rd_sC hr (show 0 < 2 by omega)
  obtain ⟨ad', y', he, hab', hy', hc'⟩ := rd_sC hr (show 1 < 2 by omega)
  injection he with he
  subst he
  have e1 : x = x' := by simpa using hx'
  have e2 : y = y' := by simpa using hy'
  subst e1 e2
  rw [add_zero'] at hc
  have hc1 : w1.cell? ⟨ad.block, ad.off + 1, none⟩ = some (.string y) := by simpa [Addr.add] using hc'
  clear hc'
  have hxs : x.size = p.length := by rw [← tb_length, hx]
  have hys : y.size = q.length := by rw [← tb_length, hy]
  obtain ⟨m, hm⟩ : ∃ m, m = numL p := ⟨_, rfl⟩
  obtain ⟨m', hm'⟩ : ∃ m, m = numL q := ⟨_, rfl⟩
  have hm9 : m < 1000000000 := by rw [hm]; exact hb.out.1
  have hm9' : m' < 1000000000 := by rw [hm']; exact hb.out.2
  have hmn : 0 < m ∨ m' = 0 := by rw [hm, hm']; exact hn.out
  have Hm := Lib.hid hm
  have Hm' := Lib.hid hm'
  have hpl := hp.out.pos
  have hpf := hp.out.few
  have hql := hq.out.pos
  have hqf := hq.out.few
  have Hx := Lib.hid hx
  have Hy := Lib.hid hy
  clear hm hm' hx hy
  go_wp2_with (go_at_call 129; refine Hid.out ?_)
  refine Lib.hid ?_
  refine (deNumber_any x w1 (by omega) (by omega) (Lib.hid (by rw [Hx.out]; exact hp.out.dig))).mono ?_
  rintro e w2 ⟨rfl, rfl⟩
  rw [Hx.out, ← Hm.out]
  go_wp2_with (go_at_call 129; refine Hid.out ?_)
  refine Lib.hid ?_
  refine (deNumber_any y w1 (by omega) (by omega) (Lib.hid (by rw [Hy.out]; exact hq.out.dig))).mono ?_
  rintro e w2 ⟨rfl, rfl⟩
  rw [Hy.out, ← Hm'.out]
  by_cases h0 : 0 < m'
  · have h0' : (0 : Int) < m' := by omega
    have hm1 : 1 ≤ m := by omega
    have hge : decide ((1 : Int) ≤ (m : Int)) = true := by simp; omega
    go_wp2_with fail
    go_ret3
    exact ⟨by rw [spanFrom, ← Hm'.out, if_pos h0, ← Hm.out]; rfl, hb1⟩
  · have h0' : ¬ (0 : Int) < m' := by omega
    go_wp2_with fail
    go_ret3
    exact ⟨by rw [spanFrom, ← Hm'.out, if_neg h0, ← Hm.out]; rfl, hb1⟩
end Go.Proofs.YtjebgfpcmooniaaGreatDoor
