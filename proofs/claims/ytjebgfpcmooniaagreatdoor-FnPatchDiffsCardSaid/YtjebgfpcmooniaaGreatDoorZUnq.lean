/- The library's unescape of a query: a text whose bytes stand for themselves, or by their two digits. -/
import Derived.Test.YtjebgfpcmooniaaGreatDoorZZhead
import Derived.Test.YtjebgfpcmooniaaGreatDoorZEscape
import Derived.Test.YtjebgfpcmooniaaGreatDoorZUnescd
import Derived.Test.YtjebgfpcmooniaaGreatDoorZShelfD
import Derived.Deep.RegionHeld3
namespace Go.Proofs.YtjebgfpcmooniaaGreatDoor
open Go Go.RowKit

/-- a byte as it stands behind the writer, its plus escaped again -/
def encV (b : UInt8) : List UInt8 := (encU b).flatMap pluE
def vx (b : UInt8) : UInt8 := (encV b).getD 1 0
def vy (b : UInt8) : UInt8 := (encV b).getD 2 0
def unhexN (c : Nat) : Nat := 9 * (c / 64) + c % 16
/-- the library's table says: a digit of sixteen -/
def HexB (c : UInt8) : Prop := (bits .and .u8 (urlL.getD c.toNat 0) 128 != 0) = true
instance (c : UInt8) : Decidable (HexB c) := inferInstanceAs (Decidable (_ = true))
theorem shape_V (b : UInt8) : (encV b = [b] ∧ b ≠ 37 ∧ b ≠ 43) ∨ (encV b = [37, vx b, vy b] ∧ HexB (vx b) ∧ HexB (vy b) ∧ unhexN (vx b).toNat = b.toNat / 16 ∧ unhexN (vy b).toNat = b.toNat % 16) :=
  u8_all (p := fun b => (encV b = [b] ∧ b ≠ 37 ∧ b ≠ 43) ∨ (encV b = [37, vx b, vy b] ∧ HexB (vx b) ∧ HexB (vy b) ∧ unhexN (vx b).toNat = b.toNat / 16 ∧ unhexN (vy b).toNat = b.toNat % 16)) (by decide +kernel) b
theorem encV_flat (l : List UInt8) : (l.flatMap encU).flatMap pluE = l.flatMap encV := by
  rw [List.flatMap_assoc]; rfl
/-- how many bytes are escaped -/
def escN (l : List UInt8) : Nat := (l.map fun b => if (encV b).length = 1 then 0 else 1).sum
theorem escN_snoc (l : List UInt8) (b : UInt8) : escN (l ++ [b]) = escN l + if (encV b).length = 1 then 0 else 1 := by simp [escN]
theorem escN_cons (b : UInt8) (l : List UInt8) : escN (b :: l) = (if (encV b).length = 1 then 0 else 1) + escN l := by simp [escN]
theorem encV_length (l : List UInt8) : (l.flatMap encV).length = l.length + 2 * escN l := by
  induction l with
  | nil => rfl
  | cons b l ih =>
    rw [List.flatMap_cons, List.length_append, ih, List.length_cons, escN_cons]
    rcases shape_V b with ⟨e, _⟩ | ⟨e, _⟩
    · rw [e]; simp; omega
    · rw [e]; simp; omega
theorem encV_none {l : List UInt8} (h : escN l = 0) : l.flatMap encV = l := by
  induction l with
  | nil => rfl
  | cons b l ih =>
    rw [escN_cons] at h
    rw [List.flatMap_cons, ih (by omega)]
    rcases shape_V b with ⟨e, _⟩ | ⟨e, _⟩
    · rw [e]; rfl
    · rw [e] at h; simp at h
theorem ba_of (s : ByteArray) : (⟨(tb s).toArray⟩ : ByteArray) = s := by cases s; simp [tb]
theorem take_flatV {t : List UInt8} {k : Nat} {b : UInt8} (h : t[k]? = some b) : (t.take (k + 1)).flatMap encV = (t.take k).flatMap encV ++ encV b := by
  rw [take_succ_some h, List.flatMap_append]; simp
theorem nib_or8 (b : UInt8) : bits .or .u8 ((b.toNat / 16 * 16 : Nat) : Int) ((b.toNat % 16 : Nat) : Int) = ((b.toNat : Nat) : Int) :=
  u8_all (p := fun b => bits .or .u8 ((b.toNat / 16 * 16 : Nat) : Int) ((b.toNat % 16 : Nat) : Int) = ((b.toNat : Nat) : Int)) (by decide +kernel) b
theorem wrap_8 {n : Nat} (h : n ≤ 255) (x : Int) (hx : x = (n : Int)) : IntKind.u8.wrap x = (n : Int) := by
  subst hx
  have := wrap_b (UInt8.ofNat n)
  rw [UInt8.toNat_ofNat_of_lt' (by have : UInt8.size = 256 := rfl; omega)] at this
  exact this

set_option maxRecDepth 100000 in
theorem ishex_any (c : UInt8) (w : World) (ht : Tabs w) (hx : HexB c) : Calls Tryz.prog 180 #[.int .u8 (c.toNat : Int)] w fun e w' => e = .returned (.bool true) ∧ w = w' := by
  have hc : w.cell? ⟨4, c.toNat, none⟩ = some (.int .u8 (urlL.getD c.toNat 0)) := ht.url.cell (by kernel_rfl) _ (by rw [urlL_len]; exact c.toNat_lt)
  have hb : (bits .and .u8 (urlL.getD c.toNat 0) 128 != 0) = true := hx
  have h256 : ((c.toNat : Nat) : Int) < 256 := by have := c.toNat_lt; omega
  obtain ⟨v, hv⟩ : ∃ v, v = urlL.getD c.toNat 0 := ⟨_, rfl⟩
  rw [← hv] at hc hb
  clear hv hx
  go_enter Tryz.func180, Tryz.ntmps180
  go_wp2
  go_ret
  exact ⟨rfl, rfl⟩

set_option maxRecDepth 100000 in
theorem unhex_any (c : UInt8) (w : World) : Calls Tryz.prog 181 #[.int .u8 (c.toNat : Int)] w fun e w' => e = .returned (.int .u8 ((unhexN c.toNat : Nat) : Int)) ∧ w = w' := by
  have hlt := c.toNat_lt
  have hand := and15 c
  obtain ⟨q, hq⟩ : ∃ q, q = c.toNat / 64 := ⟨_, rfl⟩
  obtain ⟨m, hm⟩ : ∃ m, m = c.toNat % 16 := ⟨_, rfl⟩
  have hu : Hid (unhexN c.toNat = 9 * q + m) := by show _ = _; rw [hq, hm]; rfl
  have hq' : (((c.toNat : Nat) : Int)) / 64 = (q : Int) := by omega
  rw [← hm] at hand
  have hw1 := wrap_8 (n := 9 * q) (by omega) (9 * (q : Int)) (by omega)
  have hw2 := wrap_8 (n := 9 * q + m) (by omega) ((9 : Int) * (q : Int) + (m : Int)) (by omega)
  rw [show ((9 * q : Nat) : Int) = 9 * (q : Int) by omega] at hw1
  rw [show ((9 * q + m : Nat) : Int) = 9 * (q : Int) + (m : Int) by omega] at hw2
  clear hq hm hlt
  go_enter Tryz.func181, Tryz.ntmps181
  go_wp2
  go_ret
  exact ⟨by rw [hu.out]; rfl, rfl⟩

set_option maxRecDepth 100000 in
set_option maxHeartbeats 4000000 in
theorem unq_any (s : ByteArray) (t : List UInt8) (w : World) (hs : s.size ≤ 50000000) (hst : Hid (tb s = t.flatMap encV)) (ht : Tabs w) :
    Calls Tryz.prog 146 #[.string s, .int .u8 32] w fun e w' => e = .returned (.tuple #[.string ⟨t.toArray⟩, .nilIface]) ∧ Below w.heap.size w w' := by
  have hlen : s.size = t.length + 2 * escN t := by rw [← tb_length, hst.out, encV_length]
  have Hlen := Lib.hid hlen
  have htl : t.length ≤ 50000000 := by omega
  clear hlen
  go_enter Tryz.func146, Tryz.ntmps146
  go_wp2
  go_loop [0, 6, 7, 8] (fun v0 vn v7 i => ∃ k o n : Nat, k ≤ t.length ∧ o ≤ s.size ∧ n ≤ k ∧ k ≤ o ∧ v0 = .string s ∧ v7 = .bool false ∧ i = .int .i64 o ∧ vn = .int .i64 n ∧ Hid (o = ((t.take k).flatMap encV).length) ∧ Hid (n = escN (t.take k))) (fun _ _ _ i => s.size - (intOf i).toNat)
  case atStart => exact ⟨0, 0, 0, by omega, by omega, by omega, by omega, rfl, rfl, rfl, rfl, by show _ = _; simp, by show _ = _; simp [escN]⟩
  case round =>
    obtain ⟨k, o, n, hk, hos, hnk, hko, rfl, rfl, rfl, rfl, Ho, Hn⟩ := hrel
    by_cases hlt : k < t.length
    · have hd : Hid (t[k]? = some t[k]) := List.getElem?_eq_getElem hlt
      obtain ⟨b, hbe⟩ : ∃ b, b = t[k] := ⟨_, rfl⟩
      rw [← hbe] at hd
      clear hbe
      have hdrop : (tb s).drop o = encV b ++ (t.drop (k + 1)).flatMap encV := by
        rw [hst.out, Ho.out]
        have e3 : t.flatMap encV = (t.take k).flatMap encV ++ (t.drop k).flatMap encV := by rw [← List.flatMap_append, List.take_append_drop]
        rw [e3, List.drop_left' rfl]
        obtain ⟨hk', e⟩ := List.getElem?_eq_some_iff.1 hd.out
        rw [List.drop_eq_getElem_cons hk', List.flatMap_cons, e]
      have Hstep := Lib.hid (take_flatV hd.out)
      have Htk := Lib.hid (take_succ_some hd.out)
      rcases shape_V b with ⟨e1, hne, hne2⟩ | ⟨e1, x1, x2, -, -⟩
      · rw [e1, List.cons_append, List.nil_append] at hdrop
        obtain ⟨ho, rfl, _⟩ := at_drop hdrop
        have hl1 : Hid ((encV (s[o]'ho)).length = 1) := by show _ = _; rw [e1]; rfl
        have e0 : ((((s[o]'ho).toNat : Nat) : Int) == 37) = false := by
          rw [beq_eq_false_iff_ne]
          intro e
          exact hne (UInt8.toNat_inj.1 (by show _ = 37; omega))
        have e01 : ((((s[o]'ho).toNat : Nat) : Int) == 43) = false := by
          rw [beq_eq_false_iff_ne]
          intro e
          exact hne2 (UInt8.toNat_inj.1 (by show _ = 43; omega))
        clear hne hne2 e1 hdrop
        go_wp2
        go_round
        case rel => exact ⟨k + 1, o + 1, n, by omega, by omega, by omega, by omega, rfl, rfl, by go_num, rfl, by show _ = _; rw [Hstep.out, List.length_append, hl1.out, ← Ho.out], by show _ = _; rw [Htk.out, escN_snoc, if_pos hl1.out, ← Hn.out]; rfl⟩
        case measure => simp [intOf]; omega
      · rw [e1] at hdrop
        obtain ⟨ho, q0, hdrop⟩ := at_drop hdrop
        obtain ⟨ho1, q1, hdrop⟩ := at_drop hdrop
        obtain ⟨ho2, q2, hdrop⟩ := at_drop hdrop
        have hl3 : Hid ((encV b).length = 3) := by show _ = _; rw [e1]; rfl
        rw [← q1] at x1
        rw [← q2] at x2
        have X1 := Lib.hid x1
        have X2 := Lib.hid x2
        have e0 : ((((s[o]'ho).toNat : Nat) : Int) == 37) = true := by rw [q0]; decide
        have ho2' : (o : Int) + 2 < s.size := by omega
        have ho1' : (o : Int) + 1 < s.size := by omega
        have hge : decide ((s.size : Int) ≤ (o : Int) + 2) = false := by simp; omega
        have hw1 := wrap_n (o + 1) (by omega) ((o : Int) + 1) (by omega)
        have hw2 := wrap_n (o + 2) (by omega) ((o : Int) + 2) (by omega)
        have ht1 : ((o : Int) + 1).toNat = o + 1 := by omega
        have ht2 : ((o : Int) + 2).toNat = o + 2 := by omega
        clear e1 q0 q1 q2 hdrop x1 x2
        go_wp2_with (go_at_call 180; refine Hid.out ?_)
        refine Lib.hid ?_
        refine (ishex_any _ _ ht X1.out).mono ?_
        rintro e w2 ⟨rfl, rfl⟩
        go_wp2_with (go_at_call 180; refine Hid.out ?_)
        refine Lib.hid ?_
        refine (ishex_any _ _ ht X2.out).mono ?_
        rintro e w2 ⟨rfl, rfl⟩
        go_wp2_with fail
        go_round
        case rel => exact ⟨k + 1, o + 3, n + 1, by omega, by omega, by omega, by omega, rfl, rfl, by go_num, by go_num, by show _ = _; rw [Hstep.out, List.length_append, hl3.out, ← Ho.out], by show _ = _; rw [Htk.out, escN_snoc, if_neg (by rw [hl3.out]; decide), ← Hn.out]⟩
        case measure => simp [intOf]; omega
    · have hk2 : k = t.length := by omega
      have hoe : o = s.size := by
        have := congrArg List.length hst.out
        rw [tb_length] at this
        rw [this, Ho.out, hk2, List.take_of_length_le (Nat.le_refl _)]
      have hne : Hid (n = escN t) := by show _ = _; rw [Hn.out, hk2, List.take_of_length_le (Nat.le_refl _)]
      have hol : ¬ (o : Int) < s.size := by omega
      have hol' : ¬ o < s.size := by omega
      clear hoe hk2
      by_cases hz : n = 0
      · subst hz
        have hse : Hid (s = ⟨t.toArray⟩) := by
          show _ = _
          rw [← ba_of s, hst.out, encV_none hne.out.symm]
        go_wp2
        go_ret2
        exact ⟨by rw [← hse.out]; rfl, Below.refl _ _⟩
      · have hz1 : ((n : Int) == 0) = false := by rw [beq_eq_false_iff_ne]; omega
        have hRi : (s.size : Int) - 2 * (n : Int) = (t.length : Int) := by have := Hlen.out; rw [← hne.out] at this; omega
        have hBb := heap_alloc_new w (.cells #[.pointer none, .slice none 0 0] 211)
        have hba : Below w.heap.size w (w.alloc (.cells #[.pointer none, .slice none 0 0] 211)) := (Below.refl _ _).alloc (Nat.le_refl _) _
        have hsA : w.heap.size ≤ (w.alloc (.cells #[.pointer none, .slice none 0 0] 211)).heap.size := le_al (Nat.le_refl _)
        have HBb := Lib.hid hBb
        clear hBb
        go_wp2_with (go_at_call 182; refine Hid.out ?_)
        refine Lib.hid ?_
        refine (Tryz.Builder_Grow_fresh w.heap.size w.heap.size t.length _ (Nat.le_refl _) HBb.out hsA (by omega)).mono ?_
        rintro e wg ⟨rfl, hAg, hbg⟩
        have hb0 : Below w.heap.size w wg := hba.trans hbg
        clear hba hbg hsA HBb hz hz1 hRi hne Hn Ho hol hol' hnk hko hos hk hlt
        go_wp2_with fail
        go_loopw [12] (fun i wr => ∃ k o : Nat, k ≤ t.length ∧ o ≤ s.size ∧ k ≤ o ∧ i = .int .i64 o ∧ Hid (o = ((t.take k).flatMap encV).length) ∧ Hid (Lib.BuilderAt 211 5 w.heap.size w.heap.size (.pointer (some ⟨w.heap.size, 0, none⟩)) (Lib.byteCells (t.take k)) wr) ∧ Below w.heap.size w wr) (fun i _ => s.size - (intOf i).toNat)
        case atStart => exact ⟨0, 0, by omega, by omega, by omega, rfl, by show _ = _; simp, by show Lib.BuilderAt _ _ _ _ _ _ _; simpa [Lib.byteCells] using hAg, hb0⟩
        case round =>
          obtain ⟨k, o, hk, hos, hko, rfl, Ho, HA, hb⟩ := hrel
          have hsz := hb.size
          by_cases hlt : k < t.length
          · have hd : Hid (t[k]? = some t[k]) := List.getElem?_eq_getElem hlt
            obtain ⟨b, hbe⟩ : ∃ b, b = t[k] := ⟨_, rfl⟩
            rw [← hbe] at hd
            clear hbe
            have hdrop : (tb s).drop o = encV b ++ (t.drop (k + 1)).flatMap encV := by
              rw [hst.out, Ho.out]
              have e3 : t.flatMap encV = (t.take k).flatMap encV ++ (t.drop k).flatMap encV := by rw [← List.flatMap_append, List.take_append_drop]
              rw [e3, List.drop_left' rfl]
              obtain ⟨hk', e⟩ := List.getElem?_eq_some_iff.1 hd.out
              rw [List.drop_eq_getElem_cons hk', List.flatMap_cons, e]
            have Hstep := Lib.hid (take_flatV hd.out)
            have Hcells : Hid (Lib.byteCells (t.take (k + 1)) = Lib.byteCells (t.take k) ++ [.int .u8 (b.toNat : Int)]) := by
              show _ = _
              rw [take_succ_some hd.out]; simp [Lib.byteCells]
            have Hlim : Hid ((Lib.byteCells (t.take k)).length + 1 ≤ 140737488355328) := by show _ ≤ _; rw [Lib.byteCells_length, List.length_take]; omega
            rcases shape_V b with ⟨e1, hne, hne2⟩ | ⟨e1, -, -, u1, u2⟩
            · rw [e1, List.cons_append, List.nil_append] at hdrop
              obtain ⟨ho, rfl, _⟩ := at_drop hdrop
              have hl1 : Hid ((encV (s[o]'ho)).length = 1) := by show _ = _; rw [e1]; rfl
              have e0 : ((((s[o]'ho).toNat : Nat) : Int) == 37) = false := by
                rw [beq_eq_false_iff_ne]
                intro e
                exact hne (UInt8.toNat_inj.1 (by show _ = 37; omega))
              have e01 : ((((s[o]'ho).toNat : Nat) : Int) == 43) = false := by
                rw [beq_eq_false_iff_ne]
                intro e
                exact hne2 (UInt8.toNat_inj.1 (by show _ = 43; omega))
              clear hne hne2 e1 hdrop
              go_wp2_with (go_at_call 183; refine Hid.out ?_)
              refine Lib.hid ?_
              refine (Tryz.Builder_WriteByte w.heap.size w.heap.size _ _ _ (.inr HA.out) Hlim.out hsz).mono ?_
              rintro e w2 ⟨rfl, hA2, hb2⟩
              have HA2 := Lib.hid hA2
              clear hA2
              go_wp2_with fail
              go_roundw
              case rel => exact ⟨k + 1, o + 1, by omega, by omega, by omega, by go_num, by show _ = _; rw [Hstep.out, List.length_append, hl1.out, ← Ho.out], by rw [Hcells.out]; exact HA2, hb.trans hb2⟩
              case measure => simp [intOf]; omega
            · rw [e1] at hdrop
              obtain ⟨ho, q0, hdrop⟩ := at_drop hdrop
              obtain ⟨ho1, q1, hdrop⟩ := at_drop hdrop
              obtain ⟨ho2, q2, hdrop⟩ := at_drop hdrop
              have hl3 : Hid ((encV b).length = 3) := by show _ = _; rw [e1]; rfl
              rw [← q1] at u1
              rw [← q2] at u2
              have hb16 : b.toNat / 16 ≤ 15 := by have := b.toNat_lt; omega
              have hb15 : b.toNat % 16 ≤ 15 := by omega
              have hor := nib_or8 b
              obtain ⟨m1, hm1⟩ : ∃ m, m = b.toNat / 16 := ⟨_, rfl⟩
              obtain ⟨m2, hm2⟩ : ∃ m, m = b.toNat % 16 := ⟨_, rfl⟩
              rw [← hm1] at u1 hb16
              rw [← hm2] at u2 hb15
              rw [← hm1, ← hm2, Int.natCast_mul] at hor
              have hor : bits .or .u8 ((m1 : Int) * 16) (m2 : Int) = ((b.toNat : Nat) : Int) := hor
              have e0 : ((((s[o]'ho).toNat : Nat) : Int) == 37) = true := by rw [q0]; decide
              have ho2' : (o : Int) + 2 < s.size := by omega
              have ho1' : (o : Int) + 1 < s.size := by omega
              have hw1 := wrap_n (o + 1) (by omega) ((o : Int) + 1) (by omega)
              have hw2 := wrap_n (o + 2) (by omega) ((o : Int) + 2) (by omega)
              have hw3 := wrap_8 (n := m1 * 16) (by omega) ((m1 : Int) * 16) (by omega)
              rw [Int.natCast_mul] at hw3
              have ht1 : ((o : Int) + 1).toNat = o + 1 := by omega
              have ht2 : ((o : Int) + 2).toNat = o + 2 := by omega
              have H1 := Lib.hid u1
              have H2 := Lib.hid u2
              have Hdr := Lib.hid HA.out.drew
              clear e1 q0 q1 q2 hdrop hm1 hm2 u1 u2
              go_wp2_with fail
              have Hal : Hid (w.heap.size ≤ wr.drew.heap.size) := hsz
              go_region_held3 (fun _ => True) (first | exact trivial | go_keep)
                (first | (go_at_call 181; refine (unhex_any _ _).mono ?_; rintro e w2 ⟨rfl, rfl⟩; (first | rw [H1.out] | rw [H2.out] | (simp only [ht1, ht2]; first | rw [H1.out] | rw [H2.out]))) | (go_at_call 183; refine (Tryz.Builder_WriteByte w.heap.size w.heap.size _ _ _ (.inr Hdr.out) Hlim.out Hal.out).mono ?_; rintro e w5 ⟨rfl, hA2, hb2⟩))
              all_goals
                have HA2 := Lib.hid hA2
                clear hA2
                go_wp2_with fail
                go_roundw
                case rel => exact ⟨k + 1, o + 3, by omega, by omega, by omega, by go_num, by show _ = _; rw [Hstep.out, List.length_append, hl3.out, ← Ho.out], by rw [Hcells.out]; exact HA2, hb.drew.trans hb2⟩
                case measure => simp [intOf]; omega
          · have hk2 : k = t.length := by omega
            have hoe : o = s.size := by
              have := congrArg List.length hst.out
              rw [tb_length] at this
              rw [this, Ho.out, hk2, List.take_of_length_le (Nat.le_refl _)]
            have hol : ¬ (o : Int) < s.size := by omega
            have hol' : ¬ o < s.size := by omega
            have HA2 := HA
            rw [hk2, List.take_of_length_le (Nat.le_refl _)] at HA2
            clear hoe hk2
            go_wp2_with (go_at_call 184; refine Hid.out ?_)
            refine Lib.hid ?_
            refine (Tryz.Builder_String_any w.heap.size w.heap.size t _ (.inr HA2.out) hsz).mono ?_
            rintro e w2 ⟨rfl, hb2⟩
            go_wp2_with fail
            go_ret2
            exact ⟨rfl, hb.trans hb2⟩
end Go.Proofs.YtjebgfpcmooniaaGreatDoor
