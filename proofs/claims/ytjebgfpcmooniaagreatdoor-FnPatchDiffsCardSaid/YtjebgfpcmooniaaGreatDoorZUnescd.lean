/- Unescaped: a text with the writer's own escapes reads back. -/
import Derived.Test.YtjebgfpcmooniaaGreatDoorZTabs
import Derived.Test.YtjebgfpcmooniaaGreatDoorZValidB
import Derived.Deep.RegionHeld3
import Derived.Deep.AppendLies
namespace Go.Proofs.YtjebgfpcmooniaaGreatDoor
open Go Go.RowKit

theorem own_ab {w : World} {base : Nat} {v : Value} {l : List UInt8} (h : OwnL b8 5 1 w base v l) (ha : ∀ b ∈ l, b.toNat < 128) :
    ∃ A c, v = .slice A l.length c ∧ l.length ≤ c ∧ Hid (0 < l.length → ∃ b o, A = some ⟨b, o, none⟩ ∧ AB w b o l.length) := by
  rcases h.2 with ⟨rfl, h0⟩ | ⟨g, cap, cur, rfl, hb, hg, hnc, hrest⟩
  · exact ⟨none, 0, by rw [h0], by omega, fun hp => absurd hp (by omega)⟩
  · refine ⟨_, cap, rfl, hnc, fun _ => ⟨g, 0, rfl, fun i hi => ⟨l[i], ha _ (List.getElem_mem hi), ?_⟩⟩⟩
    have h1 : (l.flatMap b8)[i * 1 + 0]? = (b8 l[i])[0]? := flat_at b8_len l i l[i] (List.getElem?_eq_getElem hi) 0 (by omega)
    have h2 := World.ownsRow.cells (g := g) h rfl i (.int .u8 (l[i].toNat : Int)) (by simpa [b8] using h1)
    have e : ((⟨g, 0, none⟩ : Addr).add i) = ⟨g, 0 + i, none⟩ := by unfold Addr.add; split <;> simp_all
    rw [← e]; exact h2

theorem at_drop {s : ByteArray} {o : Nat} {x : UInt8} {r : List UInt8} (h : (tb s).drop o = x :: r) : ∃ ho : o < s.size, s[o]'ho = x ∧ (tb s).drop (o + 1) = r := by
  have ho : o < s.size := by
    rcases Nat.lt_or_ge o s.size with h' | h'
    · exact h'
    · rw [List.drop_eq_nil_of_le (by rw [tb_length]; exact h')] at h; cases h
  rw [drop_tb s o ho] at h
  injection h with h1 h2
  exact ⟨ho, h1, h2⟩

theorem take_flat {t : List UInt8} {k : Nat} {b : UInt8} (h : t[k]? = some b) : (t.take (k + 1)).flatMap encU = (t.take k).flatMap encU ++ encU b := by
  rw [take_succ_some h, List.flatMap_append]; simp
set_option maxRecDepth 100000 in
theorem nib_or (b : UInt8) : bits .or .i64 ((b.toNat / 16 * 16 : Nat) : Int) ((b.toNat % 16 : Nat) : Int) = ((b.toNat : Nat) : Int) :=
  u8_all (p := fun b => bits .or .i64 ((b.toNat / 16 * 16 : Nat) : Int) ((b.toNat % 16 : Nat) : Int) = ((b.toNat : Nat) : Int)) (by decide +kernel) b
theorem wrap_n (n : Nat) (h : n ≤ 1000000000) (x : Int) (hx : x = (n : Int)) : IntKind.i64.wrap x = (n : Int) := by rw [IntKind.wrap_i64, hx]; omega
theorem wrap_b (b : UInt8) : IntKind.u8.wrap ((b.toNat : Nat) : Int) = ((b.toNat : Nat) : Int) :=
  u8_all (p := fun b => IntKind.u8.wrap ((b.toNat : Nat) : Int) = ((b.toNat : Nat) : Int)) (by decide +kernel) b

set_option maxRecDepth 100000 in
set_option maxHeartbeats 2000000 in
theorem unescd_any (s : ByteArray) (t : List UInt8) (w : World) (hs : s.size ≤ 50000000) (hst : Hid (tb s = t.flatMap encU)) (hasc : Hid (∀ b ∈ t, b.toNat < 128)) :
    Calls Tryz.prog 52 #[.string s] w fun e w' => e = .returned (.tuple #[.string ⟨t.toArray⟩, .bool true]) ∧ Below w.heap.size w w' := by
  go_enter Tryz.func52, Tryz.ntmps52
  go_wp2
  go_loopw [4, 5] (fun v i wr => ∃ k o : Nat, k ≤ t.length ∧ o ≤ s.size ∧ i = .int .i64 o ∧ k ≤ o ∧ Hid (o = ((t.take k).flatMap encU).length) ∧ OwnL b8 5 1 wr w.heap.size v (t.take k) ∧ Below w.heap.size w wr) (fun _ i _ => s.size - (intOf i).toNat)
  case atStart => exact ⟨0, 0, by omega, by omega, rfl, by omega, by show _ = _; simp, OwnL.nil _ _, Below.refl _ _⟩
  case round =>
    obtain ⟨k, o, hk, hos, rfl, hko, Ho, hown, hb⟩ := hrel
    have hsz := hb.size
    have hkl : (t.take k).length = k := by rw [List.length_take]; omega
    by_cases hlt : k < t.length
    · have hd : Hid (t[k]? = some t[k]) := List.getElem?_eq_getElem hlt
      obtain ⟨b, hbe⟩ : ∃ b, b = t[k] := ⟨_, rfl⟩
      rw [← hbe] at hd
      clear hbe
      have hdrop : (tb s).drop o = encU b ++ (t.drop (k + 1)).flatMap encU := by
        rw [hst.out, Ho.out]
        have e3 : t.flatMap encU = (t.take k).flatMap encU ++ (t.drop k).flatMap encU := by rw [← List.flatMap_append, List.take_append_drop]
        rw [e3, List.drop_left' rfl]
        obtain ⟨hk', e⟩ := List.getElem?_eq_some_iff.1 hd.out
        rw [List.drop_eq_getElem_cons hk', List.flatMap_cons, e]
      have Hstep := Lib.hid (take_flat hd.out)
      have Htk := Lib.hid (take_succ_some hd.out)
      rcases shape_U b with ⟨e1, hne⟩ | ⟨e1, h1, h2⟩
      · rw [e1, List.cons_append, List.nil_append] at hdrop
        obtain ⟨ho, rfl, _⟩ := at_drop hdrop
        have hl1 : Hid ((encU (s[o]'ho)).length = 1) := by show _ = _; rw [e1]; rfl
        have e0 : ((((s[o]'ho).toNat : Nat) : Int) != 37) = true := by
          rw [bne_iff_ne]
          intro e
          exact hne (UInt8.toNat_inj.1 (by show _ = 37; omega))
        clear hne e1 hdrop
        go_wp2_with (at_builtin; refine Hid.out ?_)
        refine Lib.hid ?_
        refine wpList_push (P := Tryz.prog) st96 rfl (.tmp 16) (.tmp 20) rfl rfl (hown.alloc _) (s[o]'ho) ⟨wr.heap.size, 0, none⟩ 1 (by rfl) b8_len (b8_one _) (by omega) (le_al hsz) (cells1_of (heap_alloc_new _ _)) ?_
        intro g cap w1 hown1 hg1 hat1
        have hb1 : Below w.heap.size w w1 := (hb.alloc hsz _).grown hg1 (le_al hsz) (fun j hj => (hown.lt j hj).1)
        go_wp2_with fail
        go_roundw
        case rel => exact ⟨k + 1, o + 1, by omega, by omega, by go_num, by omega, by show _ = _; rw [Hstep.out, List.length_append, hl1.out, ← Ho.out], by rw [Htk.out]; rw [hkl] at hown1; exact hown1, hb1⟩
        case measure => simp [intOf]; omega
      · rw [e1] at hdrop
        obtain ⟨ho, q0, hdrop⟩ := at_drop hdrop
        obtain ⟨ho1, q1, hdrop⟩ := at_drop hdrop
        obtain ⟨ho2, q2, hdrop⟩ := at_drop hdrop
        have hl3 : Hid ((encU b).length = 3) := by show _ = _; rw [e1]; rfl
        rw [← q1] at h1
        rw [← q2] at h2
        have hb16 : b.toNat / 16 ≤ 15 := by have := b.toNat_lt; omega
        have hb15 : b.toNat % 16 ≤ 15 := by omega
        obtain ⟨m1, hm1⟩ : ∃ m, m = b.toNat / 16 := ⟨_, rfl⟩
        obtain ⟨m2, hm2⟩ : ∃ m, m = b.toNat % 16 := ⟨_, rfl⟩
        rw [← hm1] at h1 hb16
        rw [← hm2] at h2 hb15
        have hbm : Hid (b.toNat = m1 * 16 + m2) := by show _ = _; omega
        have e0 : ((((s[o]'ho).toNat : Nat) : Int) != 37) = false := by rw [q0]; decide
        have ho2' : (o : Int) + 2 < s.size := by omega
        have ho1' : (o : Int) + 1 < s.size := by omega
        have hge : decide ((s.size : Int) ≤ (o : Int) + 2) = false := by simp; omega
        have g1 : decide ((15 : Int) < (m1 : Int)) = false := by simp; omega
        have g2 : decide ((15 : Int) < (m2 : Int)) = false := by simp; omega
        have hw1 := wrap_n (o + 1) (by omega) ((o : Int) + 1) (by omega)
        have hw2 := wrap_n (o + 2) (by omega) ((o : Int) + 2) (by omega)
        have hw3 := wrap_n (m1 * 16) (by omega) ((m1 : Int) * 16) (by omega)
        have ht1 : ((o : Int) + 1).toNat = o + 1 := by omega
        have ht2 : ((o : Int) + 2).toNat = o + 2 := by omega
        have hor := nib_or b
        rw [← hm1, ← hm2, Int.natCast_mul] at hor
        have hor : bits .or .i64 ((m1 : Int) * 16) (m2 : Int) = ((b.toNat : Nat) : Int) := hor
        have hwb := wrap_b b
        clear e1 q0 q1 q2 hdrop hm1 hm2
        have H1 := Lib.hid h1
        have H2 := Lib.hid h2
        clear h1 h2
        go_wp2_with (go_at_call 89; refine Hid.out ?_)
        refine Lib.hid ?_
        refine (deHex_any _ _).mono ?_
        rintro e w2 ⟨rfl, rfl⟩
        rw [H1.out]
        go_wp2_with (go_at_call 89; refine Hid.out ?_)
        refine Lib.hid ?_
        refine (deHex_any _ _).mono ?_
        rintro e w2 ⟨rfl, rfl⟩
        rw [H2.out]
        go_wp2_with fail
        have Hdr := Lib.hid ((hown.alloc (.cells #[.int .u8 (b.toNat : Int)] 5)).drew)
        have Hk8 : Hid ((t.take k).length < 100000000) := by show _ < _; omega
        have Hal : Hid (w.heap.size ≤ (wr.alloc (.cells #[.int .u8 (b.toNat : Int)] 5)).drew.heap.size) := le_al hsz
        have Hcl : Hid (∀ (j : Nat) (u : Value), (b8 b)[j]? = some u → (wr.alloc (.cells #[.int .u8 (b.toNat : Int)] 5)).drew.cell? ((⟨wr.heap.size, 0, none⟩ : Addr).add j) = some u) := cells1_of (heap_alloc_new wr (.cells #[.int .u8 (b.toNat : Int)] 5))
        go_region_held3 (fun _ => True) (first | exact trivial | go_keep)
          (first | (go_at_call 89; refine (deHex_any _ _).mono ?_; rintro e w2 ⟨rfl, rfl⟩; (first | rw [H1.out] | rw [H2.out] | (simp only [ht1, ht2]; first | rw [H1.out] | rw [H2.out]))) | (refine step_push st96 (by rfl) _ _ (by rfl) (by rfl) Hdr.out b ⟨wr.heap.size, 0, none⟩ 1 (by rfl) b8_len (b8_one _) Hk8.out Hal.out Hcl.out ?_; intro g cap w1 hown1 hg1 hat1))
        all_goals
          have hb1 : Below w.heap.size w w1 := (hb.alloc hsz _).drew.grown hg1 (le_al hsz) (fun j hj => (hown.lt j hj).1)
          go_wp2_with fail
          go_roundw
          case rel => exact ⟨k + 1, o + 3, by omega, by omega, by go_num, by omega, by show _ = _; rw [Hstep.out, List.length_append, hl3.out, ← Ho.out], by rw [Htk.out]; rw [hkl] at hown1; exact hown1, hb1⟩
          case measure => simp [intOf]; omega
    · have hk2 : k = t.length := by omega
      have hoe : o = s.size := by
        have := congrArg List.length hst.out
        rw [tb_length] at this
        rw [this, Ho.out, hk2, List.take_of_length_le (Nat.le_refl _)]
      have hol : ¬ (o : Int) < s.size := by omega
      have hol' : ¬ o < s.size := by omega
      rw [hk2, List.take_of_length_le (Nat.le_refl _)] at hown
      have htl : t.length ≤ 1000000000 := by omega
      clear hoe
      have hcv := conv_bytes hown
      have hcvd := conv_bytes hown.drew
      obtain ⟨A, cA, rfl, hcA, hAB⟩ := own_ab hown hasc.out
      have hABd : Hid (0 < t.length → ∃ b o, A = some ⟨b, o, none⟩ ∧ AB wr.drew b o t.length) := hAB
      go_wp2
      go_region_with (go_at_call 90; refine (valid_any A t.length cA _ hcA htl hABd).mono ?_; rintro e w2 ⟨rfl, hb2⟩; have hcv2 := conv_bytes (hown.drew.below_size hb2))
      all_goals (go_wp2_with fail; go_ret2; exact ⟨rfl, hb.trans (((Below.refl _ _).drew.trans hb2).mono hsz)⟩)
end Go.Proofs.YtjebgfpcmooniaaGreatDoor
