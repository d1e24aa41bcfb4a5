/- PatchApply: patches that stand where they say. -/
import Derived.Test.YtjebgfpcmooniaaGreatDoorZApDoor
import Derived.Test.YtjebgfpcmooniaaGreatDoorZPad
import Derived.Test.YtjebgfpcmooniaaGreatDoorZCopy
import Derived.Test.YtjebgfpcmooniaaGreatDoorZSpBase
import Derived.Test.YtjebgfpcmooniaaGreatDoorZMathMin
import Derived.Test.YtjebgfpcmooniaaGreatDoorZApStep
import Derived.Deep.RegionHeld3
import Derived.Deep.Light
import Derived.Deep.CutRange
import Derived.Deep.DeepCutAuto
namespace Go.Proofs.YtjebgfpcmooniaaGreatDoor
open Go Go.RowKit

theorem placed_nil {mar : Nat} {t t' : List UInt8} (h : Placed mar t [] t') : t = t' := by cases h; rfl
theorem placed_l2 {mar : Nat} {t t' : List UInt8} {ps : List P} (h : Placed mar t ps t') : ∀ p ∈ ps, p.l2 = (tgtL p.ds).length := by
  induction h with
  | nil => simp
  | cons hs _ ih =>
    intro p hp
    rcases List.mem_cons.1 hp with rfl | hp
    · exact hs.l2
    · exact ih p hp
theorem rep_set {n k : Nat} (h : k < n) : (List.replicate k true ++ List.replicate (n - k) false).set k true = List.replicate (k + 1) true ++ List.replicate (n - (k + 1)) false := by
  obtain ⟨m, rfl⟩ : ∃ m, n = k + 1 + m := ⟨n - (k + 1), by omega⟩
  rw [show k + 1 + m - k = m + 1 by omega, show k + 1 + m - (k + 1) = m by omega, List.set_append_right _ _ (by simp), List.length_replicate, Nat.sub_self, List.replicate_succ (n := m), List.set_cons_zero, List.replicate_succ', List.append_assoc]
  rfl
/-- the contract of PatchSplitMax -/
def SplitSaid : Prop :=
  ∀ (w0 w : World) (gd : Nat) (tmo cost dist : Int) (th de mar bits W Wd M : Nat) (A : Option Addr) (n c : Nat) (L : List (Value × P)) (T T' : List UInt8), SmIn w0 w gd tmo cost dist th de mar bits W Wd M (.slice A n c) L T T' →
    Calls Tryz.prog 97 #[.pointer (some ⟨gd, 0, none⟩), .slice A n c] w (SmPost w0 W Wd M T T')

set_option maxRecDepth 100000 in
theorem papply_nil (gd : Nat) (A : Option Addr) (c : Nat) (t : ByteArray) (t' : List UInt8) (w : World) (h : tb t = t') : Calls Tryz.prog 59 #[.pointer (some ⟨gd, 0, none⟩), .slice A 0 c, .string t] w (PaPost t' w) := by
  have H := Lib.hid h
  clear h
  go_enter Tryz.func59, Tryz.ntmps59
  go_wp2_with fail
  go_ret2
  refine ⟨t, _, [], rfl, H.out, by simp, by simp, ?_, (Below.refl _ _).alloc (Nat.le_refl _) _⟩
  exact ⟨by simp, .inr ⟨w.heap.size, 0, #[], rfl, Nat.le_refl _, heap_alloc_new _ _, Nat.le_refl _, by simp, by simp, by simp⟩⟩

set_option maxRecDepth 100000 in
set_option maxHeartbeats 4000000 in
theorem papply_any (hSp : Hid SplitSaid) : PatchApplySaid := by
  intro φ gd tmo cost dist th de mar bits A n c l t t' w hd hg m1 m8 b1 b2 hr hn hrow hok hpl ht
  by_cases hn0 : n = 0
  · subst hn0
    have hl : l = [] := List.length_eq_zero_iff.1 hr.1
    subst hl
    refine papply_nil gd A c t t' w ?_
    exact placed_nil hpl
  · have hz : ((n : Int) == 0) = false := by rw [beq_eq_false_iff_ne]; omega
    have HPl := Lib.hid hpl
    have HOk := Lib.hid hok
    have HRow := Lib.hid hrow
    have HD := Lib.hid hd
    have hn1 : 0 < n := by omega
    clear hpl hok hrow hd hn0
    go_enter Tryz.func59, Tryz.ntmps59
    go_wp2_with (go_at_call 95; refine Hid.out ?_)
    refine Lib.hid ?_
    refine (copy_any _ A n c l w hr (by omega) HRow (Lib.hid fun x hx => by have := (HOk.out x hx).len; omega)).mono ?_
    rintro e w1 ⟨v1, L1, rfl, hL1, hR1, hb1⟩
    have hLn : L1.length = n := by
      have := congrArg List.length hL1
      rw [List.length_map, List.length_map, hr.1] at this; exact this
    obtain ⟨g1, c1, hv1, -, -⟩ := hR1.pat.shape (by omega)
    rw [hLn] at hv1
    subst hv1
    have hpin : PadIn w.heap.size w1 gd tmo cost dist bits th de mar 3600 120000 32 ⟨g1, 0, none⟩ n c1 L1 (tb t) t' := by
      refine ⟨HD.out.below hb1 hg, hg, hR1, by rw [hL1]; exact HPl.out, by intro e; rw [e] at hLn; simp at hLn; omega, fun p hp => ?_, ?_, m1, m8, by omega, by omega, by omega⟩
      · rw [hL1] at hp
        obtain ⟨y, hy, rfl⟩ := List.mem_map.1 hp
        have k := HOk.out y hy
        obtain ⟨k1, k2, k3, k4⟩ := k.num
        exact ⟨k.op, by have := placed_l2 HPl.out y.2 (List.mem_map_of_mem hy); omega, k.len, k.sz, k1, k2, k3, k4⟩
      · rw [List.length_map, hLn, tb_length]
        have := Nat.mul_le_mul_right 3600 hn
        omega
    have Hpin := Lib.hid hpin
    clear hpin
    go_wp2_with (go_at_call 96; refine Hid.out ?_)
    refine Lib.hid ?_
    refine (pad_any Hpin).mono ?_
    rintro e w2 ⟨nb, L2, rfl, hnb, hR2, hL2, hE2, hs2, hb2⟩
    have hm8 : nb.size ≤ 8 := by omega
    have hnbt : (nb ++ t).size ≤ 4000 := by rw [size_app]; omega
    obtain ⟨T, hT⟩ : ∃ T : ByteArray, T = nb ++ t ++ nb := ⟨_, rfl⟩
    have hTt : Hid (tb T = tb nb ++ (tb t ++ tb nb)) := by show _ = _; rw [hT, tb_append, tb_append, List.append_assoc]
    rw [← hTt.out] at hE2
    have hw2 : Below w.heap.size w w2 := hb1.trans hb2
    have HE2 := Lib.hid hE2
    have HR2 := Lib.hid hR2
    have Hs2 := Lib.hid hs2
    have HT := Lib.hid hT
    have Hnb := Lib.hid hnb
    clear hE2 hR2 hs2 hT hR1 hL1 Hpin hnb
    go_wp2_with (go_at_call 97; refine Hid.out ?_)
    refine Lib.hid ?_
    have HSm : Hid (SmIn w w2 gd tmo cost dist th de mar bits 3681210 122706 120000 (.slice (some ⟨g1, 0, none⟩) n c1) L2 (tb T) (tb nb ++ (t' ++ tb nb))) := by
      have hsm : ∀ x ∈ L2, wtD x.2.ds ≤ 122706 ∧ SmallP 122706 120000 x.2 := fun x hx => by
        obtain ⟨k1, k2⟩ := Hs2.out x hx
        have k3 := szL_max k2
        have k4 : x.2.ds.length * (3600 + 8) ≤ 34 * (3600 + 8) := Nat.mul_le_mul_right _ k1
        refine ⟨by unfold wtD; omega, by omega, fun d hd => by have := k2 d hd; omega⟩
      refine ⟨HD.out.below hw2 hg, hg, HR2.out, hw2, HE2.out, ?_, hsm, m1, m8, b1, b2, by omega, by omega, by omega⟩
      have k1 := wtP_le (ps := L2.map (·.2)) (K := 122706) (fun p hp => by
        obtain ⟨y, hy, rfl⟩ := List.mem_map.1 hp
        exact (hsm y hy).1)
      rw [List.length_map, hL2, hLn] at k1
      have k2 := Nat.mul_le_mul_right (122706 + 1) hn
      omega
    refine (hSp.out w w2 gd tmo cost dist th de mar bits 3681210 122706 120000 (some ⟨g1, 0, none⟩) n c1 L2 (tb T) (tb nb ++ (t' ++ tb nb)) HSm.out).mono ?_
    rintro e w3 ⟨v3, L3, rfl, hR3, hE3, hn3, hs3, hw3⟩
    obtain ⟨A3, c3, hv3, hrd3⟩ := hR3.pat.rd pvP_len
    subst hv3
    have HR3 := Lib.hid hR3
    have HE3 := Lib.hid hE3
    have Hs3 := Lib.hid hs3
    clear hR3 hE3 hs3 HSm HR2 HE2 Hs2
    have hmk := run_make_row' (P := Tryz.prog) 38 4 (.bool false) 1 (by kernel_rfl) (by kernel_rfl) rfl .i64 .i64 L3.length (by omega) (by omega) w3
    go_wp2_with fail
    have hr0 : Hid (OwnL bC 4 1 (w3.alloc (.cells (madeCells #[.bool false] L3.length) 4)) w.heap.size (.slice (some ⟨w3.heap.size, 0, none⟩) L3.length L3.length) (List.replicate 0 true ++ List.replicate (L3.length - 0) false)) := by
      have e : List.replicate 0 true ++ List.replicate (L3.length - 0) false = List.replicate L3.length false := by simp
      have h1 : (List.replicate L3.length false).flatMap bC = List.replicate L3.length (.bool false) := by
        induction L3.length with
        | zero => rfl
        | succ n ih => rw [List.replicate_succ, List.replicate_succ, List.flatMap_cons, ih]; rfl
      show OwnL _ _ _ _ _ _ _
      rw [e]
      refine ⟨by rw [h1]; simp, .inr ⟨w3.heap.size, L3.length, madeCells #[.bool false] L3.length, by rw [List.length_replicate], hw3.size, heap_alloc_new _ _, by simp, by unfold maxLen; omega, by rw [size_madeCells, Nat.mul_one], ?_⟩⟩
      rw [h1, toList_madeCells_one, List.take_of_length_le (by simp)]
    go_loopw [2, 9, 10, 49] (fun v2 v9 v10 v49 wr => ∃ (k : Nat) (Tk : ByteArray), k ≤ L3.length ∧ v49 = .int .i64 k ∧ v9 = .int .i64 k ∧ v10 = .int .i64 0 ∧ v2 = .string Tk ∧ Hid (Ex 120000 (tb Tk) ((L3.map (·.2)).drop k) (tb nb ++ (t' ++ tb nb))) ∧ Hid (OwnL bC 4 1 wr w.heap.size (.slice (some ⟨w3.heap.size, 0, none⟩) L3.length L3.length) (List.replicate k true ++ List.replicate (L3.length - k) false)) ∧ Below w3.heap.size w3 wr) (fun _ _ _ i _ => L3.length - (intOf i).toNat)
    case atStart => exact ⟨0, T, Nat.zero_le _, rfl, rfl, rfl, by rw [HT.out], by show Ex _ _ _ _; rw [List.drop_zero]; exact HE3.out, hr0, (Below.refl _ _).alloc (Nat.le_refl _) _⟩
    case round =>
      obtain ⟨k, Tk, hk, rfl, rfl, rfl, rfl, HEx, HRes, hb⟩ := hrel
      rename World => WA
      by_cases hlt : k < L3.length
      · obtain ⟨ad, x, rfl, hab, hd, c0, c1, c2, c3, c4⟩ := rd_pv (hrd3.below hb) hlt
        have hx := List.mem_of_getElem? hd
        obtain ⟨Ax, cx, hx1, hrx⟩ := (HR3.out.each x hx).rd dP_len
        obtain ⟨hq1, hq2⟩ := Hs3.out x hx
        have hEx := HEx.out
        rw [drop_cons' (d := x.2) (by rw [List.getElem?_map, hd]; rfl)] at hEx
        obtain ⟨s, n1, n2, hA⟩ := ap_here hEx
        obtain ⟨xv, ds, s1, s2, l1, l2⟩ := x
        obtain ⟨a1, a2, a3, a4, a5, a6, a7, a8, a9, a10⟩ := hA
        simp only at hx1 hrx hq1 hq2 c0 c1 c2 c3 c4 a1 a2 a3 a4 a8 a9 a10
        subst hx1 a1
        obtain ⟨tx1, htx1⟩ : ∃ z : ByteArray, z = ⟨(srcL ds).toArray⟩ := ⟨_, rfl⟩
        obtain ⟨tx2, htx2⟩ : ∃ z : ByteArray, z = ⟨(tgtL ds).toArray⟩ := ⟨_, rfl⟩
        have hz1 : tx1.size = n1 := by rw [← tb_length, htx1]; exact a3
        have hz2 : tx2.size = n2 := by rw [← tb_length, htx2]; exact a4
        have hb1 : tb tx1 = srcL ds := by rw [htx1]
        obtain ⟨q, hq⟩ : ∃ q : Nat, (s : Int) + (n1 : Int) = (q : Int) := ⟨s + n1, by omega⟩
        have hqn : q = s + n1 := by omega
        obtain ⟨z, hz⟩ : ∃ z : ByteArray, z = Tk.extract 0 s ++ tx2 ++ Tk.extract q Tk.size := ⟨_, rfl⟩
        have HZ : Hid (Ex 120000 (tb z) ((L3.map (·.2)).drop (k + 1)) (tb nb ++ (t' ++ tb nb))) := by show Ex _ _ _ _; rw [hz, hqn, htx2]; exact a9
        rw [← htx1, ← hqn] at a8
        rw [← hb1] at a10
        have ha0 : (Tk.extract 0 s).size = s := by rw [← tb_length, tb_extract, List.drop_zero, List.length_take, tb_length]; omega
        have ha1 : (Tk.extract q Tk.size).size ≤ 120000 := by rw [← tb_length, tb_extract, List.length_drop, List.length_take, tb_length]; omega
        obtain ⟨za, hza⟩ : ∃ y : ByteArray, y = Tk.extract 0 s ++ tx2 := ⟨_, rfl⟩
        have hzas : za.size ≤ 240000 := by rw [hza, size_app]; omega
        have hcat1 : ∀ w : World, (Op.stringOp .add (Tk.extract 0 s) tx2).run Tryz.prog w = .ok (.string za) w := fun w => by rw [hza]; exact run_string_add_sum w _ _ (by omega)
        have hcat2 : ∀ w : World, (Op.stringOp .add za (Tk.extract q Tk.size)).run Tryz.prog w = .ok (.string z) w := fun w => by rw [hz, ← hza]; exact run_string_add_sum w _ _ (by omega)
        have HT1 : Hid (∀ wX : World, Below w3.heap.size w3 wX → Calls Tryz.prog 82 #[.pointer (some ⟨gd, 0, none⟩), .slice Ax ds.length cx] wX (fun e w' => e = .returned (.string tx1) ∧ Below wX.heap.size wX w')) := fun wX hX => by
          refine (text1_any _ _ _ _ ds _ ((hrx.below hX).more hX.size) (by omega) (Lib.hid fun d hd => by have := hq2 d hd; omega)).mono ?_
          rintro e w' ⟨rfl, h⟩
          exact ⟨by rw [htx1], h⟩
        have HT2 : Hid (∀ wX : World, Below w3.heap.size w3 wX → Calls Tryz.prog 68 #[.pointer (some ⟨gd, 0, none⟩), .slice Ax ds.length cx] wX (fun e w' => e = .returned (.string tx2) ∧ Below wX.heap.size wX w')) := fun wX hX => by
          refine (text2_any _ _ _ _ ds _ ((hrx.below hX).more hX.size) (by omega) (Lib.hid fun d hd => by have := hq2 d hd; omega)).mono ?_
          rintro e w' ⟨rfl, h⟩
          exact ⟨by rw [htx2], h⟩
        have HA10 := Lib.hid a10
        have Hd := Lib.hid hd
        have hqb : q ≤ Tk.size := by omega
        have hsq : s ≤ q := by omega
        have Hqn := Lib.hid hqn
        clear hqn
        clear hd hx hq1 hq2 hEx a2 a3 a4 a9 a10 htx1 htx2 hb1 hrx hz hza
        have hne3' : w3.heap.size < WA.heap.size := (HRes.out.lt _ rfl).2
        have hwA := hb.alloc hb.size (.cells #[.slice Ax ds.length cx, .int .i64 s1, .int .i64 s, .int .i64 l1, .int .i64 l2] 114)
        have hsA : WA.heap.size < (WA.alloc (.cells #[.slice Ax ds.length cx, .int .i64 s1, .int .i64 s, .int .i64 l1, .int .i64 l2] 114)).heap.size := by simp
        have hkA := heap_alloc_new WA (.cells #[.slice Ax ds.length cx, .int .i64 s1, .int .i64 s, .int .i64 l1, .int .i64 l2] 114)
        have HResA := Lib.hid (HRes.out.alloc (.cells #[.slice Ax ds.length cx, .int .i64 s1, .int .i64 s, .int .i64 l1, .int .i64 l2] 114))
        go_wp2_with (go_at_call 82; refine Hid.out ?_)
        refine Lib.hid ?_
        refine (HT1.out _ hwA).mono ?_
        rintro e WC ⟨rfl, hbC⟩
        have hwC := hwA.trans (hbC.mono hwA.size)
        have hkC := (hbC.block _ hsA).trans hkA
        have HResC := Lib.hid (HResA.out.below_size hbC)
        have y5 := blk_cell (HD.out.below (hw3.trans (hwC.mono hw3.size)) hg) 5
        simp at y5
        have hli : (List.replicate k true ++ List.replicate (L3.length - k) false)[k]? = some false := by
          rw [List.getElem?_append_right (by simp), List.length_replicate, Nat.sub_self, List.getElem?_replicate, if_pos (by omega)]
        have hcr : WC.cell? ⟨w3.heap.size, k, none⟩ = some (.bool false) := by
          rw [← addr_add]
          refine HResC.out.at_cells k _ ?_
          have := flat_at bC_len _ k false hli 0 (by omega)
          rw [Nat.mul_one, Nat.add_zero] at this
          exact this
        have hfr : WC.frozen? ⟨w3.heap.size, k, none⟩ = false := own_fro HResC.out k
        clear hwA hsA hkA HResA hbC HRes hb c0 c1 c2 c3 c4 HT1
        have hne3 : w3.heap.size < WA.heap.size := hne3'
        go_upto_if 67 with fail
        go_cut [16, 17] from 53 to 112 (fun v16 v17 wx => (∃ nd, wx = WC.drewN nd) ∧ v16 = .int .i64 s ∧ ∃ z17 : Int, v17 = .int .i64 z17 ∧ (z17 = -1 ∨ ∃ q2 : Nat, z17 = q2 ∧ (q2 : Int) + (bits : Int) = (q : Int)))
        case first =>
          by_cases hbig : n1 ≤ bits
          · have hbig' : ¬ (bits : Int) < (n1 : Int) := by omega
            have hbig2 : (n1 : Int) ≤ (bits : Int) := by omega
            go_wp2_with (go_at_call 98; refine Hid.out ?_)
            refine Lib.hid ?_
            refine (match_at _ Tk tx1 s _ HA10 (by omega)).mono ?_
            rintro e w5 ⟨rfl, rfl⟩
            go_wp2_with fail
            go_meet
            exact ⟨⟨0, rfl⟩, rfl, -1, rfl, .inl rfl⟩
          · have hbig2 : (bits : Int) < (n1 : Int) := by omega
            have hbig3 : bits ≤ n1 := by omega
            obtain ⟨k2, hk2⟩ : ∃ k2 : Nat, (n1 : Int) - (bits : Int) = (k2 : Int) := ⟨n1 - bits, by omega⟩
            obtain ⟨q2, hq2⟩ : ∃ q2 : Nat, (q : Int) - (bits : Int) = (q2 : Int) := ⟨q - bits, by omega⟩
            have hk2b : k2 ≤ n1 := by omega
            have hsq2 : s + k2 = q2 := by omega
            have hs1 : ((s : Int) != -1) = true := by rw [bne_iff_ne]; omega
            have hs2 : ((q2 : Int) == -1) = false := by rw [beq_eq_false_iff_ne]; omega
            have hs3 : ¬ (q2 : Int) ≤ (s : Int) := by omega
            obtain ⟨p1, hp1⟩ : ∃ p : ByteArray, tx1.extract 0 bits = p := ⟨_, rfl⟩
            obtain ⟨p2, hp2⟩ : ∃ p : ByteArray, tx1.extract k2 n1 = p := ⟨_, rfl⟩
            have HM1 : Hid (isAt (tb Tk) (tb p1) s) := by
              show isAt _ _ _
              rw [← hp1, tb_extract, List.drop_zero]
              exact isAt_pre HA10.out (by rw [tb_length]; omega)
            have HM2 : Hid (isAt (tb Tk) (tb p2) q2) := by
              show isAt _ _ _
              rw [← hp2, tb_extract, List.take_of_length_le (by rw [tb_length]; omega), ← hsq2]
              exact isAt_suf HA10.out (by rw [tb_length]; omega)
            have hw1 : IntKind.i64.wrap ((n1 : Int) - (bits : Int)) = (k2 : Int) := by rw [hk2, IntKind.wrap_i64]; omega
            have hw2 : IntKind.i64.wrap ((s : Int) + (n1 : Int)) = (q : Int) := by rw [hq, IntKind.wrap_i64]; omega
            have hw3' : IntKind.i64.wrap ((q : Int) - (bits : Int)) = (q2 : Int) := by rw [hq2, IntKind.wrap_i64]; omega
            have hback : Hid ((q2 : Int) + (bits : Int) = (q : Int)) := by show _ = _; omega
            have hTk9 : Tk.size ≤ 1000000000 := by omega
            clear hsq2 hbig
            go_wp2_with (go_at_call 98; refine Hid.out ?_)
            refine Lib.hid ?_
            refine (match_at _ Tk p1 s _ HM1 hTk9).mono ?_
            rintro e w5 ⟨rfl, rfl⟩
            go_wp2_with fail
            go_quiet (first | (go_at_call 98; exact quiet_l (match_at _ Tk p2 q2 _ HM2 hTk9)))
            go_wp2_with fail
            go_meet
            exact ⟨⟨_, rfl⟩, rfl, q2, rfl, .inr ⟨q2, rfl, hback.out⟩⟩
        case rest =>
          obtain ⟨⟨nd, hnd⟩, rfl, z17, rfl, h17⟩ := hcut
          have H17 := Lib.hid h17
          clear h17
          have hwN := below_drewN hwC nd
          have hkN : (WC.drewN nd).heap[WA.heap.size]? = some (.cells #[.slice Ax ds.length cx, .int .i64 s1, .int .i64 s, .int .i64 l1, .int .i64 l2] 114 (0, 0)) := hkC
          have HResN := Lib.hid (HResC.out.drewN nd)
          have HRes2 := Lib.hid (HResN.out.setAt (i := k) (j := 0) (x' := true) (u := .bool true) bC_len hli (by omega) rfl)
          have y5' : (WC.drewN nd).cell? ⟨gd, 5, none⟩ = some (.int .i64 bits) := y5
          have hcr' : (WC.drewN nd).cell? ⟨w3.heap.size, k, none⟩ = some (.bool false) := hcr
          have hfr' : (WC.drewN nd).frozen? ⟨w3.heap.size, k, none⟩ = false := hfr
          rw [Nat.mul_one, Nat.add_zero, rep_set hlt] at HRes2
          rw [← hnd] at hwN hkN HRes2 y5' hcr' hfr'
          clear hwC hkC HResC HResN y5 hcr hfr hnd hli
          rename World => WN
          have hs1 : ((s : Int) == -1) = false := by rw [beq_eq_false_iff_ne]; omega
          have hw2 : IntKind.i64.wrap ((s : Int) + (n1 : Int)) = (q : Int) := by rw [hq, IntKind.wrap_i64]; omega
          have hcb := conv_back q (by omega)
          go_upto_if 132 with fail
          have hwD : Below w3.heap.size w3 (WN.setCell ⟨w3.heap.size, k, none⟩ (.bool true)) := hwN.setCell (Nat.le_refl _) _
          have hkD := blk_far hkN (show WA.heap.size ≠ (⟨w3.heap.size, k, none⟩ : Addr).block from by show WA.heap.size ≠ w3.heap.size; omega) (.bool true)
          have y5D : (WN.setCell ⟨w3.heap.size, k, none⟩ (.bool true)).cell? ⟨gd, 5, none⟩ = some (.int .i64 bits) := by
            have := blk_cell (HD.out.below (hw3.trans (hwD.mono hw3.size)) hg) 5
            simpa using this
          clear hwN hkN y5' hcr' hfr'
          generalize WN.setCell ⟨w3.heap.size, k, none⟩ (.bool true) = WD at hwD hkD HRes2 y5D ⊢
          go_cut [18] from 113 to 160 (fun v18 wx => v18 = .string tx1 ∧ wx = WD)
          case first =>
            have hs4 : s ≤ Tk.size := by omega
            rcases H17.out with rfl | ⟨q2, rfl, hq3⟩
            · go_wp2_with (go_at_call 99; refine Hid.out ?_)
              refine Lib.hid ?_
              refine (min99_le q Tk.size _ hqb (by omega)).mono ?_
              rintro e w5 ⟨rfl, rfl⟩
              go_wp2_with fail
              go_meet
              exact ⟨rfl, rfl⟩
            · have hs2 : ((q2 : Int) == -1) = false := by rw [beq_eq_false_iff_ne]; omega
              go_wp2_with (go_at_call 99; refine Hid.out ?_)
              refine Lib.hid ?_
              refine (min99_le q Tk.size _ hqb (by omega)).mono ?_
              rintro e w5 ⟨rfl, rfl⟩
              go_wp2_with fail
              go_meet
              exact ⟨rfl, rfl⟩
          case rest =>
            obtain ⟨rfl, hwc⟩ := hcut
            have hwc2 := hwc.symm
            subst hwc2
            have hr1 : (tx1.toList == tx1.toList) = true := by simp
            have hs4 : s ≤ Tk.size := by omega
            have hw4 : IntKind.i64.wrap (q : Int) = (q : Int) := by rw [IntKind.wrap_i64]; omega
            have p0 := blk_cell hkD 0
            simp at p0
            have hwDd : Below w3.heap.size w3 WD.drew := hwD.drew
            have hltD : WA.heap.size < WD.drew.heap.size := (Array.getElem?_eq_some_iff.1 hkD).1
            go_wp2_with fail
            go_region_held3 (fun w' => w'.cell? ⟨WA.heap.size, 0, none⟩ = some (.slice Ax ds.length cx))
              (first | go_keep | exact (hbE.cell hltD).trans (by assumption))
              (first | (go_at_call 68; refine (HT2.out _ hwDd).mono ?_; rintro e WE ⟨rfl, hbE⟩))
            all_goals
              have hwE := hwDd.trans (hbE.mono hwDd.size)
              have HResE := Lib.hid (HRes2.out.drew.below_size hbE)
              go_wp2_with fail
              go_roundw
              case rel => exact ⟨k + 1, z, by omega, by go_num, by go_num, by simp, rfl, HZ, HResE, hwE⟩
              case measure => simp [intOf]; omega
      · have hkn : k = L3.length := by omega
        have hEx := HEx.out
        rw [hkn, List.drop_of_length_le (by simp)] at hEx
        have hTk : tb Tk = tb nb ++ (t' ++ tb nb) := ex_nil hEx
        obtain ⟨st1, st2⟩ := strip hTk
        obtain ⟨t1, ht1⟩ : ∃ t1 : Nat, t1 = t'.length := ⟨_, rfl⟩
        rw [← ht1] at st1 st2
        obtain ⟨e1, he1⟩ : ∃ e1 : Nat, (2 : Int) * (nb.size : Int) = (e1 : Int) := ⟨2 * nb.size, by omega⟩
        obtain ⟨e2, he2⟩ : ∃ e2 : Nat, (nb.size : Int) + (t1 : Int) = (e2 : Int) := ⟨nb.size + t1, by omega⟩
        have hn2 : nb.size + t1 = e2 := by omega
        rw [hn2] at st2
        have he3 : (Tk.size : Int) - (e1 : Int) = (t1 : Int) := by omega
        have he4 : nb.size ≤ e2 := by omega
        have he5 : e2 ≤ Tk.size := by omega
        have hsm := hEx.small
        rw [tb_length] at hsm
        obtain ⟨out, hout⟩ : ∃ y : ByteArray, Tk.extract nb.size e2 = y := ⟨_, rfl⟩
        rw [hout] at st2
        have Hout := Lib.hid st2
        have Hkn := Lib.hid hkn
        clear st1 st2 hTk hEx ht1 hkn hn2
        go_wp2_with fail
        go_ret2
        refine ⟨out, _, List.replicate k true ++ List.replicate (L3.length - k) false, rfl, Hout.out, fun b hb' => ?_, by simp; omega, HRes.out, hw3.trans (hb.mono hw3.size)⟩
        rw [Hkn.out, Nat.sub_self, List.replicate_zero, List.append_nil] at hb'
        exact List.eq_of_mem_replicate hb'
end Go.Proofs.YtjebgfpcmooniaaGreatDoor
