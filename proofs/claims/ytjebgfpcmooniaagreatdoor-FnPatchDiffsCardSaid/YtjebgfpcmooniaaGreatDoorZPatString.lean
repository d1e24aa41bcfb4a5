/- Patch.String: the text of a patch. -/
import Derived.Test.YtjebgfpcmooniaaGreatDoorZEscape
import Derived.Test.YtjebgfpcmooniaaGreatDoorZSame
import Derived.Test.YtjebgfpcmooniaaGreatDoorZDmp
import Derived.Test.YtjebgfpcmooniaaGreatDoorZShelfD
import Derived.Test.YtjebgfpcmooniaaGreatDoorZWriteKept
import Derived.Deep.RegionHeld3
import Derived.Lib.AppendIntMem
import Derived.Lib.BufferOld
import Derived.Lib.ItoaLen
import Derived.Deep.DeepCutAuto
import Derived.Deep.CutBlock
namespace Go.Proofs.YtjebgfpcmooniaaGreatDoor
open Go Go.RowKit

/-- a patch whose text is told here -/
structure TextOk (p : P) : Prop where
  num : NumP p
  op : ∀ d ∈ p.ds, -1 ≤ d.op ∧ d.op ≤ 1
  few : p.ds.length ≤ 40
  sz : ∀ d ∈ p.ds, d.t.size ≤ 4000

theorem enc3 (b : UInt8) : (encQ b).length ≤ 3 := by unfold encQ; split <;> (try split) <;> simp
theorem encU3 (b : UInt8) : (encU b).length ≤ 3 := by unfold encU; split <;> simp
theorem flat3 {f : UInt8 → List UInt8} (hf : ∀ b, (f b).length ≤ 3) (l : List UInt8) : (l.flatMap f).length ≤ 3 * l.length := by
  induction l with
  | nil => simp
  | cons b l ih => rw [List.flatMap_cons, List.length_append, List.length_cons]; have := hf b; omega
theorem flat_le {f : D → List UInt8} {M : Nat} (l : List D) (hf : ∀ d ∈ l, (f d).length ≤ M) : (l.flatMap f).length ≤ l.length * M := by
  induction l with
  | nil => simp
  | cons d l ih =>
    rw [List.flatMap_cons, List.length_append, List.length_cons, Nat.add_mul]
    have := hf d (by simp)
    have := ih fun y hy => hf y (by simp [hy])
    omega
theorem hdr_len {p : P} (h : NumP p) : (hdrL p).length ≤ 60 := by
  have h1 := (spanL_len h.s1.1 h.l1.1 h.s1.2 h.l1.2).2
  have h2 := (spanL_len h.s2.1 h.l2.1 h.s2.2 h.l2.2).2
  unfold hdrL
  simp only [List.length_append, List.length_cons, List.length_nil]
  omega
theorem plusL_length (l : List UInt8) : (plusL l).length = l.length := by simp [plusL]
def rawD (d : D) : List UInt8 := sgn d.op :: (plusL ((tb d.t).flatMap encQ) ++ [10])
theorem rawD_len {d : D} (h : d.t.size ≤ 4000) : (rawD d).length ≤ 12002 := by
  have := flat3 enc3 (tb d.t)
  rw [tb_length] at this
  rw [rawD, List.length_cons, List.length_append, plusL_length, List.length_singleton]
  omega
theorem rawDs_len {p : P} (h : TextOk p) : (p.ds.flatMap rawD).length ≤ 480080 := by
  have h1 := flat_le (f := rawD) p.ds fun d hd => rawD_len (h.sz d hd)
  have h2 := Nat.mul_le_mul_right 12002 h.few
  omega
theorem TextOk.raw {p : P} (h : TextOk p) : (rawP p).length ≤ 500000 := by
  have h1 := rawDs_len h
  have h2 := hdr_len h.num
  unfold rawP
  rw [List.length_append, List.length_cons]
  show _ + ((p.ds.flatMap rawD).length + 1) ≤ _
  omega
theorem TextOk.len {p : P} (h : TextOk p) : (textP p).length ≤ 1000000 := by
  have h1 := flat_le (f := fun d => lineL d ++ [10]) (M := 12002) p.ds fun d hd => by
    have := flat3 encU3 (tb d.t)
    rw [tb_length] at this
    have := h.sz d hd
    simp only [lineL, List.length_append, List.length_cons, List.length_nil]
    omega
  have h2 := Nat.mul_le_mul_right 12002 h.few
  have h3 := hdr_len h.num
  unfold textP
  rw [List.length_append, List.length_cons]
  omega
theorem TextOk.size {p : P} (h : TextOk p) : (⟨(textP p).toArray⟩ : ByteArray).size ≤ 1000000 := h.len

theorem itoa_any (n : Int) (w : World) (h0 : 0 ≤ n) (h1 : n < 100000001) (ht : Tabs w) : Calls Tryz.prog 105 #[.int .i64 n] w fun e w' => ∃ S : ByteArray, e = .returned (.string S) ∧ Hid (tb S = Lib.itoa n) ∧ S.size ≤ 21 ∧ Below w.heap.size w w' :=
  (Tryz.strconv_Itoa n (by omega) (by omega) w ht.dec).mono fun _ _ ⟨he, k, os, hw⟩ => ⟨_, he, rfl, Lib.itoa_length_le n (by omega) (by omega), by rw [hw]; exact Lib.below_grow _ _ (Nat.le_refl _) k os⟩

theorem span_zero {C : ByteArray} {s : Int} (h : tb C = Lib.itoa s) : tb (C ++ ⟨#[44, 48]⟩) = spanL s 0 := by rw [tb_append, h, spanL, if_pos rfl]
theorem span_one {C : ByteArray} {s : Int} (h : tb C = Lib.itoa (s + 1)) : tb C = spanL s 1 := by rw [h, spanL, if_neg (by decide), if_pos rfl]
theorem span_more {C C' : ByteArray} {s n : Int} (h : tb C = Lib.itoa (s + 1)) (h' : tb C' = Lib.itoa n) (h0 : n ≠ 0) (h1 : n ≠ 1) : tb (C ++ ⟨#[44]⟩ ++ C') = spanL s n := by
  rw [tb_append, tb_append, h, h', spanL, if_neg h0, if_neg h1, List.append_assoc]; rfl

theorem sgn_43' {op : Int} (h : op = 1) : [sgn op] = [43] := by subst h; rfl
theorem sgn_45' {op : Int} (h : op = -1) : [sgn op] = [45] := by subst h; rfl
theorem sgn_32' {op : Int} (h : op = 0) : [sgn op] = [32] := by subst h; rfl
theorem sign_buf {B b : Nat} {bs l : List UInt8} {x : UInt8} {w : World} (h : l = [x]) (hb : Lib.IsBuffer 135 5 B b (Lib.byteCells bs ++ Lib.byteCells (⟨#[x]⟩ : ByteArray).data.toList) w) : Lib.IsBuffer 135 5 B b (Lib.byteCells (bs ++ l)) w := by
  rw [h, Lib.byteCells_append]; exact hb

set_option maxRecDepth 100000 in
set_option maxHeartbeats 4000000 in
theorem string_any (g : Nat) (x : Value × P) (w : World) (hg : w.heap[g]? = some (.cells #[x.1, .int .i64 x.2.s1, .int .i64 x.2.s2, .int .i64 x.2.l1, .int .i64 x.2.l2] 114 (0, 0))) (hrow : Rows dP w w.heap.size x) (hok : Hid (TextOk x.2)) (ht : Tabs w) :
    Calls Tryz.prog 92 #[.pointer (some ⟨g, 0, none⟩)] w fun e w' => e = .returned (.string ⟨(textP x.2).toArray⟩) ∧ Below w.heap.size w w' := by
  obtain ⟨xv, ds, s1, s2, l1, l2⟩ := x
  obtain ⟨A, c, hx1, hr⟩ := hrow
  simp only at hx1 hg hr
  subst hx1
  obtain ⟨hn1, hn2, hn3, hn4⟩ := hok.out.num
  simp only at hn1 hn2 hn3 hn4
  have hgl : g < w.heap.size := (Array.getElem?_eq_some_iff.1 hg).1
  have k0 := blk_cell hg 0
  have k1 := blk_cell hg 1
  have k2 := blk_cell hg 2
  have k3 := blk_cell hg 3
  have k4 := blk_cell hg 4
  simp at k0 k1 k2 k3 k4
  have htd : Tabs w.drew := ht.below (Below.refl _ _).drew
  go_enter Tryz.func92, Tryz.ntmps92
  go_upto_if 12 with fail
  go_cut [3] (fun v wx => ∃ C : ByteArray, v = .string C ∧ Hid (tb C = spanL s1 l1) ∧ C.size ≤ 50 ∧ Below w.heap.size w wx)
  case first =>
    by_cases h0 : l1 = 0
    · have e0 : (l1 == 0) = true := by simpa using h0
      have H0 := Lib.hid h0
      clear h0
      go_wp2_with (go_at_call 105; refine Hid.out ?_)
      refine Lib.hid ?_
      refine (itoa_any s1 w hn1.1 (by omega) ht).mono ?_
      rintro e w1 ⟨S, rfl, HS, hS, hb1⟩
      go_wp2_with fail
      go_meet
      case rel => exact ⟨_, rfl, by show _ = _; rw [H0.out]; exact span_zero HS.out, by rw [ByteArray.size_append]; show _ + 2 ≤ 50; omega, hb1⟩
    · have e0 : (l1 == 0) = false := by simpa using h0
      by_cases h1 : l1 = 1
      · have e1 : (l1 == 1) = true := by simpa using h1
        have H1 := Lib.hid h1
        clear h1 h0
        go_wp2_with (go_at_call 105; refine Hid.out ?_)
        refine Lib.hid ?_
        refine (itoa_any (s1 + 1) w (by omega) (by omega) ht).mono ?_
        rintro e w1 ⟨S, rfl, HS, hS, hb1⟩
        go_wp2_with fail
        go_meet
        case rel => exact ⟨_, rfl, by show _ = _; rw [H1.out]; exact span_one HS.out, by omega, hb1⟩
      · have e1 : (l1 == 1) = false := by simpa using h1
        have H0 := Lib.hid h0
        have H1 := Lib.hid h1
        have q1 : 0 ≤ s1 + 1 := by omega
        have q2 : s1 + 1 < 100000001 := by omega
        have q3 : l1 < 100000001 := by omega
        have hwr : IntKind.i64.wrap (s1 + 1) = s1 + 1 := by rw [IntKind.wrap_i64]; omega
        clear h0 h1
        go_wp2_with fail
        go_region_with (first | (go_at_call 105; refine (itoa_any (s1 + 1) _ q1 q2 htd).mono ?_; rintro e wa ⟨Sa, rfl, HSa, hSa, hba⟩; have k3a := (hba.cell (p := ⟨g, 3, none⟩) hgl).trans k3; have hta := htd.below hba) | (go_at_call 105; refine (itoa_any l1 _ hn3.1 q3 hta).mono ?_; rintro e wb ⟨Sb, rfl, HSb, hSb, hbb⟩))
        all_goals (go_wp2_with fail; go_meet)
        all_goals exact ⟨_, rfl, span_more HSa.out HSb.out H0.out H1.out, by rw [ByteArray.size_append, ByteArray.size_append]; show _ + 1 + _ ≤ 50; omega, ((Below.refl _ _).drew.trans hba).trans (hbb.mono hba.size)⟩
  case rest =>
    obtain ⟨C1, rfl, HC1, hC1, hbc⟩ := hcut
    have hglc : g < wc.heap.size := Nat.lt_of_lt_of_le hgl hbc.size
    have k0c := (hbc.cell (p := ⟨g, 0, none⟩) hgl).trans k0
    have k2c := (hbc.cell (p := ⟨g, 2, none⟩) hgl).trans k2
    have k4c := (hbc.cell (p := ⟨g, 4, none⟩) hgl).trans k4
    have htc := ht.below hbc
    have htcd : Tabs wc.drew := htc.below (Below.refl _ _).drew
    have k0' := k0
    clear k0 k1 k2 k3 k4 htd
    go_upto_if 47 with fail
    go_cut [4] (fun v wx => ∃ C : ByteArray, v = .string C ∧ Hid (tb C = spanL s2 l2) ∧ C.size ≤ 50 ∧ Below w.heap.size w wx)
    case first =>
      by_cases h0 : l2 = 0
      · have e0 : (l2 == 0) = true := by simpa using h0
        have H0 := Lib.hid h0
        clear h0
        go_wp2_with (go_at_call 105; refine Hid.out ?_)
        refine Lib.hid ?_
        refine (itoa_any s2 wc hn2.1 (by omega) htc).mono ?_
        rintro e w1 ⟨S, rfl, HS, hS, hb1⟩
        go_wp2_with fail
        go_meet
        case rel => exact ⟨_, rfl, by show _ = _; rw [H0.out]; exact span_zero HS.out, by rw [ByteArray.size_append]; show _ + 2 ≤ 50; omega, hbc.trans (hb1.mono hbc.size)⟩
      · have e0 : (l2 == 0) = false := by simpa using h0
        by_cases h1 : l2 = 1
        · have e1 : (l2 == 1) = true := by simpa using h1
          have H1 := Lib.hid h1
          clear h1 h0
          go_wp2_with (go_at_call 105; refine Hid.out ?_)
          refine Lib.hid ?_
          refine (itoa_any (s2 + 1) wc (by omega) (by omega) htc).mono ?_
          rintro e w1 ⟨S, rfl, HS, hS, hb1⟩
          go_wp2_with fail
          go_meet
          case rel => exact ⟨_, rfl, by show _ = _; rw [H1.out]; exact span_one HS.out, by omega, hbc.trans (hb1.mono hbc.size)⟩
        · have e1 : (l2 == 1) = false := by simpa using h1
          have H0 := Lib.hid h0
          have H1 := Lib.hid h1
          have q1 : 0 ≤ s2 + 1 := by omega
          have q2 : s2 + 1 < 100000001 := by omega
          have q3 : l2 < 100000001 := by omega
          have hwr : IntKind.i64.wrap (s2 + 1) = s2 + 1 := by rw [IntKind.wrap_i64]; omega
          clear h0 h1
          go_wp2_with fail
          go_region_with (first | (go_at_call 105; refine (itoa_any (s2 + 1) _ q1 q2 htcd).mono ?_; rintro e wa ⟨Sa, rfl, HSa, hSa, hba⟩; have k4a := (hba.cell (p := ⟨g, 4, none⟩) hglc).trans k4c; have hta := htcd.below hba) | (go_at_call 105; refine (itoa_any l2 _ hn4.1 q3 hta).mono ?_; rintro e wb ⟨Sb, rfl, HSb, hSb, hbb⟩))
          all_goals (go_wp2_with fail; go_meet)
          all_goals exact ⟨_, rfl, span_more HSa.out HSb.out H0.out H1.out, by rw [ByteArray.size_append, ByteArray.size_append]; show _ + 1 + _ ≤ 50; omega, hbc.trans ((((Below.refl _ _).drew.trans hba).trans (hbb.mono hba.size)).mono hbc.size)⟩

    case rest =>
      obtain ⟨C2, rfl, HC2, hC2, hbd⟩ := hcut
      rename World => WB
      have hbs := hbd.size
      have hgl2 : g < WB.heap.size := Nat.lt_of_lt_of_le hgl hbs
      have k0d := (hbd.cell (p := ⟨g, 0, none⟩) hgl).trans k0'
      have hrd : RdL dP 2 WB w.heap.size A ds.length ds := hr.below hbd
      have htd2 := ht.below hbd
      obtain ⟨HB, hHB⟩ : ∃ HB : ByteArray, (⟨#[64, 64, 32, 45]⟩ : ByteArray) ++ C1 ++ ⟨#[32, 43]⟩ ++ C2 ++ ⟨#[32, 64, 64, 10]⟩ = HB := ⟨_, rfl⟩
      have hHBt : Hid (tb HB = hdrL ⟨ds, s1, s2, l1, l2⟩ ++ [10]) := by
        show _ = _
        rw [← hHB, tb_append, tb_append, tb_append, tb_append, HC1.out, HC2.out, hdrL]
        simp only [List.append_assoc]
        rfl
      have hHBs : HB.size ≤ 120 := by
        rw [← hHB]
        simp only [ByteArray.size_append]
        show 4 + C1.size + 2 + C2.size + 4 ≤ 120
        omega
      have hfr := Lib.hid (Lib.fresh_isBuffer 135 5 WB)
      clear HC1 HC2 hbc htc
      go_wp2_with (go_at_call 91; refine Hid.out ?_)
      refine Lib.hid ?_
      refine (Tryz.Buffer_WriteString WB.heap.size WB.heap.size [] HB _ hfr.out (le_al (Nat.le_refl _)) (by simp) (by show 0 + HB.size ≤ _; omega)).mono ?_
      rintro e w1 ⟨rfl, hbuf1, hb1⟩
      have hbz : Below WB.heap.size WB w1 := ((Below.refl _ _).alloc (Nat.le_refl _) _).trans hb1
      have hbuf1' : Lib.IsBuffer 135 5 WB.heap.size WB.heap.size (Lib.byteCells (tb HB)) w1 := hbuf1
      have k0w := (hbz.cell (p := ⟨g, 0, none⟩) hgl2).trans k0d
      have hfew := hok.out.few
      have hHBl : (tb HB).length ≤ 120 := by rw [tb_length]; exact hHBs
      clear hbuf1 hb1 hHBs hHB k0d k2c k4c k0c hfr
      go_wp2_with fail
      go_loopw [93] (fun i wr => ∃ (k : Nat) (bs : List UInt8), k ≤ ds.length ∧ i = .int .i64 k ∧ bs.length ≤ 120 + k * 12100 ∧ Hid (bs = tb HB ++ (ds.take k).flatMap rawD) ∧ Lib.IsBuffer 135 5 WB.heap.size WB.heap.size (Lib.byteCells bs) wr ∧ Below WB.heap.size WB wr) (fun i _ => ds.length - (intOf i).toNat)
      case atStart => exact ⟨0, tb HB, by omega, rfl, by omega, by show _ = _; simp, hbuf1', hbz⟩
      case round =>
        obtain ⟨k, bs, hk, rfl, hm, Hm, hbuf, hb⟩ := hrel
        have hsz := hb.size
        by_cases hlt : k < ds.length
        · obtain ⟨ad, d, rfl, hab, hd, c0, c1⟩ := rd_dP (hrd.below' hb hbs) hlt
          have hdm := List.mem_of_getElem? hd
          have hopd := hok.out.op d hdm
          have hszd := hok.out.sz d hdm
          have htk := Lib.hid (take_succ_some hd)
          have hbl := hbuf.lt
          have hbuf2 := hbuf.alloc (.cells #[.int .i8 d.op, .string d.t] 128)
          have hb2 : Below WB.heap.size WB (wr.alloc (.cells #[.int .i8 d.op, .string d.t] 128)) := hb.alloc hsz _
          have hh2 := heap_alloc_new wr (.cells #[.int .i8 d.op, .string d.t] 128)
          have hle2 : WB.heap.size ≤ (wr.alloc (.cells #[.int .i8 d.op, .string d.t] 128)).heap.size := le_al hsz
          have hlim : (Lib.byteCells bs).length + 1 ≤ 140737488355328 := by rw [Lib.byteCells_length]; have : k ≤ 40 := by omega
                                                                            omega
          have Hlim := Lib.hid hlim
          clear hd hlim
          go_upto_block 2 with fail
          go_cut [99] (fun _ wx => Lib.IsBuffer 135 5 WB.heap.size WB.heap.size (Lib.byteCells (bs ++ [sgn d.op])) wx ∧ Below WB.heap.size WB wx ∧ wx.heap[wr.heap.size]? = some (.cells #[.int .i8 d.op, .string d.t] 128 (0, 0)))
          case first =>
            have h3 : d.op = 1 ∨ d.op = -1 ∨ d.op = 0 := by omega
            rcases h3 with h | h | h
            · have Hop := Lib.hid h
              have e1 : (d.op == 1) = true := by simp [h]
              clear h hopd
              go_wp2_with (go_at_call 91; refine Hid.out ?_)
              refine Lib.hid ?_
              refine (write_kept WB.heap.size WB.heap.size _ ⟨#[43]⟩ _ hbuf2 hle2 (Lib.byteCells_one _) Hlim.out (by decide)).mono ?_
              rintro e w3 ⟨rfl, hbuf3, hb3, hk3⟩
              go_wp2_with fail
              go_meet
              case rel => exact ⟨sign_buf (sgn_43' Hop.out) hbuf3, hb2.trans hb3, hk3 _ _ hh2 (by simp; omega) (by simp)⟩
            · have Hop := Lib.hid h
              have e1 : (d.op == 1) = false := by simp [h]
              have e2 : (d.op == -1) = true := by simp [h]
              clear h hopd
              go_wp2_with (go_at_call 91; refine Hid.out ?_)
              refine Lib.hid ?_
              refine (write_kept WB.heap.size WB.heap.size _ ⟨#[45]⟩ _ hbuf2 hle2 (Lib.byteCells_one _) Hlim.out (by decide)).mono ?_
              rintro e w3 ⟨rfl, hbuf3, hb3, hk3⟩
              go_wp2_with fail
              go_meet
              case rel => exact ⟨sign_buf (sgn_45' Hop.out) hbuf3, hb2.trans hb3, hk3 _ _ hh2 (by simp; omega) (by simp)⟩
            · have Hop := Lib.hid h
              have e1 : (d.op == 1) = false := by simp [h]
              have e2 : (d.op == -1) = false := by simp [h]
              have e3 : (d.op == 0) = true := by simp [h]
              clear h hopd
              go_wp2_with (go_at_call 91; refine Hid.out ?_)
              refine Lib.hid ?_
              refine (write_kept WB.heap.size WB.heap.size _ ⟨#[32]⟩ _ hbuf2 hle2 (Lib.byteCells_one _) Hlim.out (by decide)).mono ?_
              rintro e w3 ⟨rfl, hbuf3, hb3, hk3⟩
              go_wp2_with fail
              go_meet
              case rel => exact ⟨sign_buf (sgn_32' Hop.out) hbuf3, hb2.trans hb3, hk3 _ _ hh2 (by simp; omega) (by simp)⟩
          case rest =>
            obtain ⟨hbuf3, hb3, hh3⟩ := hcut
            have z0 := blk_cell hh3 0
            have z1 := blk_cell hh3 1
            simp at z0 z1
            have hsz3 : WB.heap.size ≤ wc.heap.size := hb3.size
            have hfl : ((tb d.t).flatMap encQ).length ≤ 12000 := by
              have := flat3 enc3 (tb d.t)
              rw [tb_length] at this
              omega
            have Hfl := Lib.hid hfl
            have Hszd := Lib.hid hszd
            have Hm2 := Lib.hid hm
            clear hfl hszd hm
            go_wp2_with (go_at_call 104; refine Hid.out ?_)
            refine Lib.hid ?_
            refine (query_any d.t wc (by have := Hszd.out; omega) (htd2.below hb3)).mono ?_
            rintro e w4 ⟨rfl, hb4⟩
            go_wp2_with (go_at_call 103; refine Hid.out ?_)
            refine Lib.hid ?_
            refine (replace_any ⟨((tb d.t).flatMap encQ).toArray⟩ w4 (by have := Hfl.out; show ((tb d.t).flatMap encQ).length ≤ _; omega)).mono ?_
            rintro e w5 ⟨rfl, hb5⟩
            have hbuf5 := (hbuf3.old hb4).old hb5
            have hsz5 : WB.heap.size ≤ w5.heap.size := Nat.le_trans hsz3 (Nat.le_trans hb4.size hb5.size)
            have hb5' : Below WB.heap.size WB w5 := (hb3.trans (hb4.mono hsz3)).trans (hb5.mono (Nat.le_trans hsz3 hb4.size))
            obtain ⟨F, hF⟩ : ∃ F : ByteArray, F = ⟨(plusL (tb (⟨((tb d.t).flatMap encQ).toArray⟩ : ByteArray))).toArray⟩ := ⟨_, rfl⟩
            have hFt : Hid (tb F = plusL ((tb d.t).flatMap encQ)) := by show _ = _; rw [hF]
            have hFs : F.size ≤ 12000 := by rw [← tb_length, hFt.out, plusL_length]; exact Hfl.out
            have HFs := Lib.hid hFs
            rw [← hF]
            clear hF hFs
            go_wp2_with (go_at_call 91; refine Hid.out ?_)
            refine Lib.hid ?_
            refine (Tryz.Buffer_WriteString WB.heap.size WB.heap.size _ F w5 hbuf5 hsz5 (Lib.byteCells_one _) (by rw [Lib.byteCells_length, List.length_append, List.length_singleton]; have := Hm2.out; have := HFs.out; omega)).mono ?_
            rintro e w6 ⟨rfl, hbuf6, hb6⟩
            have hsz6 : WB.heap.size ≤ w6.heap.size := Nat.le_trans hsz5 hb6.size
            rw [← Lib.byteCells_append] at hbuf6
            go_wp2_with (go_at_call 91; refine Hid.out ?_)
            refine Lib.hid ?_
            refine (Tryz.Buffer_WriteString WB.heap.size WB.heap.size _ ⟨#[10]⟩ w6 hbuf6 hsz6 (Lib.byteCells_one _) (by rw [Lib.byteCells_length, List.length_append, List.length_append, List.length_singleton, ← Lib.size_eq]; have := Hm2.out; have := HFs.out; show _ + 1 ≤ _; omega)).mono ?_
            rintro e w7 ⟨rfl, hbuf7, hb7⟩
            rw [← Lib.byteCells_append] at hbuf7
            have hrawd : Hid (bs ++ [sgn d.op] ++ F.data.toList ++ (⟨#[10]⟩ : ByteArray).data.toList = bs ++ rawD d) := by
              show _ = _
              rw [show F.data.toList = tb F from rfl, hFt.out, rawD, List.append_assoc, List.append_assoc]
              rfl
            have hlen7 : (bs ++ rawD d).length ≤ 120 + (k + 1) * 12100 := by
              rw [List.length_append]
              have h1 := rawD_len Hszd.out
              have := Hm2.out
              omega
            have Hl7 := Lib.hid hlen7
            clear hlen7
            go_wp2_with fail
            go_roundw
            case rel => exact ⟨k + 1, bs ++ rawD d, by omega, by go_num, Hl7.out, by show _ = _; rw [htk.out, List.flatMap_append, List.flatMap_singleton, Hm.out, List.append_assoc], by rw [← hrawd.out]; exact hbuf7, (hb5'.trans hb6).trans hb7⟩
            case measure => simp [intOf]; omega
        · have hkn : k = ds.length := by omega
          have hraw : Hid (bs = rawP ⟨ds, s1, s2, l1, l2⟩) := by
            show _ = _
            rw [Hm.out, hkn, List.take_length, hHBt.out, rawP, List.append_assoc]
            rfl
          have hrl := hok.out.raw
          go_wp2_with (go_at_call 93; refine Hid.out ?_)
          refine Lib.hid ?_
          refine (Tryz.Buffer_String WB.heap.size WB.heap.size bs wr hbuf).mono ?_
          rintro e w8 ⟨rfl, nd, rfl⟩
          go_wp2_with (go_at_call 107; refine Hid.out ?_)
          refine Lib.hid ?_
          refine (unescape_any ⟨bs.toArray⟩ _ (by rw [hraw.out]; exact Nat.le_trans hrl (by decide))).mono ?_
          rintro e w9 ⟨rfl, hb9⟩
          have hfin : Hid ((⟨(unescL (tb (⟨bs.toArray⟩ : ByteArray))).toArray⟩ : ByteArray) = ⟨(textP ⟨ds, s1, s2, l1, l2⟩).toArray⟩) := by
            show _ = _
            rw [show tb (⟨bs.toArray⟩ : ByteArray) = bs from rfl, hraw.out, unesc_raw hok.out.num]
          rw [hfin.out]
          have hbn : Below WB.heap.size WB (wr.drewN nd) := below_drewN hb nd
          go_wp2_with fail
          go_ret
          exact ⟨rfl, (hbd.trans (hbn.mono hbs)).trans (hb9.mono (Nat.le_trans hbs hbn.size))⟩
end Go.Proofs.YtjebgfpcmooniaaGreatDoor
