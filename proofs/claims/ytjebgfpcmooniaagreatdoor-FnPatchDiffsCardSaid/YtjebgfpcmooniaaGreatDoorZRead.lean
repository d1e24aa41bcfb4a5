/- ReadPatches: the text of patches reads back. -/
import Derived.Test.YtjebgfpcmooniaaGreatDoorZHeader
import Derived.Test.YtjebgfpcmooniaaGreatDoorZUnescd
import Derived.Maps.OwnSet
namespace Go.Proofs.YtjebgfpcmooniaaGreatDoor
open Go Go.RowKit Go.Maps

theorem un83 : Tryz.prog.underlying 83 = some (.map 5 3) := by kernel_rfl
theorem zero3 (w : World) : (zeroValue 3).run Tryz.prog w = .ok (.int .i64 0) w := by kernel_rfl
theorem un5 : Tryz.prog.underlying 5 = some (.int .u8) := by kernel_rfl
theorem un3 : Tryz.prog.underlying 3 = some (.int .i64) := by kernel_rfl

theorem keyed5 : Keyed Tryz.prog 5 := int_keyed un5

/-- the signs of a patch's lines -/
def signs : DataW Unit := (((DataW.map []).put (.int .u8 45) (.lit (.int .i64 (-1)))).put (.int .u8 32) (.lit (.int .i64 0))).put (.int .u8 43) (.lit (.int .i64 1))
theorem sgn_has (op : Int) : Maps.has signs (.int .u8 ((sgn op).toNat : Int)) = true := by
  unfold sgn
  split
  · rfl
  · split <;> rfl
theorem sgn_at {op : Int} (h : -1 ≤ op ∧ op ≤ 1) : signs.atKey (.int .u8 ((sgn op).toNat : Int)) (.lit (.int .i64 0)) = .lit (.int .i64 op) := by
  have : op = -1 ∨ op = 0 ∨ op = 1 := by omega
  rcases this with rfl | rfl | rfl <;> rfl

theorem sgn_wf (op : Int) : (Lit.int .u8 ((sgn op).toNat : Int)).wf = true := by
  unfold sgn
  split
  · rfl
  · split <;> rfl
theorem mem_flat_len {α : Type} {f : α → List UInt8} {l : List α} {x : α} (h : x ∈ l) : (f x).length ≤ (l.flatMap f).length := by
  induction l with
  | nil => cases h
  | cons y l ih =>
    rw [List.flatMap_cons, List.length_append]
    rcases List.mem_cons.1 h with rfl | h
    · omega
    · have := ih h; omega
theorem ba_tb (s : ByteArray) : (⟨(tb s).toArray⟩ : ByteArray) = s := by cases s; simp [tb]

theorem own_last {w : World} {base g n c : Nat} {a : List (Value × P)} {v : Value} {p : P} (h : OwnL pvP 66 5 w base (.slice (some ⟨g, 0, none⟩) n c) (a ++ [(v, p)])) : w.cell? ⟨g, a.length * 5, none⟩ = some v := by
  have hcell := h.at_cells (a.length * 5) v (by
    have := flat_at pvP_len (a ++ [(v, p)]) a.length _ (by rw [List.getElem?_append_right (Nat.le_refl _), Nat.sub_self]; rfl) 0 (by omega)
    rw [Nat.add_zero] at this
    rw [this]; rfl)
  have e : ((⟨g, 0, none⟩ : Addr).add (a.length * 5)) = ⟨g, 0 + a.length * 5, none⟩ := by unfold Addr.add; split <;> simp_all
  rw [e, Nat.zero_add] at hcell
  exact hcell
theorem own_fro {α : Type} {f : α → List Value} {e sz : Nat} {w : World} {base g n c : Nat} {l : List α} (h : OwnL f e sz w base (.slice (some ⟨g, 0, none⟩) n c) l) (i : Nat) : w.frozen? ⟨g, i, none⟩ = false := by
  rcases h.2 with ⟨h0, _⟩ | ⟨g', cap, cur, hv, hb, hg, _⟩
  · cases h0
  · injection hv with hv1 _ _
    injection hv1 with hv1
    injection hv1 with hv1
    subst hv1
    exact blk_frozen hg i

/-- a patch that reads back -/
structure ReadOk (p : P) : Prop where
  num : NumP p
  op : ∀ d ∈ p.ds, -1 ≤ d.op ∧ d.op ≤ 1
  asc : ∀ d ∈ p.ds, ∀ b ∈ tb d.t, b.toNat < 128

theorem item_of {ps : List P} {x : Item} (h : x ∈ items ps) : (∃ p ∈ ps, x = .hdr p) ∨ ∃ p ∈ ps, ∃ d ∈ p.ds, x = .dif d := by
  rw [items, List.mem_flatMap] at h
  obtain ⟨p, hp, hx⟩ := h
  rw [itemsP, List.mem_cons, List.mem_map] at hx
  rcases hx with rfl | ⟨d, hd, rfl⟩
  · exact .inl ⟨p, hp, rfl⟩
  · exact .inr ⟨p, hp, d, hd, rfl⟩

theorem own_cap {α : Type} {f : α → List Value} {e sz : Nat} {w : World} {base : Nat} {A : Option Addr} {n c : Nat} {l : List α} (h : OwnL f e sz w base (.slice A n c) l) : n ≤ c := by
  rcases h.2 with ⟨h0, _⟩ | ⟨g, cap, cur, hv, hb, hg, hnc, _⟩
  · injection h0 with _ h1 h2; omega
  · injection hv with _ h1 h2; omega

def ReadPost (w : World) (ps : List P) (e : Ending) (w' : World) : Prop :=
  ∃ (v : Value) (l' : List (Value × P)), e = .returned (.tuple #[v, .bool true]) ∧ l'.map (·.2) = ps ∧ OwnL pvP 66 5 w' w.heap.size v l' ∧ (∀ x ∈ l', OwnL dI 64 2 w' w.heap.size x.1 x.2.ds) ∧ Below w.heap.size w w'

set_option maxRecDepth 100000 in
set_option maxHeartbeats 4000000 in
theorem read_any (s : ByteArray) (ps : List P) (w : World) (hs : s.size ≤ 40000000) (hst : Hid (tb s = ps.flatMap textP)) (hok : Hid (∀ p ∈ ps, ReadOk p)) :
    Calls Tryz.prog 18 #[.string s] w (ReadPost w ps) := by
  have hmm := @run_makeMap Tryz.prog
  go_enter Tryz.func18, Tryz.ntmps18
  go_wp2_with (go_at_call 50; refine Hid.out ?_)
  refine Lib.hid ?_
  refine (split_any s 10 w (by omega)).mono ?_
  rintro e w1 ⟨v, ll, rfl, hl, hownl, hll, hb1⟩
  rw [hst.out, split_text fun p hp => (hok.out p hp).num] at hl
  obtain ⟨A, c, hv, hrl⟩ := hownl.rd sC_len
  obtain ⟨n0, hn0⟩ : ∃ n, n = (items ps).length := ⟨_, rfl⟩
  have hlen : ll.length = n0 + 1 := by
    have := congrArg List.length hl
    rw [List.length_map, List.length_append, List.length_map] at this
    simpa [hn0] using this
  have hn0' := Lib.hid hn0
  have hcap : n0 ≤ c := by
    rw [hv] at hownl
    have := own_cap hownl
    omega
  have hcap' : (n0 : Int) ≤ (c : Int) := by omega
  rw [hlen] at hrl hv
  subst hv
  obtain ⟨ad, z0, rfl, hab, hz0, hc0⟩ := rd_sC hrl (show n0 < n0 + 1 by omega)
  have hz : tb z0 = [] := by
    have h1 := congrArg (fun q => q[n0]?) hl
    simp only [List.getElem?_map, hz0, Option.map_some] at h1
    rw [List.getElem?_append_right (by rw [List.length_map, ← hn0]; exact Nat.le_refl _), List.length_map, ← hn0, Nat.sub_self] at h1
    injection h1
  have hze : z0.toList.isEmpty = true := by rw [toList_tb, hz]; rfl
  have hnb : n0 ≤ 50000000 := by omega
  have Hl := Lib.hid hl
  have Hll := Lib.hid hlen
  have hsz1 := hb1.size
  clear hl hlen hz0 hn0 hll hz hownl
  go_wp2_with fail
  go_loopw [4, 32] (fun v i wr => ∃ (k : Nat) (l : List (Value × P)), k ≤ n0 ∧ i = .int .i64 k ∧ Hid (RpM w1 k (((items ps).take k).foldl readStep []) v l wr)) (fun _ i _ => n0 - (intOf i).toNat)
  case atStart => exact ⟨0, [], by omega, rfl, RpM.start w1⟩
  case round =>
    obtain ⟨k, l, hk, rfl, Hrp⟩ := hrel
    have hb := Hrp.out.below
    have hsz := hb.size
    by_cases hlt : k < n0
    · obtain ⟨ad', z, he, hab', hz, hc⟩ := rd_sC (hrl.below hb) (show k < n0 + 1 by omega)
      injection he with he
      subst he
      have hki : k < (items ps).length := by rw [← hn0'.out]; exact hlt
      obtain ⟨x, hx⟩ : ∃ x, (items ps)[k]? = some x := ⟨_, List.getElem?_eq_getElem hki⟩
      have hzl : tb z = x.line := by
        have h1 := congrArg (fun q => q[k]?) Hl.out
        simp only [List.getElem?_map, hz, Option.map_some] at h1
        rw [List.getElem?_append_left (by rw [List.length_map]; exact hki), List.getElem?_map, hx] at h1
        injection h1
      have hstep : Hid (((items ps).take (k + 1)).foldl readStep [] = readStep (((items ps).take k).foldl readStep []) x) := by
        show _ = _
        rw [take_succ_some hx, List.foldl_append]; rfl
      have hzs : z.size ≤ s.size := by
        have h1 := mem_flat_len (f := fun x : Item => x.line ++ [10]) (List.mem_of_getElem? hx)
        rw [← text_items, ← hst.out, tb_length, List.length_append, ← hzl, tb_length] at h1
        omega
      rcases item_of (List.mem_of_getElem? hx) with ⟨p, hp, rfl⟩ | ⟨p, hp, d, hd, rfl⟩
      · have hlz : tb z = hdrL p := hzl
        have hz0 : ∃ h0 : 0 < z.size, z[0]'h0 = 64 := by
          have h1 : (tb z)[0]? = some 64 := by rw [hlz]; rfl
          obtain ⟨h2, h3⟩ := List.getElem?_eq_some_iff.1 h1
          exact ⟨by rw [← tb_length]; exact h2, h3⟩
        obtain ⟨hz0, hzc⟩ := hz0
        have hzb : ((((z[0]'hz0).toNat : Nat) : Int) == 64) = true := by rw [hzc]; decide
        have hzi : z.toList.isEmpty = false := by rw [toList_tb, hlz]; rfl
        have Hlz := Lib.hid hlz
        clear hz hzl hlz hx hzc
        go_wp2_with (go_at_call 51; refine Hid.out ?_)
        refine Lib.hid ?_
        refine (header_any z p wr Hlz (Lib.hid (hok.out p hp).num)).mono ?_
        rintro e w2 ⟨rfl, hb2⟩
        go_wp2_with (at_builtin; refine Hid.out ?_)
        refine Lib.hid ?_
        have hsz2 := hb2.size
        have hw1 : w1.heap.size ≤ w2.heap.size := Nat.le_trans hsz hsz2
        have Hon := Lib.hid (((Hrp.out.on hb2).on ((Below.refl _ _).alloc (Nat.le_refl _) (.cells #[.slice none 0 0, .int .i64 p.s1, .int .i64 p.s2, .int .i64 p.l1, .int .i64 p.l2] 66))).on ((Below.refl _ _).alloc (Nat.le_refl _) (.cells #[.slice none 0 0, .int .i64 p.s1, .int .i64 p.s2, .int .i64 p.l1, .int .i64 p.l2] 66)))
        have hll9 := Hrp.out.few.1
        refine wpList_push (P := Tryz.prog) st29 rfl (.tmp 50) (.tmp 52) rfl rfl Hon.out.own (.slice none 0 0, { p with ds := [] }) ⟨w2.heap.size + 1, 0, none⟩ 1 (by rfl) pvP_len (pvP_one _ _ _ _) (by omega) (le_al (le_al hw1)) (cells5_of (heap_alloc_at _ _ _ (by simp))) ?_
        intro g3 c3 w3 hown3 hg3 hat3
        have Hnew := Lib.hid (Hon.out.hdr p hown3 hg3)
        clear Hon hll9
        go_wp2_with fail
        go_roundw
        case rel => exact ⟨k + 1, _, by omega, by go_num, by show RpM _ _ _ _ _ _; rw [hstep.out]; exact Hnew.out⟩
        case measure => simp [intOf]; omega
      · have hlz : tb z = sgn d.op :: (tb d.t).flatMap encU := hzl
        have hopd := (hok.out p hp).op d hd
        have hascd := Lib.hid ((hok.out p hp).asc d hd)
        have hz0 : ∃ h0 : 0 < z.size, z[0]'h0 = sgn d.op := by
          have h1 : (tb z)[0]? = some (sgn d.op) := by rw [hlz]; rfl
          obtain ⟨h2, h3⟩ := List.getElem?_eq_some_iff.1 h1
          exact ⟨by rw [← tb_length]; exact h2, h3⟩
        obtain ⟨hz0, hzc⟩ := hz0
        have hzb : ((((z[0]'hz0).toNat : Nat) : Int) == 64) = false := by
          rw [hzc, beq_eq_false_iff_ne]
          intro e
          exact (sgn_ne d.op).2.2 (UInt8.toNat_inj.1 (by show _ = 64; omega))
        have hzi : z.toList.isEmpty = false := by rw [toList_tb, hlz]; rfl
        have hk0 : 0 < k := by
          rcases Nat.eq_zero_or_pos k with h | h
          · subst h; exact absurd hx (items_first ps d)
          · exact h
        have hlne : l ≠ [] := by
          intro e
          have h1 := Hrp.out.list
          rw [e] at h1
          exact read_some ps k hk0 (by omega) h1.symm
        obtain ⟨a, y, rfl⟩ := dropLast_snoc_some l hlne
        obtain ⟨g, c4, hv4, hg4, _⟩ := Hrp.out.own.shape (by simp)
        rw [List.length_append, List.length_singleton] at hv4
        subst hv4
        have hall : a.length + 1 ≤ k := by have := Hrp.out.few.1; simp at this; exact this
        have Hlz := Lib.hid hlz
        have Hzc := Lib.hid hzc
        have Hall := Lib.hid hall
        have hae : (((a.length + 1 : Nat) : Int) == 0) = false := by simp; omega
        clear hz hzl hlz hx hzc hlne hall
        have hm0 := World.ownsMap_made wr Tryz.prog 5 (plainElem (H := Unit) Tryz.prog 3)
        obtain ⟨m1, hr1, ho1, hg1⟩ := hm0.update keyed5 un83 (by unfold maxLen; omega) (key := .int .u8 45) (val := .int .i64 (-1)) (keyOf_int_mk un5 rfl) (plainElem_int un3 rfl)
        obtain ⟨m2, hr2, ho2, hg2⟩ := ho1.update keyed5 un83 (by unfold maxLen; omega) (key := .int .u8 32) (val := .int .i64 0) (keyOf_int_mk un5 rfl) (plainElem_int un3 rfl)
        obtain ⟨m3, hr3, ho3, hg3⟩ := ho2.update keyed5 un83 (by unfold maxLen; omega) (key := .int .u8 43) (val := .int .i64 1) (keyOf_int_mk un5 rfl) (plainElem_int un3 rfl)
        have hbm : Below wr.heap.size wr m3 := ((((Below.refl _ _).alloc (Nat.le_refl _) _).trans (below_of_gb hg1 (le_al (Nat.le_refl _)) (fun g e => by cases e; exact Nat.le_refl _))).trans (below_of_gb hg2 (Nat.le_trans (le_al (Nat.le_refl _)) hg1.size) (fun g e => by cases e; exact Nat.le_refl _))).trans (below_of_gb hg3 (Nat.le_trans (Nat.le_trans (le_al (Nat.le_refl _)) hg1.size) hg2.size) (fun g e => by cases e; exact Nat.le_refl _))
        have ho3' : m3.ownsMap Tryz.prog 5 (plainElem (H := Unit) Tryz.prog 3) wr.heap.size 3 signs := ho3
        have Ho3 := Lib.hid ho3'
        have Hbm := Lib.hid hbm
        clear hbm ho3'
        go_wp2_with (at_lookup; refine Hid.out ?_)
        refine Lib.hid ?_
        refine wpList_lookup_own_ok_int _ rfl _ _ 83 rfl 5 3 .i64 keyed5 un83 un3 (zero3 _) wr.heap.size 3 signs rfl Ho3.out _ (.int .u8 ((sgn d.op).toNat : Int)) rfl (by rw [Hzc.out]; exact keyOf_int_mk un5 (sgn_wf d.op)) ?_
        intro cc hat hwc
        rw [sgn_at hopd] at hat
        have hcc : d.op = cc := by injection hat with h1; injection h1
        subst hcc
        rw [sgn_has]
        obtain ⟨z1, hz1⟩ : ∃ z1, z.extract 1 z.size = z1 := ⟨_, rfl⟩
        have hzt : tb z1 = (tb d.t).flatMap encU := by
          rw [← hz1, tb_extract, Hlz.out, List.take_of_length_le (by rw [← Hlz.out, tb_length]; exact Nat.le_refl _)]; rfl
        have hz1n : 1 ≤ z.size := hz0
        have hz1s : z1.size ≤ z.size := by rw [← hz1]; simp
        have Hz1s := Lib.hid hz1s
        clear hat hwc hz1s
        go_wp2_with (go_at_call 52; refine Hid.out ?_)
        refine Lib.hid ?_
        refine (unescd_any z1 (tb d.t) m3 (by have := Hz1s.out; omega) (Lib.hid hzt) hascd).mono ?_
        rintro e w4 ⟨rfl, hb4⟩
        rw [ba_tb]
        have Hr4 := Lib.hid ((Hrp.out.on Hbm.out).on hb4)
        obtain ⟨A5, c5, hy1, _⟩ := (Hr4.out.each y (by simp)).rd dI_len
        obtain ⟨yv, yp⟩ := y
        simp only at hy1
        subst hy1
        have hcell' : w4.cell? ⟨g, a.length * 5, none⟩ = some (.slice A5 yp.ds.length c5) := own_last Hr4.out.own
        have hal9 : a.length ≤ 50000000 := by have := Hall.out; omega
        go_wp2_with (at_builtin; refine Hid.out ?_)
        refine Lib.hid ?_
        have Hr5 := Lib.hid (Hr4.out.on ((Below.refl _ _).alloc (Nat.le_refl _) (.cells #[.int .i64 d.op, .string d.t] 64)))
        have hsz4 := Hr4.out.below.size
        have hds9 : yp.ds.length ≤ k := Hr4.out.few.2 _ (List.mem_append.2 (.inr (List.mem_singleton.2 rfl)))
        have hmem : ((Value.slice A5 yp.ds.length c5), yp) ∈ a ++ [((Value.slice A5 yp.ds.length c5), yp)] := by simp
        refine wpList_push (P := Tryz.prog) st25 rfl (.tmp 91) (.tmp 95) rfl rfl (Hr5.out.each _ hmem) d ⟨w4.heap.size, 0, none⟩ 1 (by rfl) dI_len (dI_one _) (Nat.lt_of_le_of_lt hds9 (by omega)) (le_al hsz4) (cells2_of (heap_alloc_new _ _)) ?_
        intro g7 c7 w5 hown5 hg5 hat5
        have Ho5 := Lib.hid (Hr5.out.own.kept hg5 (own_ne Hr5.out.own (Hr5.out.each _ hmem) (by omega)))
        have hcell5 := own_last Ho5.out
        have hfro5 := own_fro Ho5.out (a.length * 5)
        have Hnew := Lib.hid (Hr5.out.dif d hown5 hg5 (by
          rcases hat5 with h | h
          · exact .inl h.symm
          · exact .inr fun q e => by injection e with e; rw [← e, h]; exact Nat.le_refl _))
        clear hcell' hds9 hmem hsz4
        go_wp2_with fail
        go_roundw
        case rel => exact ⟨k + 1, _, by omega, by go_num, by show RpM _ _ _ _ _ _; rw [hstep.out]; exact Hnew.out⟩
        case measure => simp [intOf]; omega
    · have hkn : k = n0 := by omega
      have Hfin := Hrp
      rw [hkn, hn0'.out, List.take_length, read_all, List.nil_append] at Hfin
      go_wp2
      go_ret2
      exact ⟨_, l, rfl, Hfin.out.list, Hfin.out.own.base_le hb1.size, fun x hx => (Hfin.out.each x hx).base_le hb1.size, hb1.trans (Hfin.out.below.mono hb1.size)⟩
end Go.Proofs.YtjebgfpcmooniaaGreatDoor
