/- Patches made anew: from the thin package's form to the package's. The way to the package's patches, all of them. -/
import Derived.Test.YtjebgfpcmooniaaGreatDoorZSame
namespace Go.Proofs.YtjebgfpcmooniaaGreatDoor
open Go Go.RowKit

theorem madeD_same {d : D} (h : -1 ≤ d.op ∧ d.op ≤ 1) : madeD d = d := by
  obtain ⟨op, t⟩ := d
  simp only at h
  simp only [madeD, opOf]
  congr 1
  split
  · omega
  · split <;> omega
theorem made_same {l : List D} (h : ∀ d ∈ l, -1 ≤ d.op ∧ d.op ≤ 1) : l.map madeD = l := by
  rw [List.map_congr_left (f := madeD) (g := fun d => d) (fun d hd => madeD_same (h d hd)), List.map_id']

set_option maxRecDepth 100000 in
theorem zzpatch_any (A : Option Addr) (n c : Nat) (s1 s2 l1 l2 : Int) (w : World) :
    Calls Tryz.prog 133 #[.slice A n c, .int .i64 s1, .int .i64 s2, .int .i64 l1, .int .i64 l2] w fun e w' => e = .returned (.agg #[.slice A n c, .int .i64 s1, .int .i64 s2, .int .i64 l1, .int .i64 l2]) ∧ Below w.heap.size w w' := by
  go_enter Tryz.func133, Tryz.ntmps133
  go_wp2
  have hb := heap_alloc_new w (.cells #[.slice A n c, .int .i64 s1, .int .i64 s2, .int .i64 l1, .int .i64 l2] 114)
  have hf : Below w.heap.size w (w.alloc (.cells #[.slice A n c, .int .i64 s1, .int .i64 s2, .int .i64 l1, .int .i64 l2] 114)) := (Below.refl _ _).alloc (Nat.le_refl _) _
  generalize w.alloc (.cells #[.slice A n c, .int .i64 s1, .int .i64 s2, .int .i64 l1, .int .i64 l2] 114) = wF at hb hf ⊢
  have z0 := blk_cell hb 0
  have z1 := blk_cell hb 1
  have z2 := blk_cell hb 2
  have z3 := blk_cell hb 3
  have z4 := blk_cell hb 4
  simp at z0 z1 z2 z3 z4
  exact bodyPost_ret (v := .agg #[.slice A n c, .int .i64 s1, .int .i64 s2, .int .i64 l1, .int .i64 l2]) (by simp [results, Tryz.results133, go_sem, z0, z1, z2, z3, z4]) rfl ⟨rfl, hf⟩

set_option maxRecDepth 100000 in
set_option maxHeartbeats 1000000 in
theorem patch_any (A : Option Addr) (n c : Nat) (s1 s2 l1 l2 : Int) (ds : List D) (w : World) (hr : RdL dI 2 w w.heap.size A n ds) (hn : n ≤ 1000000) (hwf : ∀ d ∈ ds, -1 ≤ d.op ∧ d.op ≤ 1) :
    Calls Tryz.prog 94 #[.agg #[.slice A n c, .int .i64 s1, .int .i64 s2, .int .i64 l1, .int .i64 l2]] w fun e w' =>
      ∃ v, e = .returned (.agg #[v, .int .i64 s1, .int .i64 s2, .int .i64 l1, .int .i64 l2]) ∧ OwnL dP 128 2 w' w.heap.size v ds ∧ Below w.heap.size w w' := by
  go_enter Tryz.func94, Tryz.ntmps94
  go_wp2_with fail
  have hr1 : RdL dI 2 ((w.alloc (.cells #[.slice A n c, .int .i64 s1, .int .i64 s2, .int .i64 l1, .int .i64 l2] 66)).alloc (.cells #[.slice none 0 0, .int .i64 0, .int .i64 0, .int .i64 0, .int .i64 0] 114)) w.heap.size A n ds := (hr.alloc (Nat.le_refl _) _).alloc (by simp) _
  have hb := heap_alloc_new w (.cells #[.slice A n c, .int .i64 s1, .int .i64 s2, .int .i64 l1, .int .i64 l2] 66)
  have hb2 := (Below.heap_alloc (w.alloc (.cells #[.slice A n c, .int .i64 s1, .int .i64 s2, .int .i64 l1, .int .i64 l2] 66)) (.cells #[.slice none 0 0, .int .i64 0, .int .i64 0, .int .i64 0, .int .i64 0] 114) w.heap.size (by simp)).trans hb
  have hbe : Below w.heap.size w ((w.alloc (.cells #[.slice A n c, .int .i64 s1, .int .i64 s2, .int .i64 l1, .int .i64 l2] 66)).alloc (.cells #[.slice none 0 0, .int .i64 0, .int .i64 0, .int .i64 0, .int .i64 0] 114)) := ((Below.refl _ _).alloc (Nat.le_refl _) _).alloc (by simp) _
  have hsz : w.heap.size + 2 = ((w.alloc (.cells #[.slice A n c, .int .i64 s1, .int .i64 s2, .int .i64 l1, .int .i64 l2] 66)).alloc (.cells #[.slice none 0 0, .int .i64 0, .int .i64 0, .int .i64 0, .int .i64 0] 114)).heap.size := by simp
  have hr0 := heap_alloc_at (w.alloc (.cells #[.slice A n c, .int .i64 s1, .int .i64 s2, .int .i64 l1, .int .i64 l2] 66)) (.cells #[.slice none 0 0, .int .i64 0, .int .i64 0, .int .i64 0, .int .i64 0] 114) (w.heap.size + 1) (by simp)
  generalize (w.alloc (.cells #[.slice A n c, .int .i64 s1, .int .i64 s2, .int .i64 l1, .int .i64 l2] 66)).alloc (.cells #[.slice none 0 0, .int .i64 0, .int .i64 0, .int .i64 0, .int .i64 0] 114) = W at hr1 hb2 hbe hsz hr0 ⊢
  clear hb
  have hW := Lib.hid hsz
  have y0 := blk_cell hr0 0
  have fy0 := blk_frozen hr0 0
  have y1 := blk_cell hr0 1
  have fy1 := blk_frozen hr0 1
  have y2 := blk_cell hr0 2
  have fy2 := blk_frozen hr0 2
  have y3 := blk_cell hr0 3
  have fy3 := blk_frozen hr0 3
  have y4 := blk_cell hr0 4
  have fy4 := blk_frozen hr0 4
  have x0 := blk_cell hb2 0
  have x1 := blk_cell hb2 1
  have x2 := blk_cell hb2 2
  have x3 := blk_cell hb2 3
  have x4 := blk_cell hb2 4
  simp at x0 x1 x2 x3 x4 y0 y1 y2 y3 y4
  clear hsz
  have hlt : w.heap.size + 1 < W.heap.size := by have := hW.out; omega
  go_region_held3 (fun w' => w'.cell? ⟨w.heap.size, 0, none⟩ = some (.slice A n c) ∧ w'.cell? ⟨w.heap.size, 1, none⟩ = some (.int .i64 s1) ∧ w'.cell? ⟨w.heap.size, 2, none⟩ = some (.int .i64 s2) ∧ w'.cell? ⟨w.heap.size, 3, none⟩ = some (.int .i64 l1) ∧ w'.cell? ⟨w.heap.size, 4, none⟩ = some (.int .i64 l2))
    (first | go_keep | (go_split_ands; exact ⟨(hb4.cell (Nat.lt_of_lt_of_le (Nat.lt_of_succ_lt hlt) hb3.size)).trans (by assumption), (hb4.cell (Nat.lt_of_lt_of_le (Nat.lt_of_succ_lt hlt) hb3.size)).trans (by assumption), (hb4.cell (Nat.lt_of_lt_of_le (Nat.lt_of_succ_lt hlt) hb3.size)).trans (by assumption), (hb4.cell (Nat.lt_of_lt_of_le (Nat.lt_of_succ_lt hlt) hb3.size)).trans (by assumption), (hb4.cell (Nat.lt_of_lt_of_le (Nat.lt_of_succ_lt hlt) hb3.size)).trans (by assumption)⟩) | (go_split_ands; exact ⟨(hb3.cell (Nat.lt_of_succ_lt hlt)).trans (by assumption), (hb3.cell (Nat.lt_of_succ_lt hlt)).trans (by assumption), (hb3.cell (Nat.lt_of_succ_lt hlt)).trans (by assumption), (hb3.cell (Nat.lt_of_succ_lt hlt)).trans (by assumption), (hb3.cell (Nat.lt_of_succ_lt hlt)).trans (by assumption)⟩))
    (first | (go_at_call 49; refine (made_any A n c ds _ ((show RdL dI 2 W.drew w.heap.size A n ds from hr1).more (Nat.le_of_lt (Nat.lt_of_succ_lt hlt))) hn).mono ?_; rintro e w2 ⟨v, rfl, ho, hb3⟩; rw [made_same hwf] at ho; obtain ⟨A2, c2, rfl, hq⟩ := ho.rd dP_len) | (go_at_call 133; refine (zzpatch_any _ _ _ _ _ _ _ _).mono ?_; rintro e w3 ⟨rfl, hb4⟩; have y0 := (hb4.cell (Nat.lt_of_lt_of_le hlt hb3.size)).trans ((hb3.cell hlt).trans y0); have fy0 := (frz hb4 (Nat.lt_of_lt_of_le hlt hb3.size) 0).trans ((frz hb3 hlt 0).trans fy0); have y1 := (hb4.cell (Nat.lt_of_lt_of_le hlt hb3.size)).trans ((hb3.cell hlt).trans y1); have fy1 := (frz hb4 (Nat.lt_of_lt_of_le hlt hb3.size) 1).trans ((frz hb3 hlt 1).trans fy1); have y2 := (hb4.cell (Nat.lt_of_lt_of_le hlt hb3.size)).trans ((hb3.cell hlt).trans y2); have fy2 := (frz hb4 (Nat.lt_of_lt_of_le hlt hb3.size) 2).trans ((frz hb3 hlt 2).trans fy2); have y3 := (hb4.cell (Nat.lt_of_lt_of_le hlt hb3.size)).trans ((hb3.cell hlt).trans y3); have fy3 := (frz hb4 (Nat.lt_of_lt_of_le hlt hb3.size) 3).trans ((frz hb3 hlt 3).trans fy3); have y4 := (hb4.cell (Nat.lt_of_lt_of_le hlt hb3.size)).trans ((hb3.cell hlt).trans y4); have fy4 := (frz hb4 (Nat.lt_of_lt_of_le hlt hb3.size) 4).trans ((frz hb3 hlt 4).trans fy4)))
  go_wp2_with fail
  have ho := ho.below_size hb4
  have r2 := (hb4.block _ (Nat.lt_of_lt_of_le hlt hb3.size)).trans ((hb3.block _ hlt).trans hr0)
  have hsz2 : w.heap.size + 1 < w2.heap.size := Nat.lt_of_lt_of_le hlt hb3.size
  have hso : (Value.slice A2 ds.length c2).ownBlock ≠ some (w.heap.size + 1) := fun e => by have h5 := (ho.lt _ e).1; have h6 : w.heap.size + 1 < W.drew.heap.size := hlt; omega
  have fo : OwnL dP 128 2 (stR w3 (w.heap.size + 1) (.slice A2 ds.length c2) s1 s2 l1 l2) w.heap.size (.slice A2 ds.length c2) ds :=
    (((((ho.base_le (Nat.le_of_lt (Nat.lt_of_succ_lt hlt))).setCell_other hso _).setCell_other hso _).setCell_other hso _).setCell_other hso _).setCell_other hso _
  have fb : Below w.heap.size w (stR w3 (w.heap.size + 1) (.slice A2 ds.length c2) s1 s2 l1 l2) := by
    have h3 : Below w.heap.size w w3 := (hbe.trans ((show Below w.heap.size W W.drew from (Below.refl _ _).drew).trans (hb3.mono (Nat.le_of_lt (Nat.lt_of_succ_lt hlt))))).trans (hb4.mono (Nat.le_of_lt (Nat.lt_of_succ_lt hsz2)))
    exact ((((h3.setCell (by simp) _).setCell (by simp) _).setCell (by simp) _).setCell (by simp) _).setCell (by simp) _
  have fh : (stR w3 (w.heap.size + 1) (.slice A2 ds.length c2) s1 s2 l1 l2).heap[w.heap.size + 1]? = some (.cells #[.slice A2 ds.length c2, .int .i64 s1, .int .i64 s2, .int .i64 l1, .int .i64 l2] 114 (0, 0)) := by
    have e2 := blk_set (blk_set (blk_set (blk_set (blk_set r2 0 (.slice A2 ds.length c2)) 1 (.int .i64 s1)) 2 (.int .i64 s2)) 3 (.int .i64 l1)) 4 (.int .i64 l2)
    simpa [stR] using e2
  change bodyPost _ _ _ _ _ (stR w3 (w.heap.size + 1) (.slice A2 ds.length c2) s1 s2 l1 l2)
  clear r2 ho hb4 hb3 hr0
  generalize stR w3 (w.heap.size + 1) (.slice A2 ds.length c2) s1 s2 l1 l2 = wF at fo fb fh ⊢
  have z0 := blk_cell fh 0
  have z1 := blk_cell fh 1
  have z2 := blk_cell fh 2
  have z3 := blk_cell fh 3
  have z4 := blk_cell fh 4
  simp at z0 z1 z2 z3 z4
  exact bodyPost_ret (v := .agg #[.slice A2 ds.length c2, .int .i64 s1, .int .i64 s2, .int .i64 l1, .int .i64 l2]) (by simp [results, Tryz.results94, go_sem, z0, z1, z2, z3, z4]) rfl ⟨_, rfl, fo, fb⟩
end Go.Proofs.YtjebgfpcmooniaaGreatDoor

namespace Go.Proofs.YtjebgfpcmooniaaGreatDoor
open Go Go.RowKit

/-- patches of the package: they own their rows -/
def AllPost (w : World) (ps : List P) (e : Ending) (w' : World) : Prop :=
  ∃ (v : Value) (l' : List (Value × P)), e = .returned v ∧ l'.map (·.2) = ps ∧ OwnL pvP 114 5  w' w.heap.size v l' ∧ (∀ x ∈ l', OwnL dP 128 2 w' w.heap.size x.1 x.2.ds) ∧ Below w.heap.size w w'

set_option maxRecDepth 100000 in
set_option maxHeartbeats 1000000 in
theorem all_any (A : Option Addr) (n c : Nat) (l : List (Value × P)) (w : World) (hr : RdL pvP 5 w w.heap.size A n l) (hn : n ≤ 1000000)
    (hrow : Hid (∀ x ∈ l, Rows dI w w.heap.size x)) (hwf : Hid (∀ x ∈ l, x.2.ds.length ≤ 1000000 ∧ ∀ d ∈ x.2.ds, -1 ≤ d.op ∧ d.op ≤ 1)) :
    Calls Tryz.prog 55 #[.slice A n c] w (AllPost w (l.map (·.2))) := by
  go_enter Tryz.func55, Tryz.ntmps55
  go_wp2
  go_loopw [3, 8] (fun v i wr => ∃ (k : Nat) (acc : List (Value × P)), k ≤ n ∧ i = .int .i64 k ∧ acc.map (·.2) = (l.map (·.2)).take k ∧ OwnL pvP 114 5  wr w.heap.size v acc ∧ Hid (∀ x ∈ acc, OwnL dP 128 2 wr w.heap.size x.1 x.2.ds) ∧ Below w.heap.size w wr) (fun _ i _ => n - (intOf i).toNat)
  case atStart => exact ⟨0, [], by omega, rfl, rfl, OwnL.nil _ _, by show ∀ x ∈ _, _; simp, Below.refl _ _⟩
  case round =>
    obtain ⟨k, acc, hk, rfl, hacc, hown, heach, hb⟩ := hrel
    have hal : acc.length ≤ k := by
      have := congrArg List.length hacc
      simp at this; omega
    have Hacc := Lib.hid hacc
    clear hacc
    by_cases hlt : k < n
    · obtain ⟨ad, x, rfl, hab, hd, c0, c1, c2, c3, c4⟩ := rd_pv (hr.below hb) hlt
      have hx := List.mem_of_getElem? hd
      obtain ⟨A2, c2', hx1, hrr⟩ := (hrow.out x hx).below hb
      obtain ⟨w1f, w2f⟩ := hwf.out x hx
      obtain ⟨xv, ds, s1, s2, l1, l2⟩ := x
      simp only at hx1 hrr c0 c1 c2 c3 c4 w1f w2f
      subst hx1
      have Hd := Lib.hid hd
      clear hd hx
      have hsz := hb.size
      go_wp2_with (first | (go_at_call 94; refine (patch_any A2 ds.length c2' s1 s2 l1 l2 ds _ ((hrr.alloc hsz _).more (le_al hsz)) w1f w2f).mono ?_; rintro e w2 ⟨v2, rfl, ho2, hb2⟩) | (at_builtin; refine Hid.out ?_))
      refine Lib.hid ?_
      obtain ⟨A3, c3', rfl, _⟩ := ho2.rd dP_len
      have hown2 := (hown.alloc (.cells #[.slice A2 ds.length c2', .int .i64 s1, .int .i64 s2, .int .i64 l1, .int .i64 l2] 66)).below_size hb2
      have hsz2 := hb2.size
      have hsz3 : w.heap.size ≤ w2.heap.size := Nat.le_trans (le_al hsz) hsz2
      refine wpList_push (P := Tryz.prog) st73 rfl (.tmp 12) (.tmp 15) rfl rfl (hown2.alloc _) (.slice A3 ds.length c3', ⟨ds, s1, s2, l1, l2⟩) ⟨w2.heap.size, 0, none⟩ 1 (by rfl) pvP_len (pvP_one _ _ _ _) (by omega) (le_al hsz3) (cells5_of (heap_alloc_new _ _)) ?_
      intro g3 c4' w3 hown3 hg3 hat3
      have hb3 : Below w.heap.size w2 w3 := below_of_gb (gb_trans (gb_alloc (gb_refl _ _) _) hg3 (.inl rfl)) hsz3 (fun g e => (hown.lt g e).1)
      have hb4 : Below w.heap.size w w3 := (hb.alloc hsz _).trans ((hb2.mono (le_al hsz)).trans hb3)
      have heach3 : Hid (∀ x ∈ acc ++ [(Value.slice A3 ds.length c3', (⟨ds, s1, s2, l1, l2⟩ : P))], OwnL dP 128 2 w3 w.heap.size x.1 x.2.ds) := by
        show ∀ x ∈ _, _
        intro x hx
        rcases List.mem_append.1 hx with hx | hx
        · have e1 := ((heach.out x hx).alloc (.cells #[.slice A2 ds.length c2', .int .i64 s1, .int .i64 s2, .int .i64 l1, .int .i64 l2] 66)).below_size hb2
          exact (e1.alloc _).kept hg3 (own_ne e1 hown2 (by omega))
        · rw [List.mem_singleton.1 hx]
          have e1 := (ho2.base_le (le_al hsz)).alloc (.cells #[.slice A3 ds.length c3', .int .i64 s1, .int .i64 s2, .int .i64 l1, .int .i64 l2] 114)
          exact e1.kept hg3 (own_ne (ho2.base_le (le_al hsz)) hown2 (by omega))
      go_wp2_with fail
      go_roundw
      case rel => exact ⟨k + 1, _, by omega, by go_num, by rw [List.map_append, Hacc.out, take_succ_some (x := (⟨ds, s1, s2, l1, l2⟩ : P)) (by rw [List.getElem?_map, Hd.out]; rfl)]; rfl, hown3, heach3, hb4⟩
      case measure => simp [intOf]; omega
    · go_wp2
      go_ret
      have : k = n := by omega
      subst this
      refine ⟨u3, acc, rfl, ?_, hown, heach.out, hb⟩
      rw [Hacc.out, List.take_of_length_le (by rw [List.length_map, hr.1]; omega)]
end Go.Proofs.YtjebgfpcmooniaaGreatDoor
