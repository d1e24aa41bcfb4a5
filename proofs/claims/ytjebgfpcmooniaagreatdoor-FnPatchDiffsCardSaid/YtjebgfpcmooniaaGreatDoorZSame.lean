/- Patches told: from the package's form to the thin package's. Patches told, all of them. A store into a row that the call owns; rows beside each other. No program in sight. Parts and patches that are the same are found to be. -/
import Derived.Test.YtjebgfpcmooniaaGreatDoorZMkBase
namespace Go.Proofs.YtjebgfpcmooniaaGreatDoor
open Go Go.RowKit

set_option maxRecDepth 100000 in
theorem zzdiffs_any (dv : Value) (s1 s2 l1 l2 : Int) (w : World) :
    Calls Tryz.prog 122 #[.agg #[dv, .int .i64 s1, .int .i64 s2, .int .i64 l1, .int .i64 l2]] w fun e w' => e = .returned dv ∧ Below w.heap.size w w' := by
  go_enter Tryz.func122, Tryz.ntmps122
  go_wp2
  go_ret
  exact ⟨rfl, (Below.refl _ _).alloc (Nat.le_refl _) _⟩

theorem frz {w w' : World} {b B : Nat} (hb : Below B w w') (h : b < B) (i : Nat) : w'.frozen? ⟨b, i, none⟩ = w.frozen? ⟨b, i, none⟩ := by simp only [World.frozen?, hb.block b h]

set_option maxRecDepth 100000 in
set_option maxHeartbeats 1000000 in
theorem told_any (A : Option Addr) (n c : Nat) (s1 s2 l1 l2 : Int) (ds : List D) (w : World) (hr : RdL dP 2 w w.heap.size A n ds) (hn : n ≤ 1000000) (hwf : ∀ d ∈ ds, -1 ≤ d.op ∧ d.op ≤ 1) :
    Calls Tryz.prog 79 #[.agg #[.slice A n c, .int .i64 s1, .int .i64 s2, .int .i64 l1, .int .i64 l2]] w fun e w' =>
      ∃ v, e = .returned (.agg #[v, .int .i64 s1, .int .i64 s2, .int .i64 l1, .int .i64 l2]) ∧ OwnL dI 64 2 w' w.heap.size v ds ∧ Below w.heap.size w w' := by
  go_enter Tryz.func79, Tryz.ntmps79
  go_wp2_with fail
  have hr1 : RdL dP 2 ((w.alloc (.cells #[.slice A n c, .int .i64 s1, .int .i64 s2, .int .i64 l1, .int .i64 l2] 114)).alloc (.cells #[.slice none 0 0, .int .i64 0, .int .i64 0, .int .i64 0, .int .i64 0] 66)) w.heap.size A n ds := (hr.alloc (Nat.le_refl _) _).alloc (by simp) _
  have hb := heap_alloc_new w (.cells #[.slice A n c, .int .i64 s1, .int .i64 s2, .int .i64 l1, .int .i64 l2] 114)
  have hb2 := (Below.heap_alloc (w.alloc (.cells #[.slice A n c, .int .i64 s1, .int .i64 s2, .int .i64 l1, .int .i64 l2] 114)) (.cells #[.slice none 0 0, .int .i64 0, .int .i64 0, .int .i64 0, .int .i64 0] 66) w.heap.size (by simp)).trans hb
  have hbe : Below w.heap.size w ((w.alloc (.cells #[.slice A n c, .int .i64 s1, .int .i64 s2, .int .i64 l1, .int .i64 l2] 114)).alloc (.cells #[.slice none 0 0, .int .i64 0, .int .i64 0, .int .i64 0, .int .i64 0] 66)) := ((Below.refl _ _).alloc (Nat.le_refl _) _).alloc (by simp) _
  have hsz : w.heap.size + 2 = ((w.alloc (.cells #[.slice A n c, .int .i64 s1, .int .i64 s2, .int .i64 l1, .int .i64 l2] 114)).alloc (.cells #[.slice none 0 0, .int .i64 0, .int .i64 0, .int .i64 0, .int .i64 0] 66)).heap.size := by simp
  have hr0 := heap_alloc_at (w.alloc (.cells #[.slice A n c, .int .i64 s1, .int .i64 s2, .int .i64 l1, .int .i64 l2] 114)) (.cells #[.slice none 0 0, .int .i64 0, .int .i64 0, .int .i64 0, .int .i64 0] 66) (w.heap.size + 1) (by simp)
  generalize (w.alloc (.cells #[.slice A n c, .int .i64 s1, .int .i64 s2, .int .i64 l1, .int .i64 l2] 114)).alloc (.cells #[.slice none 0 0, .int .i64 0, .int .i64 0, .int .i64 0, .int .i64 0] 66) = W at hr1 hb2 hbe hsz hr0 ⊢
  clear hb
  have hW := Lib.hid hsz
  have y0 := blk_cell hr0 0
  have fy0 := blk_frozen hr0 0
  have y1 := blk_cell hr0 1
  have fy1 := blk_frozen hr0 1
  have y2 := blk_cell hr0 2
  have fy2 := blk_frozen hr0 2
  have y3 := blk_cell hr0 3
  have fy3 := blk_frozen hr0 3
  have y4 := blk_cell hr0 4
  have fy4 := blk_frozen hr0 4
  have x0 := blk_cell hb2 0
  have x1 := blk_cell hb2 1
  have x2 := blk_cell hb2 2
  have x3 := blk_cell hb2 3
  have x4 := blk_cell hb2 4
  simp at x0 x1 x2 x3 x4 y0 y1 y2 y3 y4
  clear hsz
  have hlt : w.heap.size + 1 < W.heap.size := by have := hW.out; omega
  go_region_held3 (fun w' => w'.cell? ⟨w.heap.size, 0, none⟩ = some (.slice A n c) ∧ w'.cell? ⟨w.heap.size, 1, none⟩ = some (.int .i64 s1) ∧ w'.cell? ⟨w.heap.size, 2, none⟩ = some (.int .i64 s2) ∧ w'.cell? ⟨w.heap.size, 3, none⟩ = some (.int .i64 l1) ∧ w'.cell? ⟨w.heap.size, 4, none⟩ = some (.int .i64 l2))
    (first | go_keep | (go_split_ands; exact ⟨(hb4.cell (Nat.lt_of_lt_of_le (Nat.lt_of_succ_lt hlt) hb3.size)).trans (by assumption), (hb4.cell (Nat.lt_of_lt_of_le (Nat.lt_of_succ_lt hlt) hb3.size)).trans (by assumption), (hb4.cell (Nat.lt_of_lt_of_le (Nat.lt_of_succ_lt hlt) hb3.size)).trans (by assumption), (hb4.cell (Nat.lt_of_lt_of_le (Nat.lt_of_succ_lt hlt) hb3.size)).trans (by assumption), (hb4.cell (Nat.lt_of_lt_of_le (Nat.lt_of_succ_lt hlt) hb3.size)).trans (by assumption)⟩) | (go_split_ands; exact ⟨(hb3.cell (Nat.lt_of_succ_lt hlt)).trans (by assumption), (hb3.cell (Nat.lt_of_succ_lt hlt)).trans (by assumption), (hb3.cell (Nat.lt_of_succ_lt hlt)).trans (by assumption), (hb3.cell (Nat.lt_of_succ_lt hlt)).trans (by assumption), (hb3.cell (Nat.lt_of_succ_lt hlt)).trans (by assumption)⟩))
    (first | (go_at_call 122; refine (zzdiffs_any _ _ _ _ _ _).mono ?_; rintro e w2 ⟨rfl, hb3⟩) | (go_at_call 67; refine (list_any A n c ds _ (((show RdL dP 2 W.drew w.heap.size A n ds from hr1).below' hb3 (Nat.le_of_lt (Nat.lt_of_succ_lt hlt))).more (Nat.le_trans (Nat.le_of_lt (Nat.lt_of_succ_lt hlt)) hb3.size)) hn hwf).mono ?_; rintro e w3 ⟨v, rfl, ho, hb4⟩; obtain ⟨A2, c2, rfl, hq⟩ := ho.rd dI_len; have y0 := (hb4.cell (Nat.lt_of_lt_of_le hlt hb3.size)).trans ((hb3.cell hlt).trans y0); have fy0 := (frz hb4 (Nat.lt_of_lt_of_le hlt hb3.size) 0).trans ((frz hb3 hlt 0).trans fy0); have y1 := (hb4.cell (Nat.lt_of_lt_of_le hlt hb3.size)).trans ((hb3.cell hlt).trans y1); have fy1 := (frz hb4 (Nat.lt_of_lt_of_le hlt hb3.size) 1).trans ((frz hb3 hlt 1).trans fy1); have y2 := (hb4.cell (Nat.lt_of_lt_of_le hlt hb3.size)).trans ((hb3.cell hlt).trans y2); have fy2 := (frz hb4 (Nat.lt_of_lt_of_le hlt hb3.size) 2).trans ((frz hb3 hlt 2).trans fy2); have y3 := (hb4.cell (Nat.lt_of_lt_of_le hlt hb3.size)).trans ((hb3.cell hlt).trans y3); have fy3 := (frz hb4 (Nat.lt_of_lt_of_le hlt hb3.size) 3).trans ((frz hb3 hlt 3).trans fy3); have y4 := (hb4.cell (Nat.lt_of_lt_of_le hlt hb3.size)).trans ((hb3.cell hlt).trans y4); have fy4 := (frz hb4 (Nat.lt_of_lt_of_le hlt hb3.size) 4).trans ((frz hb3 hlt 4).trans fy4)))
  go_wp2_with fail
  have r2 := (hb4.block _ (Nat.lt_of_lt_of_le hlt hb3.size)).trans ((hb3.block _ hlt).trans hr0)
  have hsz2 : w.heap.size + 1 < w2.heap.size := Nat.lt_of_lt_of_le hlt hb3.size
  have hso : (Value.slice A2 ds.length c2).ownBlock ≠ some (w.heap.size + 1) := fun e => by have := (ho.lt _ e).1; omega
  have fo : OwnL dI 64 2 (stR w3 (w.heap.size + 1) (.slice A2 ds.length c2) s1 s2 l1 l2) w.heap.size (.slice A2 ds.length c2) ds :=
    (((((ho.base_le (by omega)).setCell_other hso _).setCell_other hso _).setCell_other hso _).setCell_other hso _).setCell_other hso _
  have fb : Below w.heap.size w (stR w3 (w.heap.size + 1) (.slice A2 ds.length c2) s1 s2 l1 l2) := by
    have h3 : Below w.heap.size w w3 := (hbe.trans ((show Below w.heap.size W W.drew from (Below.refl _ _).drew).trans (hb3.mono (Nat.le_of_lt (Nat.lt_of_succ_lt hlt))))).trans (hb4.mono (Nat.le_of_lt (Nat.lt_of_succ_lt hsz2)))
    exact ((((h3.setCell (by simp) _).setCell (by simp) _).setCell (by simp) _).setCell (by simp) _).setCell (by simp) _
  have fh : (stR w3 (w.heap.size + 1) (.slice A2 ds.length c2) s1 s2 l1 l2).heap[w.heap.size + 1]? = some (.cells #[.slice A2 ds.length c2, .int .i64 s1, .int .i64 s2, .int .i64 l1, .int .i64 l2] 66 (0, 0)) := by
    have e2 := blk_set (blk_set (blk_set (blk_set (blk_set r2 0 (.slice A2 ds.length c2)) 1 (.int .i64 s1)) 2 (.int .i64 s2)) 3 (.int .i64 l1)) 4 (.int .i64 l2)
    simpa [stR] using e2
  change bodyPost _ _ _ _ _ (stR w3 (w.heap.size + 1) (.slice A2 ds.length c2) s1 s2 l1 l2)
  clear r2 ho hb4 hb3 hr0
  generalize stR w3 (w.heap.size + 1) (.slice A2 ds.length c2) s1 s2 l1 l2 = wF at fo fb fh ⊢
  have z0 := blk_cell fh 0
  have z1 := blk_cell fh 1
  have z2 := blk_cell fh 2
  have z3 := blk_cell fh 3
  have z4 := blk_cell fh 4
  simp at z0 z1 z2 z3 z4
  exact bodyPost_ret (v := .agg #[.slice A2 ds.length c2, .int .i64 s1, .int .i64 s2, .int .i64 l1, .int .i64 l2]) (by simp [results, Tryz.results79, go_sem, z0, z1, z2, z3, z4]) rfl ⟨_, rfl, fo, fb⟩
end Go.Proofs.YtjebgfpcmooniaaGreatDoor

namespace Go.Proofs.YtjebgfpcmooniaaGreatDoor
open Go Go.RowKit

theorem st29 : STy Tryz.prog 29 66 5 56 := STy.mk' (by kernel_rfl) (show _ = some (some (.agg #[.slice none 0 0, .int .i64 0, .int .i64 0, .int .i64 0, .int .i64 0]), 5, 56) from by kernel_rfl) rfl (by omega) (by omega)

theorem rd_pv {w : World} {B : Nat} {A : Option Addr} {n k : Nat} {l : List (Value × P)} (h : RdL pvP 5 w B A n l) (hk : k < n) :
    ∃ ad x, A = some ad ∧ ad.block < B ∧ l[k]? = some x ∧ w.cell? (ad.add (k * 5)) = some x.1 ∧ w.cell? ⟨(ad.add (k * 5)).block, (ad.add (k * 5)).off + 1, none⟩ = some (.int .i64 x.2.s1) ∧ w.cell? ⟨(ad.add (k * 5)).block, (ad.add (k * 5)).off + 2, none⟩ = some (.int .i64 x.2.s2) ∧
      w.cell? ⟨(ad.add (k * 5)).block, (ad.add (k * 5)).off + 3, none⟩ = some (.int .i64 x.2.l1) ∧ w.cell? ⟨(ad.add (k * 5)).block, (ad.add (k * 5)).off + 4, none⟩ = some (.int .i64 x.2.l2) := by
  obtain ⟨ad, x, rfl, hab, hx, hc⟩ := h.at_ hk
  exact ⟨ad, x, rfl, hab, hx, by simpa [add_zero'] using hc 0 _ rfl, by simpa [Addr.add] using hc 1 _ rfl, by simpa [Addr.add] using hc 2 _ rfl, by simpa [Addr.add] using hc 3 _ rfl, by simpa [Addr.add] using hc 4 _ rfl⟩

/-- patches that can be read: the row of each lies at hand -/
def Rows (f : D → List Value) (w : World) (B : Nat) (x : Value × P) : Prop := ∃ A c, x.1 = .slice A x.2.ds.length c ∧ RdL f 2 w B A x.2.ds.length x.2.ds
theorem Rows.below {f : D → List Value} {w w' : World} {B : Nat} {x : Value × P} (h : Rows f w B x) (hb : Below B w w') : Rows f w' B x := by
  obtain ⟨A, c, e, hr⟩ := h
  exact ⟨A, c, e, hr.below hb⟩
theorem Rows.more {f : D → List Value} {w : World} {B B' : Nat} {x : Value × P} (h : Rows f w B x) (hB : B ≤ B') : Rows f w B' x := by
  obtain ⟨A, c, e, hr⟩ := h
  exact ⟨A, c, e, hr.more hB⟩
theorem Rows.of_own {f : D → List Value} {e base : Nat} {w : World} {x : Value × P} (hf : ∀ x, (f x).length = 2) (h : OwnL f e 2 w base x.1 x.2.ds) : Rows f w w.heap.size x := by
  obtain ⟨A, c, hv, hr⟩ := h.rd hf
  exact ⟨A, c, hv, hr⟩

/-- patches of the thin package: they own their rows -/
def ToldPost (w : World) (ps : List P) (e : Ending) (w' : World) : Prop :=
  ∃ (v : Value) (l' : List (Value × P)), e = .returned v ∧ l'.map (·.2) = ps ∧ OwnL pvP 66 5 w' w.heap.size v l' ∧ (∀ x ∈ l', OwnL dI 64 2 w' w.heap.size x.1 x.2.ds) ∧ Below w.heap.size w w'

set_option maxRecDepth 100000 in
set_option maxHeartbeats 1000000 in
theorem patches_any (A : Option Addr) (n c : Nat) (l : List (Value × P)) (w : World) (hr : RdL pvP 5 w w.heap.size A n l) (hn : n ≤ 1000000)
    (hrow : Hid (∀ x ∈ l, Rows dP w w.heap.size x)) (hwf : Hid (∀ x ∈ l, x.2.ds.length ≤ 1000000 ∧ ∀ d ∈ x.2.ds, -1 ≤ d.op ∧ d.op ≤ 1)) :
    Calls Tryz.prog 46 #[.slice A n c] w (ToldPost w (l.map (·.2))) := by
  go_enter Tryz.func46, Tryz.ntmps46
  go_wp2
  go_loopw [3, 8] (fun v i wr => ∃ (k : Nat) (acc : List (Value × P)), k ≤ n ∧ i = .int .i64 k ∧ acc.map (·.2) = (l.map (·.2)).take k ∧ OwnL pvP 66 5 wr w.heap.size v acc ∧ Hid (∀ x ∈ acc, OwnL dI 64 2 wr w.heap.size x.1 x.2.ds) ∧ Below w.heap.size w wr) (fun _ i _ => n - (intOf i).toNat)
  case atStart => exact ⟨0, [], by omega, rfl, rfl, OwnL.nil _ _, by show ∀ x ∈ _, _; simp, Below.refl _ _⟩
  case round =>
    obtain ⟨k, acc, hk, rfl, hacc, hown, heach, hb⟩ := hrel
    have hal : acc.length ≤ k := by
      have := congrArg List.length hacc
      simp at this; omega
    have Hacc := Lib.hid hacc
    clear hacc
    by_cases hlt : k < n
    · obtain ⟨ad, x, rfl, hab, hd, c0, c1, c2, c3, c4⟩ := rd_pv (hr.below hb) hlt
      have hx := List.mem_of_getElem? hd
      obtain ⟨A2, c2', hx1, hrr⟩ := (hrow.out x hx).below hb
      obtain ⟨w1f, w2f⟩ := hwf.out x hx
      obtain ⟨xv, ds, s1, s2, l1, l2⟩ := x
      simp only at hx1 hrr c0 c1 c2 c3 c4 w1f w2f
      subst hx1
      have Hd := Lib.hid hd
      clear hd hx
      have hsz := hb.size
      go_wp2_with (first | (go_at_call 79; refine (told_any A2 ds.length c2' s1 s2 l1 l2 ds _ ((hrr.alloc hsz _).more (le_al hsz)) w1f w2f).mono ?_; rintro e w2 ⟨v2, rfl, ho2, hb2⟩) | (at_builtin; refine Hid.out ?_))
      refine Lib.hid ?_
      obtain ⟨A3, c3', rfl, _⟩ := ho2.rd dI_len
      have hown2 := (hown.alloc (.cells #[.slice A2 ds.length c2', .int .i64 s1, .int .i64 s2, .int .i64 l1, .int .i64 l2] 114)).below_size hb2
      have hsz2 := hb2.size
      have hsz3 : w.heap.size ≤ w2.heap.size := Nat.le_trans (le_al hsz) hsz2
      refine wpList_push (P := Tryz.prog) st29 rfl (.tmp 12) (.tmp 15) rfl rfl (hown2.alloc _) (.slice A3 ds.length c3', ⟨ds, s1, s2, l1, l2⟩) ⟨w2.heap.size, 0, none⟩ 1 (by rfl) pvP_len (pvP_one _ _ _ _) (by omega) (le_al hsz3) (cells5_of (heap_alloc_new _ _)) ?_
      intro g3 c4' w3 hown3 hg3 hat3
      have hb3 : Below w.heap.size w2 w3 := below_of_gb (gb_trans (gb_alloc (gb_refl _ _) _) hg3 (.inl rfl)) hsz3 (fun g e => (hown.lt g e).1)
      have hb4 : Below w.heap.size w w3 := (hb.alloc hsz _).trans ((hb2.mono (le_al hsz)).trans hb3)
      have heach3 : Hid (∀ x ∈ acc ++ [(Value.slice A3 ds.length c3', (⟨ds, s1, s2, l1, l2⟩ : P))], OwnL dI 64 2 w3 w.heap.size x.1 x.2.ds) := by
        show ∀ x ∈ _, _
        intro x hx
        rcases List.mem_append.1 hx with hx | hx
        · have e1 := ((heach.out x hx).alloc (.cells #[.slice A2 ds.length c2', .int .i64 s1, .int .i64 s2, .int .i64 l1, .int .i64 l2] 114)).below_size hb2
          exact (e1.alloc _).kept hg3 (own_ne e1 hown2 (by omega))
        · rw [List.mem_singleton.1 hx]
          have e1 := (ho2.base_le (le_al hsz)).alloc (.cells #[.slice A3 ds.length c3', .int .i64 s1, .int .i64 s2, .int .i64 l1, .int .i64 l2] 66)
          exact e1.kept hg3 (own_ne (ho2.base_le (le_al hsz)) hown2 (by omega))
      go_wp2_with fail
      go_roundw
      case rel => exact ⟨k + 1, _, by omega, by go_num, by rw [List.map_append, Hacc.out, take_succ_some (x := (⟨ds, s1, s2, l1, l2⟩ : P)) (by rw [List.getElem?_map, Hd.out]; rfl)]; rfl, hown3, heach3, hb4⟩
      case measure => simp [intOf]; omega
    · go_wp2
      go_ret
      have : k = n := by omega
      subst this
      refine ⟨u3, acc, rfl, ?_, hown, heach.out, hb⟩
      rw [Hacc.out, List.take_of_length_le (by rw [List.length_map, hr.1]; omega)]
end Go.Proofs.YtjebgfpcmooniaaGreatDoor

namespace Go.Proofs.YtjebgfpcmooniaaGreatDoor
open Go Go.RowKit

section
variable {α : Type} {f : α → List Value} {e sz : Nat} {w w' : World} {base : Nat} {l : List α} {v : Value}

theorem flat_set (hf : ∀ x, (f x).length = sz) {x x' : α} {i j : Nat} {u : Value} (hx : l[i]? = some x) (hj : j < sz) (he : f x' = (f x).set j u) : (l.set i x').flatMap f = (l.flatMap f).set (i * sz + j) u := by
  induction l generalizing i with
  | nil => simp at hx
  | cons a t ih =>
    cases i with
    | zero =>
      simp at hx
      subst hx
      rw [List.set_cons_zero, List.flatMap_cons, List.flatMap_cons, he, Nat.zero_mul, Nat.zero_add, List.set_append_left _ _ (by rw [hf]; exact hj)]
    | succ i =>
      simp at hx
      rw [List.set_cons_succ, List.flatMap_cons, List.flatMap_cons, ih hx, List.set_append_right _ _ (by rw [hf, Nat.add_mul]; omega), hf, Nat.add_mul]
      congr 2
      omega

/-- one cell of an owned row is stored: one element has turned -/
theorem OwnL.setAt {g n c i j : Nat} {x x' : α} {u : Value} (h : OwnL f e sz w base (.slice (some ⟨g, 0, none⟩) n c) l) (hf : ∀ x, (f x).length = sz) (hx : l[i]? = some x) (hj : j < sz) (he : f x' = (f x).set j u) :
    OwnL f e sz (w.setCell ⟨g, i * sz + j, none⟩ u) base (.slice (some ⟨g, 0, none⟩) n c) (l.set i x') := by
  have hn := h.len
  rcases h.2 with ⟨h0, _⟩ | ⟨g', cap, cur, hv, hb, hg, hnc, hcm, hcs, htk⟩
  · cases h0
  · injection hv with hv1 hv2 hv3
    injection hv1 with hv1
    injection hv1 with hv1
    subst hv1 hv3
    subst hn
    have hi : i < l.length := (List.getElem?_eq_some_iff.1 hx).1
    refine ⟨by rw [flat_length hf], .inr ⟨g, c, _, by rw [List.length_set], hb, blk_set hg _ _, by rw [List.length_set]; exact hnc, hcm, by simpa using hcs, ?_⟩⟩
    rw [List.length_set, flat_set hf hx hj he, ← htk, Array.toList_setIfInBounds, List.take_set]

theorem OwnL.shape2 {n c : Nat} {a : Addr} (h : OwnL f e sz w base (.slice (some a) n c) l) : ∃ g, a = ⟨g, 0, none⟩ ∧ base ≤ g ∧ g < w.heap.size := by
  rcases h.2 with ⟨h0, _⟩ | ⟨g', cap, cur, hv, hb, hg, _⟩
  · cases h0
  · injection hv with hv1 _ _
    injection hv1 with hv1
    exact ⟨g', hv1, hb, (Array.getElem?_eq_some_iff.1 hg).1⟩
end
theorem dropLast_snoc_some {α : Type} : ∀ (l : List α), l ≠ [] → ∃ a x, l = a ++ [x]
  | [], h => absurd rfl h
  | [y], _ => ⟨[], y, rfl⟩
  | y :: z :: l, _ => by
    obtain ⟨a, x, e⟩ := dropLast_snoc_some (z :: l) (by simp)
    exact ⟨y :: a, x, by rw [e]; rfl⟩
end Go.Proofs.YtjebgfpcmooniaaGreatDoor

namespace Go.Proofs.YtjebgfpcmooniaaGreatDoor
open Go Go.RowKit

set_option maxRecDepth 100000 in
set_option maxHeartbeats 400000 in
theorem sameParts_any (A A' : Option Addr) (n c c' : Nat) (l : List D) (w : World) (hr : RdL dI 2 w w.heap.size A n l) (hr' : RdL dI 2 w w.heap.size A' n l) (hn : n ≤ 1000000) :
    Calls Tryz.prog 56 #[.slice A n c, .slice A' n c'] w fun e w' => e = .returned (.bool true) ∧ Below w.heap.size w w' := by
  go_enter Tryz.func56, Tryz.ntmps56
  go_wp2
  go_loopw [13] (fun i wr => ∃ k : Nat, k ≤ n ∧ i = .int .i64 k ∧ Below w.heap.size w wr) (fun i _ => n - (intOf i).toNat)
  case atStart => exact ⟨0, by omega, rfl, Below.refl _ _⟩
  case round =>
    obtain ⟨k, hk, rfl, hb⟩ := hrel
    by_cases hlt : k < n
    · obtain ⟨ad, d, rfl, hab, hd, c0, c1⟩ := rd_dI (hr.below hb) hlt
      obtain ⟨ad', d', rfl, hab', hd', c0', c1'⟩ := rd_dI (hr'.below hb) hlt
      rw [hd] at hd'
      injection hd' with hd'
      subst hd'
      clear hd
      go_wp2_with fail
      go_quiet (fail)
      go_wp2_with fail
      exact ⟨⟨k + 1, by omega, by go_num, below_drewN hb nq⟩, by simp [intOf]; omega⟩
    · go_wp2
      go_ret
      exact ⟨rfl, hb⟩
set_option maxRecDepth 100000 in
set_option maxHeartbeats 1000000 in
theorem samePatches_any (A A' : Option Addr) (n c c' : Nat) (l l' : List (Value × P)) (w : World) (hr : RdL pvP 5 w w.heap.size A n l) (hr' : RdL pvP 5 w w.heap.size A' n l') (hn : n ≤ 1000000)
    (he : Hid (l.map (·.2) = l'.map (·.2))) (hw : Hid (∀ x ∈ l, Rows dI w w.heap.size x)) (hw' : Hid (∀ x ∈ l', Rows dI w w.heap.size x)) (hz : Hid (∀ x ∈ l, x.2.ds.length ≤ 1000000)) :
    Calls Tryz.prog 20 #[.slice A n c, .slice A' n c'] w fun e w' => e = .returned (.bool true) ∧ Below w.heap.size w w' := by
  go_enter Tryz.func20, Tryz.ntmps20
  go_wp2
  go_loopw [15] (fun i wr => ∃ k : Nat, k ≤ n ∧ i = .int .i64 k ∧ Below w.heap.size w wr) (fun i _ => n - (intOf i).toNat)
  case atStart => exact ⟨0, by omega, rfl, Below.refl _ _⟩
  case round =>
    obtain ⟨k, hk, rfl, hb⟩ := hrel
    have hsz := hb.size
    by_cases hlt : k < n
    · obtain ⟨ad, x, rfl, hab, hd, c0, c1, c2, c3, c4⟩ := rd_pv (hr.below hb) hlt
      obtain ⟨ad', x', rfl, hab', hd', c0', c1', c2', c3', c4'⟩ := rd_pv (hr'.below hb) hlt
      have hxx : x.2 = x'.2 := by
        have e := congrArg (fun q => q[k]?) he.out
        simp only [List.getElem?_map, hd, hd'] at e
        injection e
      obtain ⟨A1, q1, h1, r1⟩ := (hw.out x (List.mem_of_getElem? hd)).below hb
      obtain ⟨A2, q2, h2, r2⟩ := (hw'.out x' (List.mem_of_getElem? hd')).below hb
      have hz1 := hz.out x (List.mem_of_getElem? hd)
      obtain ⟨xv, ds, s1, s2, l1, l2⟩ := x
      obtain ⟨xv', p'⟩ := x'
      simp only at hxx
      subst hxx
      simp only at h1 h2 r1 r2 hz1 c0 c1 c2 c3 c4 c0' c1' c2' c3' c4'
      subst h1 h2
      clear hd hd'
      have b0' : ∀ o, (wr.alloc o).cell? (ad'.add (k * 5)) = some (.slice A2 ds.length q2) := fun o => (World.cell?_alloc_lt wr o _ (by rw [block_of_add]; omega)).trans c0'
      have b1' : ∀ o, (wr.alloc o).cell? ⟨(ad'.add (k * 5)).block, (ad'.add (k * 5)).off + 1, none⟩ = some (.int .i64 s1) := fun o => (World.cell?_alloc_lt wr o _ (by show (ad'.add (k * 5)).block < _; rw [block_of_add]; omega)).trans c1'
      have b2' : ∀ o, (wr.alloc o).cell? ⟨(ad'.add (k * 5)).block, (ad'.add (k * 5)).off + 2, none⟩ = some (.int .i64 s2) := fun o => (World.cell?_alloc_lt wr o _ (by show (ad'.add (k * 5)).block < _; rw [block_of_add]; omega)).trans c2'
      have b3' : ∀ o, (wr.alloc o).cell? ⟨(ad'.add (k * 5)).block, (ad'.add (k * 5)).off + 3, none⟩ = some (.int .i64 l1) := fun o => (World.cell?_alloc_lt wr o _ (by show (ad'.add (k * 5)).block < _; rw [block_of_add]; omega)).trans c3'
      have b4' : ∀ o, (wr.alloc o).cell? ⟨(ad'.add (k * 5)).block, (ad'.add (k * 5)).off + 4, none⟩ = some (.int .i64 l2) := fun o => (World.cell?_alloc_lt wr o _ (by show (ad'.add (k * 5)).block < _; rw [block_of_add]; omega)).trans c4'
      clear c0' c1' c2' c3' c4'
      go_wp2_with (go_at_call 56; refine Hid.out ?_)
      refine Lib.hid ?_
      refine (sameParts_any A1 A2 ds.length q1 q2 ds _ (((r1.alloc hsz _).alloc (le_al hsz) _).more (le_al (le_al hsz))) (((r2.alloc hsz _).alloc (le_al hsz) _).more (le_al (le_al hsz))) hz1).mono ?_
      rintro e w2 ⟨rfl, hb2⟩
      go_wp2_with fail
      exact ⟨⟨k + 1, by omega, by go_num, ((hb.alloc hsz _).alloc (le_al hsz) _).trans (hb2.mono (le_al (le_al hsz)))⟩, by simp [intOf]; omega⟩
    · go_wp2
      go_ret
      exact ⟨rfl, hb⟩
end Go.Proofs.YtjebgfpcmooniaaGreatDoor
