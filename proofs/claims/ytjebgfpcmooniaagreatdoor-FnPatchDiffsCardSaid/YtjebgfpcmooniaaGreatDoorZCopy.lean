/- PatchDeepCopy: a row of the same patches, all new. -/
import Derived.Test.YtjebgfpcmooniaaGreatDoorZSpMem
import Derived.Deep.DeepCutAuto
namespace Go.Proofs.YtjebgfpcmooniaaGreatDoor
open Go Go.RowKit

def CopyPost (w : World) (ps : List P) (e : Ending) (w' : World) : Prop :=
  ∃ (v : Value) (L : List (Value × P)), e = .returned v ∧ L.map (·.2) = ps ∧ Rw w.heap.size w' v L ∧ Below w.heap.size w w'

theorem rw_empty (w : World) {w' : World} {g : Nat} (h : w'.heap[g]? = some (.cells #[] 114 (0, 0))) (hg : w.heap.size ≤ g) : Rw w.heap.size w' (.slice (some ⟨g, 0, none⟩) 0 0) [] :=
  ⟨⟨by simp, .inr ⟨g, 0, #[], rfl, hg, h, Nat.le_refl _, by simp, by simp, by simp⟩⟩, by simp, fun i j x y hx => by simp at hx⟩

set_option maxRecDepth 100000 in
set_option maxHeartbeats 2000000 in
theorem copy_any (dv : Value) (A : Option Addr) (n c : Nat) (l : List (Value × P)) (w : World) (hr : RdL pvP 5 w w.heap.size A n l) (hn : n ≤ 1000000)
    (hrow : Hid (∀ x ∈ l, Rows dP w w.heap.size x)) (hwf : Hid (∀ x ∈ l, x.2.ds.length ≤ 1000000)) :
    Calls Tryz.prog 95 #[dv, .slice A n c] w (CopyPost w (l.map (·.2))) := by
  go_enter Tryz.func95, Tryz.ntmps95
  go_wp2
  go_loopw [5, 14] (fun v i wr => ∃ (k : Nat) (L : List (Value × P)), k ≤ n ∧ i = .int .i64 k ∧ L.length ≤ k ∧ Hid (L.map (·.2) = (l.map (·.2)).take k) ∧ Hid (Rw w.heap.size wr v L) ∧ Below w.heap.size w wr) (fun _ i _ => n - (intOf i).toNat)
  case atStart => exact ⟨0, [], by omega, rfl, Nat.le_refl _, rfl, rw_empty w (heap_alloc_new _ _) (Nat.le_refl _), (Below.refl _ _).alloc (Nat.le_refl _) _⟩
  case round =>
    obtain ⟨k, L, hk, rfl, hLl, HL, HR, hb⟩ := hrel
    rename World => WA
    by_cases hlt : k < n
    · obtain ⟨ad, x, rfl, hab, hd, c0, c1, c2, c3, c4⟩ := rd_pv (hr.below hb) hlt
      have hx := List.mem_of_getElem? hd
      obtain ⟨A2, c2', hx1, hrr⟩ := hrow.out x hx
      have w1f := hwf.out x hx
      obtain ⟨xv, ds, s1, s2, l1, l2⟩ := x
      simp only at hx1 hrr c0 c1 c2 c3 c4 w1f
      subst hx1
      have Hd := Lib.hid hd
      clear hd hx
      have hsz := hb.size
      go_wp2_with fail
      have HF0 := Lib.hid (HR.out.begin hb (.cells #[.slice A2 ds.length c2', .int .i64 s1, .int .i64 s2, .int .i64 l1, .int .i64 l2] 114) rfl rfl)
      have hT : ((WA.alloc (.cells #[.slice A2 ds.length c2', .int .i64 s1, .int .i64 s2, .int .i64 l1, .int .i64 l2] 114)).alloc (.cells #[.slice none 0 0, .int .i64 0, .int .i64 0, .int .i64 0, .int .i64 0] 114)).heap[WA.heap.size]? = some (.cells #[.slice A2 ds.length c2', .int .i64 s1, .int .i64 s2, .int .i64 l1, .int .i64 l2] 114 (0, 0)) :=
        (Below.heap_alloc _ _ _ (by simp)).trans (heap_alloc_new _ _)
      have hvT : u5.ownBlock ≠ some WA.heap.size := fun e => by have := HR.out.pat.lt _ e; omega
      generalize (WA.alloc (.cells #[.slice A2 ds.length c2', .int .i64 s1, .int .i64 s2, .int .i64 l1, .int .i64 l2] 114)).alloc (.cells #[.slice none 0 0, .int .i64 0, .int .i64 0, .int .i64 0, .int .i64 0] 114) = WB at HF0 hT ⊢
      go_loopw [22] (fun i wx => ∃ (j : Nat) (C : List D) (dv1 : Value), j ≤ ds.length ∧ i = .int .i64 j ∧ C.length ≤ j ∧ Hid (C = ds.take j) ∧ Hid (FW w (WA.heap.size + 1) (.slice none 0 0) [] wx u5 dv1 ⟨C, 0, 0, 0, 0⟩ L WB.heap.size) ∧ Hid (wx.heap[WA.heap.size]? = some (.cells #[.slice A2 ds.length c2', .int .i64 s1, .int .i64 s2, .int .i64 l1, .int .i64 l2] 114 (0, 0)))) (fun i _ => ds.length - (intOf i).toNat)
      case atStart => exact ⟨0, [], _, Nat.zero_le _, rfl, Nat.le_refl _, rfl, HF0, hT⟩
      case round =>
        obtain ⟨j, C, dv1, hj, rfl, hCl, HC, HF, HT⟩ := hrel
        rename World => WC
        by_cases hlt2 : j < ds.length
        · obtain ⟨ad3, d, rfl, hab3, hd3, e0, e1⟩ := rd_dP (hrr.below HF.out.bel) hlt2
          have Hd3 := Lib.hid hd3
          have hbs := HF.out.bel.size
          have k0 : ∀ o1, (WC.alloc o1).cell? ⟨WA.heap.size + 1, 0, none⟩ = some dv1 := fun o1 => by
            have := blk_cell (HF.out.on ((Below.refl _ _).alloc (Nat.le_refl _) o1)).bk 0
            simpa [pC] using this
          clear hd3
          go_wp2_with (at_builtin; refine Hid.out ?_)
          refine Lib.hid ?_
          have HF1 := Lib.hid ((HF.out.on ((Below.refl _ _).alloc (Nat.le_refl _) (.cells #[.int .i8 d.op, .string d.t] 128))).on ((Below.refl _ _).alloc (Nat.le_refl _) (.cells #[.int .i8 d.op, .string d.t] 128)))
          refine wpList_push (P := Tryz.prog) (v := dv1) st77 rfl (.tmp 27) (.tmp 33) rfl rfl HF1.out.own d ⟨WC.heap.size + 1, 0, none⟩ 1 (by rfl) dP_len (dP_one _) (show C.length < 100000000 by omega) (le_al (le_al hbs)) (cells2_of (heap_alloc_at (WC.alloc _) _ _ (by simp))) ?_
          intro g7 c7 w15 hown7 hg7 hat7
          have hT2 := HF1.out.turn hg7 hown7 (by
            rcases hat7 with h | h
            · exact .inl h.symm
            · exact .inr fun y e => by injection e with e; rw [← e, h]; exact Nat.le_refl _)
          have b15 := gb_heap hg7 (i := WA.heap.size + 1) (Array.getElem?_eq_some_iff.1 HF1.out.bk).1 (fun e => own_block_ty HF1.out.own HF1.out.bk (by omega) e.symm) HF1.out.bk
          have hT1 := HT.out
          have hTn : some WA.heap.size ≠ dv1.ownBlock := fun e => own_block_ty HF.out.own hT1 (by omega) e.symm
          have hT3 : (w15.setCell ⟨WA.heap.size + 1, 0, none⟩ (.slice (some ⟨g7, 0, none⟩) (C.length + 1) c7)).heap[WA.heap.size]? = some (.cells #[.slice (some ad3) ds.length c2', .int .i64 s1, .int .i64 s2, .int .i64 l1, .int .i64 l2] 114 (0, 0)) := by
            refine blk_far (gb_heap hg7 ?_ hTn ?_) (by simp) _
            · have := (Array.getElem?_eq_some_iff.1 hT1).1; simp; omega
            · exact (Below.heap_alloc _ _ _ (by have := (Array.getElem?_eq_some_iff.1 hT1).1; simp; omega)).trans ((Below.heap_alloc _ _ _ (Array.getElem?_eq_some_iff.1 hT1).1).trans hT1)
          have k0' := blk_cell b15 0
          have f0' := blk_frozen b15 0
          simp [pC] at k0'
          simp only at hT2
          have HT2 := Lib.hid hT2
          have HT3 := Lib.hid hT3
          clear k0 hat7 hT2 hT3 hT1 hTn hT b15
          go_wp2_with fail
          go_roundw
          case rel => exact ⟨j + 1, C ++ [d], _, by omega, by go_num, by rw [List.length_append, List.length_singleton]; omega, by show _ = _; rw [take_succ_some Hd3.out, HC.out], HT2, HT3⟩
          case measure => simp [intOf]; omega
        · have hjn : j = ds.length := by omega
          have HFf : Hid (FW w (WA.heap.size + 1) (.slice none 0 0) [] WC u5 dv1 ⟨ds, 0, 0, 0, 0⟩ L WB.heap.size) := by
            have h1 := HF.out
            rw [HC.out, hjn, List.take_length] at h1
            exact h1
          have q0 := blk_cell HT.out 0
          have q1 := blk_cell HT.out 1
          have q2 := blk_cell HT.out 2
          have q3 := blk_cell HT.out 3
          have q4 := blk_cell HT.out 4
          have k0 := blk_cell HFf.out.bk 0
          have k1 := blk_cell HFf.out.bk 1
          have k2 := blk_cell HFf.out.bk 2
          have k3 := blk_cell HFf.out.bk 3
          have k4 := blk_cell HFf.out.bk 4
          have f1 := blk_frozen HFf.out.bk 1
          have f2 := blk_frozen HFf.out.bk 2
          have f3 := blk_frozen HFf.out.bk 3
          have f4 := blk_frozen HFf.out.bk 4
          simp [pC] at q0 q1 q2 q3 q4 k0 k1 k2 k3 k4
          clear hjn
          obtain ⟨A7, c7, hdv, -⟩ := HFf.out.own.rd dP_len
          subst hdv
          have HFn := Lib.hid ((((HFf.out.n1 s1).n2 s2).n3 l1).n4 l2)
          go_wp2_with (at_builtin; refine Hid.out ?_)
          refine Lib.hid ?_
          have HF2 := Lib.hid (HFn.out.on ((Below.refl _ _).alloc (Nat.le_refl _) (.cells #[.slice A7 ds.length c7, .int .i64 s1, .int .i64 s2, .int .i64 l1, .int .i64 l2] 114)))
          refine wpList_push (P := Tryz.prog) (v := u5) st73 rfl (.tmp 49) (.tmp 51) rfl rfl HF2.out.pat (.slice A7 ds.length c7, ⟨ds, s1, s2, l1, l2⟩) ⟨WC.heap.size, 0, none⟩ 1 (by rfl) pvP_len (pvP_one _ _ _ _) (by omega) (le_al HFn.out.bel.size) (cells5_of (heap_alloc_at _ _ _ (by simp [World.setCell]))) ?_
          intro g8 c8 w15 hown7 hg7 hat7
          have HO := Lib.hid (HF2.out.closeRw HR.out.apart hg7 hown7 (by
            rcases hat7 with h | h
            · exact .inl h.symm
            · exact .inr fun y e => by injection e with e; rw [← e, h]; exact Nat.le_refl _))
          have hbo := HF2.out.bel.trans (below_of_gb hg7 HF2.out.bel.size (fun g e => (HF2.out.pat.lt g e).1))
          clear k0 k1 k2 k3 k4 f1 f2 f3 f4 q0 q1 q2 q3 q4 hat7 hT
          go_wp2_with fail
          go_roundw
          case rel => exact ⟨k + 1, L ++ [(.slice A7 ds.length c7, ⟨ds, s1, s2, l1, l2⟩)], by omega, by go_num, by rw [List.length_append, List.length_singleton]; omega, by show _ = _; rw [List.map_append, HL.out, take_succ_some (x := (⟨ds, s1, s2, l1, l2⟩ : P)) (by rw [List.getElem?_map, Hd.out]; rfl)]; rfl, HO, hbo⟩
          case measure => simp [intOf]; omega
    · have hkn : k = n := by omega
      have HLf : Hid (L.map (·.2) = l.map (·.2)) := by show _ = _; rw [HL.out, hkn, List.take_of_length_le (by rw [List.length_map, hr.1]; exact Nat.le_refl _)]
      clear hkn
      go_wp2
      go_ret
      exact ⟨_, L, rfl, HLf.out, HR.out, hb⟩
end Go.Proofs.YtjebgfpcmooniaaGreatDoor
