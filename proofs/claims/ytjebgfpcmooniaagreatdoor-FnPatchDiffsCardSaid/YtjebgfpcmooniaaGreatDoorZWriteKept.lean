/- (*bytes.Buffer).WriteString of a text that is not empty: what it writes, and that all other blocks stay. The walk is the shelf's, turned. -/
import Derived.Test.YtjebgfpcmooniaaGreatDoorZShelfD
import Derived.Test.YtjebgfpcmooniaaGreatDoorZPlain
import Derived.Shelf.Bytes.GrowOwn
import Derived.Lib.BufferKept
import Derived.Lib.BufferWrite
namespace Go.Proofs.YtjebgfpcmooniaaGreatDoor
open Go Go.RowKit

theorem info5 : (Tryz.prog.info? 5).map (·.size) = some 1 := by kernel_rfl
theorem un96w : Tryz.prog.underlying 96 = some (.slice 5) := by kernel_rfl

set_option maxHeartbeats 6400000 in
set_option maxRecDepth 100000 in
theorem write_kept (B b : Nat) (bs : List Value) (s : ByteArray) (w : World) (h : Lib.IsBuffer 135 5 B b bs w) (hBw : B ≤ w.heap.size) (h1 : ∀ v ∈ bs, v.oneCell' = true) (hlim : bs.length + s.size ≤ 140737488355328) (hs0 : 0 < s.size) :
    Calls Tryz.prog 91 #[.pointer (some ⟨b, 0, none⟩), .string s] w fun e w' => e = .returned (.tuple #[.int .i64 s.size, .nilIface]) ∧ Lib.IsBuffer 135 5 B b (bs ++ Lib.byteCells s.data.toList) w' ∧ Below B w w' ∧ Lib.OthersKept 5 (some b) w w' := by
  obtain ⟨hB, v0, lr, hbk, -, -⟩ := id h
  have c2 : w.cell? ⟨b, 2, none⟩ = some (.int .i8 lr) := by rw [Lib.cell_of_heap hbk]; rfl
  have f2 : w.frozen? ⟨b, 2, none⟩ = false := Lib.frozen_of_heap hbk 2
  have h' := h.setLast 0
  have hbel0 : Below B w (w.setCell ⟨b, 2, none⟩ (.int .i8 0)) := (Below.refl B w).setCell (p := ⟨b, 2, none⟩) hB _
  have hk0 : Lib.OthersKept 5 (some b) w (w.setCell ⟨b, 2, none⟩ (.int .i8 0)) := (Lib.OthersKept.refl _ _ w).setCell ⟨b, 2, none⟩ rfl _
  have hBw' : B ≤ (w.setCell ⟨b, 2, none⟩ (.int .i8 0)).heap.size := by simpa [World.setCell] using hBw
  clear hbk v0
  go_enter Tryz.func91, Tryz.ntmps91
  go_wp2_with (go_at_call 131; refine (Any.Buffer_tryGrow_own Tryz.laysM251 B b s.size bs _ ?_).mono ?_)
  · exact h'
  rintro e W1 (⟨rfl, xs, hxl, hI, hbel, hkp, -⟩ | ⟨rfl, rfl, hnr⟩)
  · have hbelW := hbel0.trans hbel
    have hkW := hk0.trans hkp
    clear h' hbel hbel0 hBw' c2 f2 hk0 hkp
    obtain ⟨-, lr2, hc⟩ := hI.cases
    rcases hc with ⟨hnil, -⟩ | ⟨g, cap, cur, hbk2, hBg, hg, hnc, hcm, hcs, htk, hgb⟩
    · exact absurd (congrArg List.length hnil) (by rw [List.length_append, hxl, List.length_nil]; omega)
    · rw [List.length_append, hxl] at hbk2 hnc htk
      have d0 : W1.cell? ⟨b, 0, none⟩ = some (.slice (some ⟨g, 0, none⟩) (bs.length + s.size) cap) := by rw [Lib.cell_of_heap hbk2]; rfl
      have hne : ¬ cap = bs.length := by omega
      have hcp := Lib.run_copy_row_string (P := Tryz.prog) W1 96 9 3 5 g bs.length s.size (cap - bs.length) s cur 5 un96w info5 hg (Nat.le_refl _) (by omega)
      have hcm' := hcm
      unfold maxLen at hcm'
      go_wp2
      go_ret2
      have hnl : (Lib.byteCells s.data.toList).length = s.size := by rw [Lib.byteCells_length, ← Lib.size_eq]
      obtain ⟨r1, r2⟩ := Lib.written_end (news := Lib.byteCells s.data.toList) (l := bs.length) hB (by rw [hnl]; exact hbk2) hBg hg hcm hcs hgb (by rw [hnl]; exact hnc)
      have e1 : cur.toList.take bs.length = bs := by
        have h3 := congrArg (List.take bs.length) htk
        rwa [List.take_take, Nat.min_eq_left (Nat.le_add_right _ _), List.take_left' rfl] at h3
      have r3 := hkW.setRow hg (cur.toList.take bs.length ++ Lib.byteCells s.data.toList ++ cur.toList.drop (bs.length + s.size)).toArray
      rw [e1, hnl] at r1 r2
      rw [e1] at r3
      refine ⟨rfl, ?_, ?_, ?_⟩ <;> rw [e1, ← List.append_assoc]
      · exact r1
      · exact hbelW.trans r2
      · exact r3
  · go_wp2_with (go_at_call 132; refine (Any.Buffer_grow_own Tryz.laysM252 B b s.size bs _ ?_ ?_ ?_ h1 hlim).mono ?_)
    · exact h'
    · exact hnr
    · exact hBw'
    rintro e W1 ⟨rfl, xs, hxl, hI, hbel, hkp, -⟩
    have hbelW := hbel0.trans hbel
    have hkW := hk0.trans hkp
    clear h' hbel hbel0 hBw' c2 f2 hnr hk0 hkp
    obtain ⟨-, lr2, hc⟩ := hI.cases
    rcases hc with ⟨hnil, -⟩ | ⟨g, cap, cur, hbk2, hBg, hg, hnc, hcm, hcs, htk, hgb⟩
    · exact absurd (congrArg List.length hnil) (by rw [List.length_append, hxl, List.length_nil]; omega)
    · rw [List.length_append, hxl] at hbk2 hnc htk
      have d0 : W1.cell? ⟨b, 0, none⟩ = some (.slice (some ⟨g, 0, none⟩) (bs.length + s.size) cap) := by rw [Lib.cell_of_heap hbk2]; rfl
      have hne : ¬ cap = bs.length := by omega
      have hcp := Lib.run_copy_row_string (P := Tryz.prog) W1 96 9 3 5 g bs.length s.size (cap - bs.length) s cur 5 un96w info5 hg (Nat.le_refl _) (by omega)
      have hcm' := hcm
      unfold maxLen at hcm'
      go_wp2
      go_ret2
      have hnl : (Lib.byteCells s.data.toList).length = s.size := by rw [Lib.byteCells_length, ← Lib.size_eq]
      obtain ⟨r1, r2⟩ := Lib.written_end (news := Lib.byteCells s.data.toList) (l := bs.length) hB (by rw [hnl]; exact hbk2) hBg hg hcm hcs hgb (by rw [hnl]; exact hnc)
      have e1 : cur.toList.take bs.length = bs := by
        have h3 := congrArg (List.take bs.length) htk
        rwa [List.take_take, Nat.min_eq_left (Nat.le_add_right _ _), List.take_left' rfl] at h3
      have r3 := hkW.setRow hg (cur.toList.take bs.length ++ Lib.byteCells s.data.toList ++ cur.toList.drop (bs.length + s.size)).toArray
      rw [e1, hnl] at r1 r2
      rw [e1] at r3
      refine ⟨rfl, ?_, ?_, ?_⟩ <;> rw [e1, ← List.append_assoc]
      · exact r1
      · exact hbelW.trans r2
      · exact r3
end Go.Proofs.YtjebgfpcmooniaaGreatDoor
