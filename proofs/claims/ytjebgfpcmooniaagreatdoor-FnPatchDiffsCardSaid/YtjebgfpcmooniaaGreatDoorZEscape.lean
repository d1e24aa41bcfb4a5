/- escape, QueryEscape: a text in a query. -/
import Derived.Test.YtjebgfpcmooniaaGreatDoorZTabs
import Derived.Deep.OwnRows
import Derived.Deep.CutBlock
import Derived.Deep.DeepCutAuto
namespace Go.Proofs.YtjebgfpcmooniaaGreatDoor
open Go Go.RowKit

theorem url_bit (c : UInt8) : (bits .and .u8 (urlL.getD c.toNat 0) 32 == 0) = !qPlain c.toNat := u8_all (p := fun c => (bits .and .u8 (urlL.getD c.toNat 0) 32 == 0) = !qPlain c.toNat) (by decide +kernel) c
theorem urlL_len : urlL.length = 256 := by decide +kernel

set_option maxRecDepth 100000 in
theorem should_any (c : UInt8) (w : World) (ht : Tabs w) : Calls Tryz.prog 178 #[.int .u8 (c.toNat : Int), .int .u8 32] w fun e w' => e = .returned (.bool (!qPlain c.toNat)) ∧ w = w' := by
  have hc : w.cell? ⟨4, c.toNat, none⟩ = some (.int .u8 (urlL.getD c.toNat 0)) := ht.url.cell (by kernel_rfl) _ (by rw [urlL_len]; exact c.toNat_lt)
  have hb := url_bit c
  have h256 : ((c.toNat : Nat) : Int) < 256 := by have := c.toNat_lt; omega
  obtain ⟨v, hv⟩ : ∃ v, v = urlL.getD c.toNat 0 := ⟨_, rfl⟩
  rw [← hv] at hc hb
  clear hv
  go_enter Tryz.func178, Tryz.ntmps178
  go_wp2
  go_ret
  exact ⟨rfl, rfl⟩

def Z64 : Array Value := #[.int .u8 0, .int .u8 0, .int .u8 0, .int .u8 0, .int .u8 0, .int .u8 0, .int .u8 0, .int .u8 0, .int .u8 0, .int .u8 0, .int .u8 0, .int .u8 0, .int .u8 0, .int .u8 0, .int .u8 0, .int .u8 0, .int .u8 0, .int .u8 0, .int .u8 0, .int .u8 0, .int .u8 0, .int .u8 0, .int .u8 0, .int .u8 0, .int .u8 0, .int .u8 0, .int .u8 0, .int .u8 0, .int .u8 0, .int .u8 0, .int .u8 0, .int .u8 0, .int .u8 0, .int .u8 0, .int .u8 0, .int .u8 0, .int .u8 0, .int .u8 0, .int .u8 0, .int .u8 0, .int .u8 0, .int .u8 0, .int .u8 0, .int .u8 0, .int .u8 0, .int .u8 0, .int .u8 0, .int .u8 0, .int .u8 0, .int .u8 0, .int .u8 0, .int .u8 0, .int .u8 0, .int .u8 0, .int .u8 0, .int .u8 0, .int .u8 0, .int .u8 0, .int .u8 0, .int .u8 0, .int .u8 0, .int .u8 0, .int .u8 0, .int .u8 0]
theorem z64_at {j : Nat} (hj : j < 64) : Z64[j]? = some (.int .u8 0) := by
  have h : Z64 = Array.replicate 64 (.int .u8 0) := rfl
  rw [h, Array.getElem?_replicate, if_pos hj]
theorem row_z64 {B : Nat} {w wc : World} (_h : B ≤ w.heap.size) (hB : B ≤ wc.heap.size) : Row8 (wc.alloc (.cells Z64 203)) B wc.heap.size 64 [] :=
  ⟨hB, by simp, Z64, 203, heap_alloc_new _ _, by decide, fun j hj => ⟨0, z64_at hj⟩, fun j x h => by simp at h⟩
theorem Row8.less {w : World} {B b R R' : Nat} (h : Row8 w B b R []) (hR : R' ≤ R) : Row8 w B b R' [] := by
  obtain ⟨h1, _, cs, T, h3, h4, h5, h6⟩ := h
  exact ⟨h1, by simp, cs, T, h3, by omega, fun j hj => h5 j (by omega), h6⟩
theorem row_made {B : Nat} {wc : World} (hB : B ≤ wc.heap.size) (R : Nat) : Row8 (wc.alloc (.cells (madeCells #[.int .u8 0] R) 5)) B wc.heap.size R [] := by
  refine ⟨hB, by simp, _, 5, heap_alloc_new _ _, by rw [size_madeCells]; exact Nat.le_refl _, fun j hj => ⟨0, ?_⟩, fun j x h => by simp at h⟩
  rw [← Array.getElem?_toList, toList_madeCells_one, List.getElem?_replicate, if_pos hj]
  rfl
theorem Row8.conv {w : World} {B b R c : Nat} {l : List UInt8} (h : Row8 w B b R l) (hR : R = l.length) : (convert 96 9 (.slice (some ⟨b, 0, none⟩) R c)).run Tryz.prog w = .ok (.string ⟨l.toArray⟩) w := by
  subst hR
  refine run_convert_bytes_back w 96 9 5 ⟨b, 0, none⟩ c l u96 u5 u9 fun j hj => ?_
  have h1 := h.get (List.getElem?_eq_getElem hj)
  have e : ((⟨b, 0, none⟩ : Addr).add j) = ⟨b, 0 + j, none⟩ := by unfold Addr.add; split <;> simp_all
  rw [e, Nat.zero_add]
  exact h1
theorem byteCells_at (s : ByteArray) {j : Nat} {x : UInt8} (h : (tb s)[j]? = some x) : (Lib.byteCells s.data.toList)[j]? = some (.int .u8 (x.toNat : Int)) := by
  unfold Lib.byteCells
  rw [List.getElem?_map, show s.data.toList[j]? = some x from h]
  rfl
theorem Row8.copy {w : World} {B b R cap : Nat} {s : ByteArray} (h : Row8 w B b R []) (hs : s.size ≤ R) :
    ∃ w', (Builtin.copy_ #[96, 9] 3 #[.slice (some ⟨b, 0, none⟩) R cap, .string s]).run Tryz.prog w = .ok (goInt s.size) w' ∧ Row8 w' B b R (tb s) ∧ Below B w w' := by
  obtain ⟨hB, _, cs, T, hh, hR, hx, _⟩ := h
  have hrun := Lib.run_copy_row_string (P := Tryz.prog) w 96 9 3 5 b 0 R cap s cs T u96 (by kernel_rfl) hh hs (by omega)
  refine ⟨_, hrun, ⟨hB, by rw [tb_length]; exact hs, _, T, setRow_heap w b cs _ T _ hh, ?_, fun j hj => ?_, fun j x hj => ?_⟩, ?_⟩
  · simp [Lib.byteCells_length]; omega
  · rw [List.getElem?_toArray, List.take_zero, List.nil_append, Nat.zero_add]
    rcases Nat.lt_or_ge j s.size with hl | hl
    · exact ⟨(tb s)[j]'(by rw [tb_length]; exact hl), by rw [List.getElem?_append_left (by rw [Lib.byteCells_length, ← Lib.size_eq]; exact hl)]; exact byteCells_at s (List.getElem?_eq_getElem _)⟩
    · obtain ⟨x, hx⟩ := hx j hj
      refine ⟨x, ?_⟩
      rw [List.getElem?_append_right (by rw [Lib.byteCells_length, ← Lib.size_eq]; exact hl), Lib.byteCells_length, ← Lib.size_eq, List.getElem?_drop, show s.size + (j - s.size) = j by omega, Array.getElem?_toList]
      exact hx
  · have hl : j < s.size := by rw [← tb_length]; exact (List.getElem?_eq_some_iff.1 hj).1
    rw [List.getElem?_toArray, List.take_zero, List.nil_append, List.getElem?_append_left (by rw [Lib.byteCells_length, ← Lib.size_eq]; exact hl)]
    exact byteCells_at s hj
  · exact ⟨rfl, rfl, rfl, by simp, fun i hi => setRow_other w b i _ (by omega)⟩
theorem and15 (b : UInt8) : bits .and .u8 ((b.toNat : Nat) : Int) 15 = ((b.toNat % 16 : Nat) : Int) :=
  u8_all (p := fun b => bits .and .u8 ((b.toNat : Nat) : Int) 15 = ((b.toNat % 16 : Nat) : Int)) (by decide +kernel) b
theorem upper_at {q : Nat} (hq : q < 16) (h : q < (⟨#[48, 49, 50, 51, 52, 53, 54, 55, 56, 57, 65, 66, 67, 68, 69, 70]⟩ : ByteArray).size) : (⟨#[48, 49, 50, 51, 52, 53, 54, 55, 56, 57, 65, 66, 67, 68, 69, 70]⟩ : ByteArray)[q]'h = hexU q := by
  have : ∀ q : Fin 16, (#[48, 49, 50, 51, 52, 53, 54, 55, 56, 57, 65, 66, 67, 68, 69, 70] : Array UInt8)[q.val]'(q.isLt) = hexU q.val := by decide
  exact this ⟨q, hq⟩
theorem enc_room (l : List UInt8) (k : Nat) (x : UInt8) (h : l[k]? = some x) : ((l.take k).flatMap encQ).length + (encQ x).length ≤ (l.flatMap encQ).length := by
  obtain ⟨hk, e⟩ := List.getElem?_eq_some_iff.1 h
  conv => rhs; rw [← List.take_append_drop k l, List.flatMap_append, List.length_append, List.drop_eq_getElem_cons hk, e, List.flatMap_cons, List.length_append]
  omega
theorem far_cell {w : World} {b b' j J : Nat} (h : b < b') (v : Value) : (w.setCell ⟨b, J, none⟩ v).cell? ⟨b', j, none⟩ = w.cell? ⟨b', j, none⟩ := by
  have h1 : (w.setCell ⟨b, J, none⟩ v).heap[b']? = w.heap[b']? := Below.heap_setCell w ⟨b, J, none⟩ v b' (by show b' ≠ b; omega)
  simp only [World.cell?, h1]
theorem un96 : Tryz.prog.underlying 96 = some (.slice 5) := u96
theorem q_ne32 {c : UInt8} (h : qPlain c.toNat = true) : ¬ c.toNat = 32 := by
  intro e
  rw [e] at h
  revert h; decide

set_option maxRecDepth 100000 in
set_option maxHeartbeats 4000000 in
theorem escape_any (s : ByteArray) (w : World) (hs : s.size ≤ 10000000) (ht : Tabs w) :
    Calls Tryz.prog 143 #[.string s, .int .u8 32] w fun e w' => e = .returned (.string ⟨((tb s).flatMap encQ).toArray⟩) ∧ Below w.heap.size w w' := by
  have hcv := fun w => Lib.run_convert_string_bytes (P := Tryz.prog) w 9 96 5 s u9 u96 u5
  have hbw : Below w.heap.size w (Lib.bytesWorld w 5 s) := below_bytes (Nat.le_refl _)
  have Ht := Lib.hid (ht.below hbw)
  have hby := Lib.hid (fun (j : Nat) (hj : j < s.size) => bytes_at w s hj)
  go_enter Tryz.func143, Tryz.ntmps143
  go_wp2
  generalize Lib.bytesWorld w 5 s = W at hbw Ht hby ⊢
  go_loop [5, 6, 8, 19] (fun a b _ i => ∃ k m1 m2 : Nat, k ≤ s.size ∧ i = .int .i64 k ∧ a = .int .i64 m1 ∧ b = .int .i64 m2 ∧ m1 ≤ k ∧ m2 ≤ k ∧ Hid (m1 = spN ((tb s).take k)) ∧ Hid (m2 = hxN ((tb s).take k))) (fun _ _ _ i => s.size - (intOf i).toNat)
  case atStart => exact ⟨0, 0, 0, by omega, rfl, rfl, rfl, by omega, by omega, rfl, rfl⟩
  case round =>
    obtain ⟨k, m1, m2, hk, rfl, rfl, rfl, h1k, h2k, H1, H2⟩ := hrel
    by_cases hlt : k < s.size
    · have hcell := hby.out k hlt
      have htk := Lib.hid (take_succ_some (l := tb s) (k := k) (x := s[k]'hlt) (by rw [List.getElem?_eq_getElem (by rw [tb_length]; exact hlt)]; rfl))
      by_cases hq : qPlain (s[k]'hlt).toNat = true
      · have hqn : (!qPlain (s[k]'hlt).toNat) = false := by rw [hq]; rfl
        have Hq := Lib.hid hq
        clear hq
        go_wp2_with (go_at_call 178; refine Hid.out ?_)
        refine Lib.hid ?_
        refine (should_any (s[k]'hlt) W Ht.out).mono ?_
        rintro e w1 ⟨rfl, rfl⟩
        rw [hqn]
        go_wp2_with fail
        go_round
        case rel => exact ⟨k + 1, m1, m2, by omega, by go_num, rfl, rfl, by omega, by omega, by show _ = _; rw [htk.out, spN_snoc, if_neg (q_ne32 Hq.out), ← H1.out]; rfl, by show _ = _; rw [htk.out, hxN_snoc, if_pos Hq.out, ← H2.out]; rfl⟩
        case measure => simp [intOf]; omega
      · have hqn : (!qPlain (s[k]'hlt).toNat) = true := by simp [hq]
        have Hq := Lib.hid hq
        clear hq
        by_cases h32 : (s[k]'hlt).toNat = 32
        · have h32b : ((((s[k]'hlt).toNat : Nat) : Int) == 32) = true := by rw [beq_iff_eq]; omega
          have H32 := Lib.hid h32
          clear h32
          go_wp2_with (go_at_call 178; refine Hid.out ?_)
          refine Lib.hid ?_
          refine (should_any (s[k]'hlt) W Ht.out).mono ?_
          rintro e w1 ⟨rfl, rfl⟩
          rw [hqn]
          go_wp2_with fail
          go_round
          case rel => exact ⟨k + 1, m1 + 1, m2, by omega, by go_num, by go_num, rfl, by omega, by omega, by show _ = _; rw [htk.out, spN_snoc, if_pos H32.out, ← H1.out], by show _ = _; rw [htk.out, hxN_snoc, if_neg Hq.out, if_pos H32.out, ← H2.out]; rfl⟩
          case measure => simp [intOf]; omega
        · have h32b : ((((s[k]'hlt).toNat : Nat) : Int) == 32) = false := by rw [beq_eq_false_iff_ne]; omega
          have H32 := Lib.hid h32
          clear h32
          go_wp2_with (go_at_call 178; refine Hid.out ?_)
          refine Lib.hid ?_
          refine (should_any (s[k]'hlt) W Ht.out).mono ?_
          rintro e w1 ⟨rfl, rfl⟩
          rw [hqn]
          go_wp2_with fail
          go_round
          case rel => exact ⟨k + 1, m1, m2 + 1, by omega, by go_num, rfl, by go_num, by omega, by omega, by show _ = _; rw [htk.out, spN_snoc, if_neg H32.out, ← H1.out]; rfl, by show _ = _; rw [htk.out, hxN_snoc, if_neg Hq.out, if_neg H32.out, ← H2.out]⟩
          case measure => simp [intOf]; omega
    · have hkn : k = s.size := by omega
      have H1' : Hid (m1 = spN (tb s)) := by show _ = _; rw [H1.out, hkn, List.take_of_length_le (by rw [tb_length]; omega)]
      have H2' : Hid (m2 = hxN (tb s)) := by show _ = _; rw [H2.out, hkn, List.take_of_length_le (by rw [tb_length]; omega)]
      subst hkn
      clear H1 H2 hlt h1k hk
      have hWs := hbw.size
      have hm2s : m2 ≤ 10000000 := by omega
      go_upto_region 10 with fail
      go_cut [42] (fun cv wx => cv = .bool (decide (m1 = 0 ∧ m2 = 0)) ∧ wx = W)
      case first =>
        by_cases z1 : m1 = 0
        · subst z1
          by_cases z2 : m2 = 0
          · subst z2
            go_wp2_with fail
            go_meet
            case rel => exact ⟨rfl, rfl⟩
          · have e2 : ((m2 : Int) == 0) = false := by rw [beq_eq_false_iff_ne]; omega
            go_wp2_with fail
            go_meet
            case rel => exact ⟨by rw [decide_eq_false (by omega)], rfl⟩
        · have e1 : ((m1 : Int) == 0) = false := by rw [beq_eq_false_iff_ne]; omega
          go_wp2_with fail
          go_meet
          case rel => exact ⟨by rw [decide_eq_false (by omega)], rfl⟩
      case rest =>
        obtain ⟨rfl, rfl⟩ := hcut
        by_cases hz : m1 = 0 ∧ m2 = 0
        · have ez : decide (m1 = 0 ∧ m2 = 0) = true := decide_eq_true hz
          have hfin : Hid ((⟨((tb s).flatMap encQ).toArray⟩ : ByteArray) = s) := by
            show _ = _
            rw [enc_plain (by rw [← H1'.out]; exact hz.1) (by rw [← H2'.out]; exact hz.2)]
          rw [ez]
          clear ez hz
          go_wp2_with fail
          go_ret
          exact ⟨by rw [hfin.out]; rfl, hbw⟩
        · have ez : decide (m1 = 0 ∧ m2 = 0) = false := decide_eq_false hz
          rw [ez]
          clear ez hz
          obtain ⟨R, hR⟩ : ∃ R : Nat, R = s.size + 2 * m2 := ⟨_, rfl⟩
          have HR := Lib.hid hR
          have hRi : (s.size : Int) + 2 * (m2 : Int) = (R : Int) := by omega
          have hRb : R ≤ 40000000 := by omega
          clear hR
          go_upto_if 50 with fail
          have hwc := hbw.size
          have hrow := Lib.hid (row_z64 (Nat.le_refl w.heap.size) hwc)
          have hbz : Below w.heap.size w (wc.alloc (.cells Z64 203)) := hbw.alloc hwc _
          have hsz64 : w.heap.size ≤ (wc.alloc (.cells Z64 203)).heap.size := le_al hwc
          change Code.wp _ _ _ _ (wc.alloc (.cells Z64 203))
          have hzb : wc.heap.size < (wc.alloc (.cells Z64 203)).heap.size := by simp
          generalize wc.alloc (.cells Z64 203) = wz at hrow hbz hsz64 hzb ⊢
          have hmk := run_make_row' (P := Tryz.prog) 96 5 (.int .u8 0) 1 un96 (by kernel_rfl) rfl .i64 .i64 R (by omega) (by omega) wz
          go_cut [10] (fun v wx => ∃ (b cap : Nat), v = .slice (some ⟨b, 0, none⟩) R cap ∧ Row8 wx w.heap.size b R [] ∧ Below w.heap.size w wx)
          case first =>
            by_cases h64 : R ≤ 64
            · have d64 : decide ((R : Int) ≤ 64) = true := by simp; omega
              have d64' : (R : Int) ≤ 64 := by omega
              go_wp2_with fail
              go_meet
              case rel => exact ⟨_, _, rfl, (hrow.out).less h64, hbz⟩
            · have d64 : decide ((R : Int) ≤ 64) = false := by simp; omega
              have d64' : ¬ (R : Int) ≤ 64 := by omega
              go_wp2_with fail
              go_meet
              case rel => exact ⟨_, _, rfl, row_made hsz64 R, hbz.alloc hsz64 _⟩
          case rest =>
            obtain ⟨b, cap, rfl, Hrow, hbr⟩ := hcut
            have hwc2 := hbr.size
            by_cases z2 : m2 = 0
            · subst z2
              have hRs : R = s.size := by have := HR.out; omega
              obtain ⟨wd, hcopy, Hrow2, hbd⟩ := Hrow.copy (cap := cap) (show s.size ≤ R by omega)
              have Hr2 := Lib.hid Hrow2
              have hbrd := hbr.trans hbd
              have h0 := H2'.out.symm
              have hlen0 : ∀ k, k ≤ s.size → (((tb s).take k).flatMap encQ).length = k := fun k hk => by
                rw [enc_length, List.length_take, tb_length]
                have := hxN_take (tb s) k
                omega
              have Hlen0 := Lib.hid hlen0
              have HRs := Lib.hid hRs
              have H0 := Lib.hid h0
              clear Hrow2 Hrow hlen0 hRs h0
              go_wp2
              go_loopw [12] (fun i wr => ∃ k : Nat, k ≤ s.size ∧ i = .int .i64 k ∧ Hid (Row8 wr w.heap.size b R (((tb s).take k).flatMap encQ ++ (tb s).drop k)) ∧ Below w.heap.size w wr) (fun i _ => s.size - (intOf i).toNat)
              case atStart => exact ⟨0, by omega, rfl, by show Row8 _ _ _ _ _; simpa using Hr2.out, hbrd⟩
              case round =>
                obtain ⟨k, hk, rfl, Hr, hbk⟩ := hrel
                by_cases hlt : k < s.size
                · have hdk := Lib.hid (drop_tb s k hlt)
                  have htk := Lib.hid (take_succ_some (l := tb s) (k := k) (x := s[k]'hlt) (by rw [List.getElem?_eq_getElem (by rw [tb_length]; exact hlt)]; rfl))
                  by_cases h32 : (s[k]'hlt).toNat = 32
                  · have h32b : ((((s[k]'hlt).toNat : Nat) : Int) == 32) = true := by rw [beq_iff_eq]; omega
                    have hkR : k < R := by have := HRs.out; omega
                    obtain ⟨x0, hx0⟩ := Hr.out.at_ hkR
                    have hf0 := Hr.out.fro k
                    have H32 := Lib.hid h32
                    have Hput := Lib.hid (Hr.out.put (j := k) (by have := Hlen0.out k hk; rw [List.length_append, this, List.length_drop, tb_length]; omega) 43)
                    have hkRi : (k : Int) < (R : Int) := by omega
                    clear h32
                    go_wp2_with fail
                    go_roundw
                    case rel =>
                      refine ⟨k + 1, by omega, by go_num, ?_, below_set8 hbk Hr.out.1 _⟩
                      show Row8 _ _ _ _ _
                      have e : (((tb s).take (k + 1)).flatMap encQ ++ (tb s).drop (k + 1)) = (((tb s).take k).flatMap encQ ++ (tb s).drop k).set k 43 := by
                        have hl := Hlen0.out k hk
                        rw [htk.out, hdk.out, List.flatMap_append, List.set_append_right _ _ (by omega), hl, Nat.sub_self, List.set_cons_zero, List.append_assoc]
                        congr 1
                        simp [encQ, H32.out, qPlain_32]
                      rw [e]
                      exact Hput.out
                    case measure => simp [intOf]; omega
                  · have h32b : ((((s[k]'hlt).toNat : Nat) : Int) == 32) = false := by rw [beq_eq_false_iff_ne]; omega
                    have H32 := Lib.hid h32
                    clear h32
                    go_wp2_with fail
                    go_roundw
                    case rel =>
                      refine ⟨k + 1, by omega, by go_num, ?_, hbk⟩
                      show Row8 _ _ _ _ _
                      have e : (((tb s).take (k + 1)).flatMap encQ ++ (tb s).drop (k + 1)) = (((tb s).take k).flatMap encQ ++ (tb s).drop k) := by
                        have hq : qPlain (s[k]'hlt).toNat = true := by
                          rcases hxN_mem H0.out (b := s[k]'hlt) (List.mem_of_getElem? (i := k) (by rw [List.getElem?_eq_getElem (by rw [tb_length]; exact hlt)]; rfl)) with h | h
                          · exact h
                          · exact absurd h H32.out
                        rw [htk.out, hdk.out, List.flatMap_append, List.append_assoc]
                        congr 1
                        simp [encQ, hq]
                      rw [e]
                      exact Hr.out
                    case measure => simp [intOf]; omega
                · have hkn : k = s.size := by omega
                  have hfin : Hid (Row8 wr w.heap.size b R ((tb s).flatMap encQ)) := by
                    show Row8 _ _ _ _ _
                    have := Hr.out
                    rw [hkn, List.take_of_length_le (by rw [tb_length]; omega), List.drop_eq_nil_of_le (by rw [tb_length]; omega), List.append_nil] at this
                    exact this
                  have hcvt := hfin.out.conv (c := cap) (by rw [enc_length, tb_length, H0.out]; have := HRs.out; omega)
                  go_wp2
                  go_ret
                  exact ⟨rfl, hbk⟩
            · have e2 : ((m2 : Int) == 0) = false := by rw [beq_eq_false_iff_ne]; omega
              have Hz2 := Lib.hid z2
              clear z2
              have hbB := Lib.hid Hrow.lt
              have hRl : Hid (R = ((tb s).flatMap encQ).length) := by show _ = _; rw [HR.out, enc_length, tb_length, ← H2'.out]
              have hbw2 : Below w.heap.size w (Lib.bytesWorld wc 5 s) := hbr.trans (below_bytes hwc2)
              have Hr2 : Hid (Row8 (Lib.bytesWorld wc 5 s) w.heap.size b R []) := Hrow.keep (Lib.bytesWorld_at_old wc 5 s b hbB.out)
              have hby2 := Lib.hid (fun (j : Nat) (hj : j < s.size) => bytes_at wc s hj)
              have Ht2 := Lib.hid (ht.below hbw2)
              go_wp2_with fail
              generalize Lib.bytesWorld wc 5 s = W2 at hbw2 Hr2 hby2 Ht2 ⊢
              go_loopw [13, 15, 78] (fun vj _ i wr => ∃ k J : Nat, k ≤ s.size ∧ i = .int .i64 k ∧ vj = .int .i64 J ∧ J ≤ R ∧ Hid (J = (((tb s).take k).flatMap encQ).length) ∧ Hid (Row8 wr w.heap.size b R (((tb s).take k).flatMap encQ)) ∧ Below w.heap.size w wr ∧
                Hid (∀ (j : Nat) (hj : j < s.size), wr.cell? ⟨wc.heap.size, j, none⟩ = some (.int .u8 ((s[j]'hj).toNat : Int)))) (fun _ _ i _ => s.size - (intOf i).toNat)
              case atStart => exact ⟨0, 0, by omega, rfl, rfl, by omega, by show _ = _; simp, by show Row8 _ _ _ _ _; simpa using Hr2.out, hbw2, hby2⟩
              case round =>
                obtain ⟨k, J, hk, rfl, rfl, hJR, HJ, Hr, hbk, Hby⟩ := hrel
                by_cases hlt : k < s.size
                · have hcell := Hby.out k hlt
                  have htk := Lib.hid (take_succ_some (l := tb s) (k := k) (x := s[k]'hlt) (by rw [List.getElem?_eq_getElem (by rw [tb_length]; exact hlt)]; rfl))
                  have hroom := Lib.hid (enc_room (tb s) k (s[k]'hlt) (by rw [List.getElem?_eq_getElem (by rw [tb_length]; exact hlt)]; rfl))
                  by_cases h32 : (s[k]'hlt).toNat = 32
                  · have h32b : ((((s[k]'hlt).toNat : Nat) : Int) == 32) = true := by rw [beq_iff_eq]; omega
                    have he : Hid (encQ (s[k]'hlt) = [43]) := by show _ = _; simp [encQ, h32, qPlain_32]
                    have hJ1 : J + 1 ≤ R := by
                      have := hroom.out
                      rw [he.out, ← HJ.out, ← hRl.out] at this
                      simpa using this
                    have hJi : (J : Int) < (R : Int) := by omega
                    obtain ⟨x0, hx0⟩ := Hr.out.at_ (show J < R by omega)
                    have hf0 := Hr.out.fro J
                    have Hput : Hid (Row8 (wr.setCell ⟨b, J, none⟩ (.int .u8 43)) w.heap.size b R (((tb s).take (k + 1)).flatMap encQ)) := by
                      show Row8 _ _ _ _ _
                      have := Hr.out.push (by rw [← HJ.out]; omega) 43
                      rw [← HJ.out] at this
                      rw [htk.out, List.flatMap_append, List.flatMap_singleton, he.out]
                      exact this
                    have Hby' : Hid (∀ (j : Nat) (hj : j < s.size), (wr.setCell ⟨b, J, none⟩ (.int .u8 43)).cell? ⟨wc.heap.size, j, none⟩ = some (.int .u8 ((s[j]'hj).toNat : Int))) := fun j hj => (far_cell hbB.out _).trans (Hby.out j hj)
                    clear h32
                    go_wp2_with fail
                    go_roundw
                    case rel => exact ⟨k + 1, J + 1, by omega, by go_num, by go_num, hJ1, by show _ = _; rw [htk.out, List.flatMap_append, List.flatMap_singleton, he.out, List.length_append, ← HJ.out]; rfl, Hput, below_set8 hbk Hr.out.1 _, Hby'⟩
                    case measure => simp [intOf]; omega
                  · have h32b : ((((s[k]'hlt).toNat : Nat) : Int) == 32) = false := by rw [beq_eq_false_iff_ne]; omega
                    by_cases hq : qPlain (s[k]'hlt).toNat = true
                    · have hqn : (!qPlain (s[k]'hlt).toNat) = false := by rw [hq]; rfl
                      have he : Hid (encQ (s[k]'hlt) = [s[k]'hlt]) := by show _ = _; simp [encQ, hq]
                      have hJ1 : J + 1 ≤ R := by
                        have := hroom.out
                        rw [he.out, ← HJ.out, ← hRl.out] at this
                        simpa using this
                      have hJi : (J : Int) < (R : Int) := by omega
                      obtain ⟨x0, hx0⟩ := Hr.out.at_ (show J < R by omega)
                      have hf0 := Hr.out.fro J
                      have Hput : Hid (Row8 (wr.setCell ⟨b, J, none⟩ (.int .u8 ((s[k]'hlt).toNat : Int))) w.heap.size b R (((tb s).take (k + 1)).flatMap encQ)) := by
                        show Row8 _ _ _ _ _
                        have := Hr.out.push (by rw [← HJ.out]; omega) (s[k]'hlt)
                        rw [← HJ.out] at this
                        rw [htk.out, List.flatMap_append, List.flatMap_singleton, he.out]
                        exact this
                      have Hby' : Hid (∀ (j : Nat) (hj : j < s.size), (wr.setCell ⟨b, J, none⟩ (.int .u8 ((s[k]'hlt).toNat : Int))).cell? ⟨wc.heap.size, j, none⟩ = some (.int .u8 ((s[j]'hj).toNat : Int))) := fun j hj => (far_cell hbB.out _).trans (Hby.out j hj)
                      clear h32 hq
                      go_wp2_with (go_at_call 178; refine Hid.out ?_)
                      refine Lib.hid ?_
                      refine (should_any (s[k]'hlt) wr (ht.below hbk)).mono ?_
                      rintro e w1 ⟨rfl, rfl⟩
                      rw [hqn]
                      go_wp2_with fail
                      go_roundw
                      case rel => exact ⟨k + 1, J + 1, by omega, by go_num, by go_num, hJ1, by show _ = _; rw [htk.out, List.flatMap_append, List.flatMap_singleton, he.out, List.length_append, ← HJ.out]; rfl, Hput, below_set8 hbk Hr.out.1 _, Hby'⟩
                      case measure => simp [intOf]; omega
                    · have hqn : (!qPlain (s[k]'hlt).toNat) = true := by simp [hq]
                      have he : Hid (encQ (s[k]'hlt) = [37, hexU ((s[k]'hlt).toNat / 16), hexU ((s[k]'hlt).toNat % 16)]) := by show _ = _; unfold encQ; rw [if_neg hq, if_neg h32]
                      have hJ1 : J + 3 ≤ R := by
                        have := hroom.out
                        rw [he.out, ← HJ.out, ← hRl.out] at this
                        simpa using this
                      have hJi : (J : Int) < (R : Int) := by omega
                      have hJi1 : (J : Int) + 1 < (R : Int) := by omega
                      have hJi2 : (J : Int) + 2 < (R : Int) := by omega
                      clear h32 hq
                      go_wp2_with (go_at_call 178; refine Hid.out ?_)
                      refine Lib.hid ?_
                      refine (should_any (s[k]'hlt) wr (ht.below hbk)).mono ?_
                      rintro e w1 ⟨rfl, rfl⟩
                      rw [hqn]
                      obtain ⟨q1, hq1⟩ : ∃ q, q = (s[k]'hlt).toNat / 16 := ⟨_, rfl⟩
                      obtain ⟨q2, hq2⟩ : ∃ q, q = (s[k]'hlt).toNat % 16 := ⟨_, rfl⟩
                      have hlt256 := (s[k]'hlt).toNat_lt
                      have hq1l : q1 < 16 := by omega
                      have hq2l : q2 < 16 := by omega
                      have hshr : (((s[k]'hlt).toNat : Nat) : Int) / 16 = (q1 : Int) := by omega
                      have hand : bits .and .u8 (((s[k]'hlt).toNat : Nat) : Int) 15 = (q2 : Int) := by rw [hq2]; exact and15 _
                      obtain ⟨X1, hX1⟩ : ∃ X, X = hexU q1 := ⟨_, rfl⟩
                      obtain ⟨X2, hX2⟩ : ∃ X, X = hexU q2 := ⟨_, rfl⟩
                      have hup1 : ∀ h, (⟨#[48, 49, 50, 51, 52, 53, 54, 55, 56, 57, 65, 66, 67, 68, 69, 70]⟩ : ByteArray)[q1]'h = X1 := fun h => by rw [hX1]; exact upper_at hq1l h
                      have hup2 : ∀ h, (⟨#[48, 49, 50, 51, 52, 53, 54, 55, 56, 57, 65, 66, 67, 68, 69, 70]⟩ : ByteArray)[q2]'h = X2 := fun h => by rw [hX2]; exact upper_at hq2l h
                      have he2 : Hid (encQ (s[k]'hlt) = [37, X1, X2]) := by show _ = _; rw [he.out, hX1, hX2, hq1, hq2]
                      have hq1i : (q1 : Int) < 16 := by omega
                      have hq2i : (q2 : Int) < 16 := by omega
                      have Hp1 : Hid (Row8 (wr.setCell ⟨b, J, none⟩ (.int .u8 37)) w.heap.size b R (((tb s).take k).flatMap encQ ++ [37])) := by
                        have := Hr.out.push (by rw [← HJ.out]; omega) 37
                        rw [← HJ.out] at this
                        exact this
                      have hp1l : (((tb s).take k).flatMap encQ ++ [37]).length = J + 1 := by rw [List.length_append, ← HJ.out]; rfl
                      have Hp2 : Hid (Row8 ((wr.setCell ⟨b, J, none⟩ (.int .u8 37)).setCell ⟨b, J + 1, none⟩ (.int .u8 (X1.toNat : Int))) w.heap.size b R (((tb s).take k).flatMap encQ ++ [37] ++ [X1])) := by
                        have := Hp1.out.push (by rw [hp1l]; omega) X1
                        rw [hp1l] at this
                        exact this
                      have hp2l : (((tb s).take k).flatMap encQ ++ [37] ++ [X1]).length = J + 2 := by rw [List.length_append, hp1l]; rfl
                      have Hp3 : Hid (Row8 (((wr.setCell ⟨b, J, none⟩ (.int .u8 37)).setCell ⟨b, J + 1, none⟩ (.int .u8 (X1.toNat : Int))).setCell ⟨b, J + 2, none⟩ (.int .u8 (X2.toNat : Int))) w.heap.size b R (((tb s).take (k + 1)).flatMap encQ)) := by
                        have := Hp2.out.push (by rw [hp2l]; omega) X2
                        rw [hp2l] at this
                        show Row8 _ _ _ _ _
                        rw [htk.out, List.flatMap_append, List.flatMap_singleton, he2.out]
                        simpa using this
                      have Hby' : Hid (∀ (j : Nat) (hj : j < s.size), (((wr.setCell ⟨b, J, none⟩ (.int .u8 37)).setCell ⟨b, J + 1, none⟩ (.int .u8 (X1.toNat : Int))).setCell ⟨b, J + 2, none⟩ (.int .u8 (X2.toNat : Int))).cell? ⟨wc.heap.size, j, none⟩ = some (.int .u8 ((s[j]'hj).toNat : Int))) := fun j hj => (far_cell hbB.out _).trans ((far_cell hbB.out _).trans ((far_cell hbB.out _).trans (Hby.out j hj)))
                      have Hbk := Lib.hid (below_set8 (below_set8 (below_set8 hbk Hr.out.1 (j := J) (.int .u8 37)) Hr.out.1 (j := J + 1) (.int .u8 (X1.toNat : Int))) Hr.out.1 (j := J + 2) (.int .u8 (X2.toNat : Int)))
                      obtain ⟨x0, hx0⟩ := Hr.out.at_ (show J < R by omega)
                      have hf0 := Hr.out.fro J
                      obtain ⟨x1, hx1⟩ := Hp1.out.at_ (show J + 1 < R by omega)
                      have hf1 := Hp1.out.fro (J + 1)
                      obtain ⟨x2, hx2⟩ := Hp2.out.at_ (show J + 2 < R by omega)
                      have hf2 := Hp2.out.fro (J + 2)
                      clear hX1 hX2 hq1 hq2 hp1l hp2l hlt256
                      go_wp2_with fail
                      exact ⟨⟨k + 1, J + 3, by omega, by go_num, by go_num, hJ1, by show _ = _; rw [htk.out, List.flatMap_append, List.flatMap_singleton, he2.out, List.length_append, ← HJ.out]; rfl, Hp3, Hbk.out, Hby'⟩, by simp [intOf]; omega⟩
                · have hkn : k = s.size := by omega
                  have hfin : Hid (Row8 wr w.heap.size b R ((tb s).flatMap encQ)) := by
                    show Row8 _ _ _ _ _
                    have := Hr.out
                    rw [hkn, List.take_of_length_le (by rw [tb_length]; omega)] at this
                    exact this
                  have hcvt := hfin.out.conv (c := cap) hRl.out
                  go_wp2
                  go_ret
                  exact ⟨rfl, hbk⟩

/-- QueryEscape -/
theorem query_any (s : ByteArray) (w : World) (hs : s.size ≤ 10000000) (ht : Tabs w) :
    Calls Tryz.prog 104 #[.string s] w fun e w' => e = .returned (.string ⟨((tb s).flatMap encQ).toArray⟩) ∧ Below w.heap.size w w' := by
  go_enter Tryz.func104, Tryz.ntmps104
  go_wp2_with (go_at_call 143; refine (escape_any s _ hs ht).mono ?_; rintro e w' ⟨rfl, hb⟩)
  go_ret
  exact ⟨rfl, hb⟩
end Go.Proofs.YtjebgfpcmooniaaGreatDoor
