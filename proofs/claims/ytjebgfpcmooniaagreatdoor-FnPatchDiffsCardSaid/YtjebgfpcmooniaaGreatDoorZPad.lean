/- PatchAddPadding: the padding, and the patches with it. -/
import Derived.Test.YtjebgfpcmooniaaGreatDoorZSpMem
import Derived.Test.YtjebgfpcmooniaaGreatDoorZApStep
import Derived.Test.YtjebgfpcmooniaaGreatDoorZSame
import Derived.Test.YtjebgfpcmooniaaGreatDoorZDmp
import Derived.Deep.DeepCutAuto
import Derived.Deep.CutBlock
namespace Go.Proofs.YtjebgfpcmooniaaGreatDoor
open Go Go.RowKit

theorem rune_str (k : Nat) (hk : k ≤ 8) : ∃ b : ByteArray, b.size = 1 ∧ ∀ w, (convert 21 9 (.int .i32 (k : Int))).run Tryz.prog w = .ok (.string b) w := by
  have : k = 0 ∨ k = 1 ∨ k = 2 ∨ k = 3 ∨ k = 4 ∨ k = 5 ∨ k = 6 ∨ k = 7 ∨ k = 8 := by omega
  rcases this with rfl | rfl | rfl | rfl | rfl | rfl | rfl | rfl | rfl
  · exact ⟨⟨#[0]⟩, rfl, fun w => by kernel_rfl⟩
  · exact ⟨⟨#[1]⟩, rfl, fun w => by kernel_rfl⟩
  · exact ⟨⟨#[2]⟩, rfl, fun w => by kernel_rfl⟩
  · exact ⟨⟨#[3]⟩, rfl, fun w => by kernel_rfl⟩
  · exact ⟨⟨#[4]⟩, rfl, fun w => by kernel_rfl⟩
  · exact ⟨⟨#[5]⟩, rfl, fun w => by kernel_rfl⟩
  · exact ⟨⟨#[6]⟩, rfl, fun w => by kernel_rfl⟩
  · exact ⟨⟨#[7]⟩, rfl, fun w => by kernel_rfl⟩
  · exact ⟨⟨#[8]⟩, rfl, fun w => by kernel_rfl⟩
theorem size_app (a b : ByteArray) : (a ++ b).size = a.size + b.size := by rw [← tb_length, tb_append, List.length_append, tb_length, tb_length]

structure PadIn (B : Nat) (w : World) (gd : Nat) (tmo cost dist bits : Int) (th de mar : Nat) (N M K : Nat) (ad : Addr) (n c : Nat) (L : List (Value × P)) (t t' : List UInt8) : Prop where
  dmp : DmpAt w gd tmo cost dist mar bits th de
  gd : gd < B
  row : Rw B w (.slice (some ad) n c) L
  plc : Placed mar t (L.map (·.2)) t'
  ne : L ≠ []
  ok : ∀ p : P, p ∈ L.map (·.2) → (∀ d ∈ p.ds, -1 ≤ d.op ∧ d.op ≤ 1) ∧ (tgtL p.ds).length ≤ N ∧ p.ds.length ≤ K ∧ (∀ d ∈ p.ds, d.t.size ≤ N) ∧ (0 ≤ p.s1 ∧ p.s1 ≤ N) ∧ (0 ≤ p.s2 ∧ p.s2 ≤ N) ∧ (0 ≤ p.l1 ∧ p.l1 ≤ N) ∧ (0 ≤ p.l2 ∧ p.l2 ≤ N)
  big : t.length + (L.map (·.2)).length * N + 4 * mar ≤ M
  mar1 : 1 ≤ mar
  mar8 : mar ≤ 8
  N9 : N ≤ 100000000
  n9 : n ≤ 1000000
  K9 : K ≤ 1000000
def PadPost (B : Nat) (w : World) (mar N M K : Nat) (v : Value) (L : List (Value × P)) (t t' : List UInt8) (e : Ending) (w' : World) : Prop :=
  ∃ (nb : ByteArray) (L' : List (Value × P)), e = .returned (.string nb) ∧ nb.size = mar ∧ Rw B w' v L' ∧ L'.length = L.length ∧ ExS M (tb nb ++ (t ++ tb nb)) (L'.map (·.2)) (tb nb ++ (t' ++ tb nb)) ∧ (∀ x ∈ L', x.2.ds.length ≤ K + 2 ∧ ∀ d ∈ x.2.ds, d.t.size ≤ N + 8) ∧ Below B w w'

/-- the patches behind the padding ahead -/
structure PadMid (mar N M K n : Nat) (np t t' : List UInt8) (Lq : List (Value × P)) : Prop where
  ex : ExL M mar np (np ++ (t ++ np)) (Lq.map (·.2)) (np ++ (t' ++ np))
  len : Lq.length = n
  each : ∀ x ∈ Lq, x.2.ds ≠ [] ∧ x.2.ds.length ≤ K + 1 ∧ (∀ d ∈ x.2.ds, d.t.size ≤ N + 8 ∧ -1 ≤ d.op ∧ d.op ≤ 1) ∧ (0 ≤ x.2.l1 ∧ x.2.l1 ≤ N + 8) ∧ (0 ≤ x.2.l2 ∧ x.2.l2 ≤ N + 8)

section
variable {B : Nat} {w : World} {gd : Nat} {tmo cost dist bits : Int} {th de mar N M K : Nat} {ad : Addr} {n c : Nat} {L Ls : List (Value × P)} {t t' : List UInt8} {y0 : Value × P} {nb : ByteArray}
theorem PadIn.len (h : PadIn B w gd tmo cost dist bits th de mar N M K ad n c L t t') : L.length = n := by have := h.row.pat.len; omega
theorem PadIn.first (h : PadIn B w gd tmo cost dist bits th de mar N M K ad n c L t t') : ∃ y0 Ls, L = y0 :: Ls ∧ y0.2.ds ≠ [] := by
  obtain ⟨y0, Ls, rfl⟩ := List.exists_cons_of_ne_nil h.ne
  have hp := h.plc
  rw [List.map_cons] at hp
  cases hp with
  | cons hs _ => exact ⟨y0, Ls, rfl, hs.ne⟩
theorem placed_ne {mar : Nat} {t t' : List UInt8} {ps : List P} (h : Placed mar t ps t') : ∀ p ∈ ps, p.ds ≠ [] := by
  induction h with
  | nil => simp
  | cons hs _ ih =>
    intro p hp
    rcases List.mem_cons.1 hp with rfl | hp
    · exact hs.ne
    · exact ih p hp
theorem PadIn.rest (h : PadIn B w gd tmo cost dist bits th de mar N M K ad n c (y0 :: Ls) t t') : ∀ x ∈ Ls.map (bumpV mar), x.2.ds ≠ [] ∧ x.2.ds.length ≤ K + 1 ∧ (∀ d ∈ x.2.ds, d.t.size ≤ N + 8 ∧ -1 ≤ d.op ∧ d.op ≤ 1) ∧ (0 ≤ x.2.l1 ∧ x.2.l1 ≤ N + 8) ∧ (0 ≤ x.2.l2 ∧ x.2.l2 ≤ N + 8) := by
  intro x hx
  obtain ⟨y, hy, rfl⟩ := List.mem_map.1 hx
  have hm : y.2 ∈ (y0 :: Ls).map (·.2) := List.mem_map_of_mem (by simp [hy])
  obtain ⟨a1, a2, a3, a4, a5, a6, a7, a8⟩ := h.ok _ hm
  exact ⟨show y.2.ds ≠ [] from placed_ne h.plc _ hm, by show y.2.ds.length ≤ _; omega, fun d hd => ⟨by have := a4 d hd; omega, a1 d hd⟩, ⟨a7.1, by show y.2.l1 ≤ _; omega⟩, ⟨a8.1, by show y.2.l2 ≤ _; omega⟩⟩
theorem map_bump (m : Nat) (Ls : List (Value × P)) : (Ls.map (bumpV m)).map (·.2) = (Ls.map (·.2)).map (bumpP m) := by simp [bumpV, bumpP]
/-- nothing is to be added ahead -/
theorem PadIn.long (h : PadIn B w gd tmo cost dist bits th de mar N M K ad n c L t t') (hnb : nb.size = mar) : PadMid mar N (M - mar) K n (tb nb) t t' (L.map (bumpV mar)) := by
  have hb := h.big
  refine ⟨?_, by rw [List.length_map, h.len], ?_⟩
  · rw [map_bump]
    exact pad_bump (by rw [tb_length, hnb]) N h.plc (fun p hp => (h.ok p hp).1) (fun p hp => (h.ok p hp).2.1) (by omega)
  · obtain ⟨y0, Ls, rfl, _⟩ := h.first
    intro x hx
    rw [List.map_cons] at hx
    rcases List.mem_cons.1 hx with rfl | hx
    · have hm : y0.2 ∈ (y0 :: Ls).map (·.2) := by simp
      obtain ⟨a1, a2, a3, a4, a5, a6, a7, a8⟩ := h.ok _ hm
      exact ⟨show y0.2.ds ≠ [] from placed_ne h.plc _ hm, by show y0.2.ds.length ≤ _; omega, fun d hd => ⟨by have := a4 d hd; omega, a1 d hd⟩, ⟨a7.1, by show y0.2.l1 ≤ _; omega⟩, ⟨a8.1, by show y0.2.l2 ≤ _; omega⟩⟩
    · exact h.rest x hx
theorem PadIn.new (h : PadIn B w gd tmo cost dist bits th de mar N M K ad n c (y0 :: Ls) t t') (hnb : nb.size = mar) {d : D} {r : List D} (hd : y0.2.ds = d :: r) (ho : d.op ≠ 0) (v : Value) :
    PadMid mar N (M - mar) K n (tb nb) t t' ((v, ⟨⟨0, nb⟩ :: y0.2.ds, y0.2.s1, y0.2.s2, y0.2.l1 + mar, y0.2.l2 + mar⟩) :: Ls.map (bumpV mar)) := by
  have hb := h.big
  have hm : y0.2 ∈ (y0 :: Ls).map (·.2) := by simp
  obtain ⟨a1, a2, a3, a4, a5, a6, a7, a8⟩ := h.ok _ hm
  refine ⟨?_, by have := h.len; simpa using this, fun x hx => ?_⟩
  · rw [List.map_cons, map_bump]
    have hp := h.plc
    rw [List.map_cons] at hp hb
    exact pad_head_new (by rw [tb_length, hnb]) rfl N hp (fun p hp => (h.ok p hp).1) (fun p hp => (h.ok p hp).2.1) (by omega) hd ho rfl rfl rfl
  · rcases List.mem_cons.1 hx with rfl | hx
    · have m8 := h.mar8
      refine ⟨by simp, by show (_ :: y0.2.ds).length ≤ _; rw [List.length_cons]; omega, fun x hx => ?_, ⟨by show 0 ≤ y0.2.l1 + (mar : Int); omega, by show y0.2.l1 + (mar : Int) ≤ _; omega⟩, ⟨by show 0 ≤ y0.2.l2 + (mar : Int); omega, by show y0.2.l2 + (mar : Int) ≤ _; omega⟩⟩
      rcases List.mem_cons.1 hx with rfl | hx
      · exact ⟨by show nb.size ≤ _; omega, op0⟩
      · exact ⟨by have := a4 x hx; omega, a1 x hx⟩
    · exact h.rest x hx
theorem PadIn.short (h : PadIn B w gd tmo cost dist bits th de mar N M K ad n c (y0 :: Ls) t t') (hnb : nb.size = mar) {d : D} {r : List D} (hd : y0.2.ds = d :: r) (ho : d.op = 0) (hsh : d.t.size < mar) {x : ByteArray} (hx : tb x = (tb nb).drop d.t.size ++ tb d.t) (v : Value) :
    PadMid mar N (M - mar) K n (tb nb) t t' ((v, ⟨⟨0, x⟩ :: r, y0.2.s1 + mar - (mar - d.t.size), y0.2.s2 + mar - (mar - d.t.size), y0.2.l1 + (mar - d.t.size), y0.2.l2 + (mar - d.t.size)⟩) :: Ls.map (bumpV mar)) := by
  have hb := h.big
  have hm : y0.2 ∈ (y0 :: Ls).map (·.2) := by simp
  obtain ⟨a1, a2, a3, a4, a5, a6, a7, a8⟩ := h.ok _ hm
  have hxs : x.size = mar := by rw [← tb_length, hx, List.length_append, List.length_drop, tb_length, tb_length]; omega
  refine ⟨?_, by have := h.len; simpa using this, fun q hq => ?_⟩
  · rw [List.map_cons, map_bump]
    have hp := h.plc
    rw [List.map_cons] at hp hb
    exact pad_head_short (by rw [tb_length, hnb]) rfl N hp (fun p hp => (h.ok p hp).1) (fun p hp => (h.ok p hp).2.1) (by omega) hd ho hsh hx rfl (by show y0.2.s2 + (mar : Int) - (mar - d.t.size) = _; omega) (by show y0.2.l1 + ((mar : Int) - d.t.size) = _; omega)
  · rcases List.mem_cons.1 hq with rfl | hq
    · have m8 := h.mar8
      refine ⟨by simp, ?_, fun y hy => ?_, ⟨by show 0 ≤ y0.2.l1 + ((mar : Int) - d.t.size); omega, by show y0.2.l1 + ((mar : Int) - d.t.size) ≤ _; omega⟩, ⟨by show 0 ≤ y0.2.l2 + ((mar : Int) - d.t.size); omega, by show y0.2.l2 + ((mar : Int) - d.t.size) ≤ _; omega⟩⟩
      · show (_ :: r).length ≤ _
        rw [hd, List.length_cons] at a3
        rw [List.length_cons]; omega
      · rcases List.mem_cons.1 hy with rfl | hy
        · exact ⟨by show x.size ≤ _; omega, op0⟩
        · exact ⟨by have := a4 y (by rw [hd]; simp [hy]); omega, a1 y (by rw [hd]; simp [hy])⟩
    · exact h.rest q hq
end

/-- the patches behind both paddings -/
structure PadFin (N M K n : Nat) (np t t' : List UInt8) (L' : List (Value × P)) : Prop where
  ex : ExS M (np ++ (t ++ np)) (L'.map (·.2)) (np ++ (t' ++ np))
  len : L'.length = n
  each : ∀ x ∈ L', x.2.ds.length ≤ K + 2 ∧ ∀ d ∈ x.2.ds, d.t.size ≤ N + 8
section
variable {mar N M K n : Nat} {nb : ByteArray} {t t' : List UInt8} {Li : List (Value × P)} {xq : Value × P} {rq : List D} {dq : D}
theorem PadMid.old (h : PadMid mar N (M - mar) K n (tb nb) t t' (Li ++ [xq])) : ∀ x ∈ Li ++ [xq], x.2.ds.length ≤ K + 2 ∧ ∀ d ∈ x.2.ds, d.t.size ≤ N + 8 := fun x hx => by
  obtain ⟨_, a, b, _⟩ := h.each x hx
  exact ⟨by omega, fun d hd => (b d hd).1⟩
theorem PadMid.fin_long (h : PadMid mar N (M - mar) K n (tb nb) t t' (Li ++ [xq])) : PadFin N M K n (tb nb) t t' (Li ++ [xq]) :=
  ⟨h.ex.exS.mono (by omega), h.len, h.old⟩
theorem PadMid.fin_new (h : PadMid mar N (M - mar) K n (tb nb) t t' (Li ++ [xq])) (hM : mar ≤ M) (m8 : mar ≤ 8) (hnb : nb.size = mar) (hd : xq.2.ds = rq ++ [dq]) (ho : dq.op ≠ 0) (v : Value) :
    PadFin N M K n (tb nb) t t' (Li ++ [(v, ⟨xq.2.ds ++ [⟨0, nb⟩], xq.2.s1, xq.2.s2, xq.2.l1 + mar, xq.2.l2 + mar⟩)]) := by
  have hl := h.len
  refine ⟨?_, by rw [← hl]; simp, fun x hx => ?_⟩
  · have he := h.ex
    rw [List.map_append, List.map_cons, List.map_nil] at he ⊢
    have := pad_last_new (q := ⟨xq.2.ds ++ [⟨0, nb⟩], xq.2.s1, xq.2.s2, xq.2.l1 + mar, xq.2.l2 + mar⟩) (by rw [tb_length, hnb]) rfl he hd ho rfl rfl rfl
    exact this.mono (by omega)
  · rcases List.mem_append.1 hx with hx | hx
    · exact h.old x (by simp [hx])
    · rw [List.mem_singleton.1 hx]
      obtain ⟨_, a, b, _⟩ := h.each xq (by simp)
      refine ⟨by show (xq.2.ds ++ [_]).length ≤ _; rw [List.length_append, List.length_singleton]; omega, fun d hd => ?_⟩
      rcases List.mem_append.1 hd with hd | hd
      · exact (b d hd).1
      · rw [List.mem_singleton.1 hd]; show nb.size ≤ _; omega
theorem PadMid.fin_short (h : PadMid mar N (M - mar) K n (tb nb) t t' (Li ++ [xq])) (hM : mar ≤ M) (m8 : mar ≤ 8) (hnb : nb.size = mar) (hd : xq.2.ds = rq ++ [dq]) (ho : dq.op = 0) (hsh : dq.t.size < mar) {x : ByteArray} (hx : tb x = tb dq.t ++ (tb nb).take (mar - dq.t.size)) (v : Value) :
    PadFin N M K n (tb nb) t t' (Li ++ [(v, ⟨rq ++ [⟨0, x⟩], xq.2.s1, xq.2.s2, xq.2.l1 + (mar - dq.t.size), xq.2.l2 + (mar - dq.t.size)⟩)]) := by
  have hl := h.len
  have hxs : x.size = mar := by rw [← tb_length, hx, List.length_append, List.length_take, tb_length, tb_length]; omega
  refine ⟨?_, by rw [← hl]; simp, fun y hy => ?_⟩
  · have he := h.ex
    rw [List.map_append, List.map_cons, List.map_nil] at he ⊢
    have := pad_last_short (q := ⟨rq ++ [⟨0, x⟩], xq.2.s1, xq.2.s2, xq.2.l1 + (mar - dq.t.size), xq.2.l2 + (mar - dq.t.size)⟩) (by rw [tb_length, hnb]) he hd ho hsh hx rfl rfl (by show xq.2.l1 + ((mar : Int) - dq.t.size) = _; omega)
    exact this.mono (by omega)
  · rcases List.mem_append.1 hy with hy | hy
    · exact h.old y (by simp [hy])
    · rw [List.mem_singleton.1 hy]
      obtain ⟨_, a, b, _⟩ := h.each xq (by simp)
      rw [hd] at a b
      refine ⟨by show (rq ++ [_]).length ≤ _; rw [List.length_append, List.length_singleton] at a ⊢; omega, fun d hd => ?_⟩
      rcases List.mem_append.1 hd with hd | hd
      · exact (b d (by simp [hd])).1
      · rw [List.mem_singleton.1 hd]; show x.size ≤ _; omega
end

set_option maxRecDepth 100000 in
set_option maxHeartbeats 4000000 in
theorem pad_any {B : Nat} {w : World} {gd : Nat} {tmo cost dist bits : Int} {th de mar N M K : Nat} {ad : Addr} {n c : Nat} {L : List (Value × P)} {t t' : List UInt8} (h : Hid (PadIn B w gd tmo cost dist bits th de mar N M K ad n c L t t')) :
    Calls Tryz.prog 96 #[.pointer (some ⟨gd, 0, none⟩), .slice (some ad) n c] w (PadPost B w mar N M K (.slice (some ad) n c) L t t') := by
  obtain ⟨y0, Ls, rfl, hne0⟩ := h.out.first
  have m1 := h.out.mar1
  have m8 := h.out.mar8
  have hn9 := h.out.n9
  have y4 := blk_cell h.out.dmp 4
  simp at y4
  go_enter Tryz.func96, Tryz.ntmps96
  go_wp2
  go_loop [6, 7] (fun v6 v7 => ∃ (k : Nat) (nb : ByteArray), 1 ≤ k ∧ k ≤ mar + 1 ∧ v7 = .int .i64 k ∧ v6 = .string nb ∧ Hid (nb.size + 1 = k)) (fun _ v7 => mar + 2 - (intOf v7).toNat)
  case atStart => exact ⟨1, ⟨#[]⟩, by omega, by omega, rfl, rfl, rfl⟩
  case round =>
    obtain ⟨k, nb, hk1, hk, rfl, rfl, Hnb⟩ := hrel
    by_cases hlt : k ≤ mar
    · obtain ⟨b, hb, hcv⟩ := rune_str k (by omega)
      have Hb := Lib.hid hb
      have hw32 : IntKind.i32.wrap (k : Int) = (k : Int) := by
        rw [IntKind.wrap_i32]; omega
      have hb1 : b.size ≤ 8 := by omega
      have hnb1 : nb.size ≤ 8 := by have := Hnb.out; omega
      clear hb
      go_wp2
      go_round
      case rel => exact ⟨k + 1, nb ++ b, by omega, by omega, by go_num, rfl, by show _ = _; rw [size_app, Hb.out]; have := Hnb.out; omega⟩
      case measure => simp [intOf]; omega
    · have hke : Hid (nb.size = mar) := by show _ = _; have := Hnb.out; omega
      clear hk1 hk
      go_wp2
      go_loopw [29] (fun i wr => ∃ (k : Nat) (L1 : List (Value × P)), k ≤ n ∧ i = .int .i64 k ∧ Hid (L1 = ((y0 :: Ls).take k).map (bumpV mar) ++ (y0 :: Ls).drop k) ∧ Hid (Rw B wr (.slice (some ad) n c) L1) ∧ Below B w wr) (fun i _ => n - (intOf i).toNat)
      case atStart => exact ⟨0, y0 :: Ls, by omega, rfl, rfl, h.out.row, Below.refl _ _⟩
      case round =>
        obtain ⟨k, L1, hk, rfl, HL1, HR, hb⟩ := hrel
        rename World => WA
        have hLn : (y0 :: Ls).length = n := h.out.len
        by_cases hlt : k < n
        · obtain ⟨x, hx⟩ : ∃ x, (y0 :: Ls)[k]? = some x := ⟨_, List.getElem?_eq_getElem (by omega)⟩
          have hx1 : L1[k]? = some x := by rw [HL1.out]; exact bump_at hx
          have ok := h.out.ok x.2 (List.mem_map_of_mem (List.mem_of_getElem? hx))
          obtain ⟨_, _, _, _, ⟨o1, o2⟩, ⟨o3, o4⟩, _, _⟩ := ok
          have hN9 := h.out.N9
          obtain ⟨c0, c1, c2, c3, c4, f0, f1, f2, f3, f4⟩ := HR.out.cellsA hx1
          have HR1 := Lib.hid ((HR.out.numA hx1).1 (x.2.s1 + mar))
          have Hx := Lib.hid hx
          have Hx1 := Lib.hid hx1
          have Hadr := HR.out.adr
          clear hx hx1 hLn
          have hadB : B ≤ ad.block := by obtain ⟨g, rfl, hg, _⟩ := Hadr; exact hg
          have HR2 := Lib.hid ((HR1.out.numA (i := k) (x := (x.1, ⟨x.2.ds, x.2.s1 + mar, x.2.s2, x.2.l1, x.2.l2⟩)) (by rw [List.getElem?_set_self (List.getElem?_eq_some_iff.1 Hx1.out).1])).2.1 (x.2.s2 + mar))
          have hb2 := below_setA (j := k * 5) (o := (ad.add (k * 5)).off + 2) (below_setA (j := k * 5) (o := (ad.add (k * 5)).off + 1) hb hadB (.int .i64 (x.2.s1 + mar))) hadB (.int .i64 (x.2.s2 + mar))
          go_wp2_with fail
          go_roundw
          case rel => exact ⟨k + 1, _, by omega, by go_num, by show _ = _; rw [List.set_set, HL1.out]; exact bump_set Hx.out, HR2, hb2⟩
          case measure => simp [intOf]; omega
        · have hkn : k = n := by omega
          have HLf : Hid (L1 = bumpV mar y0 :: Ls.map (bumpV mar)) := by show _ = _; rw [HL1.out, hkn, List.take_of_length_le (by omega), List.drop_eq_nil_of_le (by omega), List.append_nil, List.map_cons]
          have hn0 : 0 < n := by rw [← hLn]; simp
          clear hkn
          have HR0 : Hid (Rw B WA (.slice (some ad) n c) (bumpV mar y0 :: Ls.map (bumpV mar))) := by
            show Rw _ _ _ _
            rw [← HLf.out]; exact HR.out
          obtain ⟨c0, c1, c2, c3, c4, f0, f1, f2, f3, f4⟩ := HR0.out.cellsA (i := 0) rfl
          simp only [Nat.zero_mul, add_zero', bumpV] at c0 c1 c2 c3 c4 f0 f1 f2 f3 f4
          obtain ⟨d, r, hd⟩ := List.exists_cons_of_ne_nil hne0
          have hoy : OwnL dP 128 2 WA B y0.1 y0.2.ds := HR0.out.each (bumpV mar y0) (by simp)
          obtain ⟨g0, q0, hy1, hg0, hg0B0⟩ := hoy.shape (by rw [hd]; simp)
          have hrl : y0.2.ds.length = r.length + 1 := by rw [hd]; rfl
          rw [hrl] at hy1
          have hoy2 := hoy
          rw [hy1, hd] at hoy2
          have k0 := hoy2.at_cells 0 (.int .i8 d.op) rfl
          have k1 := hoy2.at_cells 1 (.string d.t) rfl
          rw [add_zero'] at k0
          rw [addr_add] at k1
          have fk1 : WA.frozen? ⟨g0, 1, none⟩ = false := own_fro hoy2 1
          rw [hy1] at c0
          have okk := h.out.ok y0.2 (by simp)
          obtain ⟨z1, z2, z3, z4, ⟨z5, z6⟩, ⟨z7, z8⟩, ⟨z9, z10⟩, ⟨z11, z12⟩⟩ := okk
          have hN9 := h.out.N9
          have hdN := z4 d (by rw [hd]; simp)
          have hK9 := h.out.K9
          have hrK : r.length + 1 ≤ K := by omega
          have hz0 : (((r.length : Int) + 1) == 0) = false := by rw [beq_eq_false_iff_ne]; omega
          obtain ⟨b, hb0⟩ : ∃ b : Bool, (d.op != 0) = b := ⟨_, rfl⟩
          have Hd := Lib.hid hd
          have Hy1 := Lib.hid hy1
          have Hoy := Lib.hid hoy
          have Hrl := Lib.hid hrl
          have hadB : B ≤ ad.block := by obtain ⟨g, rfl, hg, _⟩ := HR0.out.adr; exact hg
          have hB9 : B ≤ WA.heap.size := by obtain ⟨g, _, hg, hg2⟩ := HR0.out.adr; omega
          clear hd hy1 hoy hoy2 hrl hLn z1 z2 z3 z4
          go_upto_if 66 with (fail)
          go_cut [] (fun wx => ∃ Lq : List (Value × P), Hid (Rw B wx (.slice (some ad) n c) Lq) ∧ Hid (PadMid mar N (M - mar) K n (tb nb) t t' Lq) ∧ Below B w wx)
          case first =>
            cases b with
            | true =>
              have ho : d.op ≠ 0 := by simpa using hb0
              have Ho := Lib.hid ho
              clear ho
              have c0' : ∀ o, (WA.alloc o).cell? ad = some (.slice (some ⟨g0, 0, none⟩) (r.length + 1) q0) := fun o => (World.cell?_alloc_lt WA o ad (by obtain ⟨g, rfl, _, hg⟩ := HR0.out.adr; exact hg)).trans c0
              go_wp2_with (at_builtin; refine Hid.out ?_)
              refine Lib.hid ?_
              have hol := OwnL.lit1 (f := dP) (e := 128) (sz := 2) (B := B) (x := ⟨0, nb⟩) (w := WA.alloc (.cells #[.int .i8 0, .string nb] 128)) (g := WA.heap.size) (heap_alloc_new _ _) hB9 rfl rfl
              have hos := Hoy.out.alloc (.cells #[.int .i8 0, .string nb] 128)
              rw [Hy1.out] at hos
              refine wpList_appendL1 (P := Tryz.prog) (v := .slice (some ⟨WA.heap.size, 0, none⟩) 1 1) st77 rfl (.tmp 70) (.tmp 74) rfl (by rfl) hol y0.2.ds ⟨g0, 0, none⟩ (r.length + 1) q0 (by rfl) Hrl.out.symm (by omega) hos.at_cells (by intro u hu; obtain ⟨d, _, h⟩ := List.mem_flatMap.1 hu; exact dP_one d u h) dP_len (by rw [Hrl.out]; simp; omega) (le_al hB9) ?_
              intro g1 c1' w1 hown1 hg1 hat1
              generalize ([(⟨0, nb⟩ : D)].length + (r.length + 1)) = q at hown1 ⊢
              have hbw : Below WA.heap.size WA w1 := ((Below.refl _ _).alloc (Nat.le_refl _) _).trans (below_of_gb hg1 (le_al (Nat.le_refl _)) (fun g e => by rw [← Option.some.inj e]; exact Nat.le_refl _))
              have HS := HR0.out.swapA (i := 0) (x := bumpV mar y0) rfl (gb_of_below hbw _) hown1 (.inr fun y e => by
                have e : g1 = y := by simpa [Value.ownBlock] using e
                rcases hat1 with h | h <;> simp [Value.ownBlock] at h <;> omega)
              simp only [Nat.zero_mul, add_zero', List.set_cons_zero, bumpV] at HS
              obtain ⟨-, p1, p2, p3, p4, -, e1, e2, e3, e4⟩ := HS.cells0
              simp only at p1 p2 p3 p4
              have hf0 := (gb_of_below hbw none)
              have fa : w1.frozen? ad = false := by
                obtain ⟨g, rfl, _, hg⟩ := HR0.out.adr
                rw [frz hbw hg]; exact f0
              have ca : ∃ u, w1.cell? ad = some u := ⟨_, (hbw.cell (by obtain ⟨g, rfl, _, hg⟩ := HR0.out.adr; exact hg)).trans c0⟩
              obtain ⟨ua, ca⟩ := ca
              have HF4 := Lib.hid (HS.four y0.2.s1 y0.2.s2 (y0.2.l1 + mar) (y0.2.l2 + mar))
              have HM := Lib.hid (h.out.new hke.out Hd.out Ho.out (.slice (some ⟨g1, 0, none⟩) q c1'))
              have HB := below_four ((hb.trans (hbw.mono hB9)).setCell (p := ad) hadB (.slice (some ⟨g1, 0, none⟩) q c1')) hadB (.int .i64 y0.2.s1) (.int .i64 y0.2.s2) (.int .i64 (y0.2.l1 + mar)) (.int .i64 (y0.2.l2 + mar))
              have hx1 : y0.2.s1 + mar - mar = y0.2.s1 := by omega
              have hx2 : y0.2.s2 + mar - mar = y0.2.s2 := by omega
              clear hol hos hown1 hg1 hat1 HS hf0 hbw c0' hx1 hx2
              go_wp2_with fail
              go_meet
              exact ⟨_, HF4, HM, HB⟩
            | false =>
              have ho : d.op = 0 := by simpa using hb0
              have Ho := Lib.hid ho
              clear ho
              by_cases hsh : d.t.size < mar
              · obtain ⟨z, hz⟩ : ∃ z : ByteArray, nb.extract d.t.size nb.size = z := ⟨_, rfl⟩
                obtain ⟨x, hx⟩ : ∃ x : ByteArray, x = z ++ d.t := ⟨_, rfl⟩
                have hzs : z.size ≤ 8 := by
                  have h1 : z.size = nb.size - d.t.size := by rw [← hz, ← tb_length, tb_extract, List.length_drop, List.length_take, tb_length]; omega
                  have h2 : nb.size = mar := hke.out
                  omega
                have hxt : tb x = (tb nb).drop d.t.size ++ tb d.t := by
                  rw [hx, tb_append, ← hz, tb_extract, List.take_of_length_le (by rw [tb_length]; exact Nat.le_refl _)]
                have hcat : ∀ w : World, (Op.stringOp .add z d.t).run Tryz.prog w = .ok (.string x) w := fun w => by rw [hx]; exact run_string_add_sum w z d.t (by omega)
                have hnbs : nb.size = mar := hke.out
                have hnb8 : nb.size ≤ 8 := by omega
                have hle : d.t.size ≤ nb.size := by omega
                have HM := Lib.hid (h.out.short hnbs Hd.out Ho.out hsh hxt y0.1)
                clear hx hxt hnbs
                go_wp2_with fail
                have HRd := Lib.hid HR0.out.drew
                have hbd := hb.drew
                have c0d : WA.drew.cell? ad = some (.slice (some ⟨g0, 0, none⟩) (r.length + 1) q0) := c0
                have k1d : WA.drew.cell? ⟨g0, 1, none⟩ = some (.string d.t) := k1
                have fkd : WA.drew.frozen? ⟨g0, 1, none⟩ = false := fk1
                refine region_tail 22 (by kernel_rfl) (by kernel_rfl) ?_
                clear c0 c1 c2 c3 c4 f0 f1 f2 f3 f4 k0 k1 fk1 hb HR HR0 Hoy
                generalize WA.drew = WD at HRd hbd c0d k1d fkd ⊢
                have HS := HRd.out.text (i := 0) (x := bumpV mar y0) (k := 0) (d := d) (t := x) rfl Hy1.out (by show y0.2.ds[0]? = _; rw [Hd.out]; rfl)
                simp only [Nat.zero_mul, Nat.zero_add, List.set_cons_zero, bumpV, Hd.out, Ho.out] at HS
                have HF4 := Lib.hid (HS.four (y0.2.s1 + mar - (mar - d.t.size)) (y0.2.s2 + mar - (mar - d.t.size)) (y0.2.l1 + (mar - d.t.size)) (y0.2.l2 + (mar - d.t.size)))
                have HB := below_four (hbd.setCell (p := ⟨g0, 1, none⟩) hg0B0 (.string x)) hadB (.int .i64 (y0.2.s1 + mar - (mar - d.t.size))) (.int .i64 (y0.2.s2 + mar - (mar - d.t.size))) (.int .i64 (y0.2.l1 + (mar - d.t.size))) (.int .i64 (y0.2.l2 + (mar - d.t.size)))
                simp only [List.take_succ_cons, List.take_zero, List.drop_succ_cons, List.drop_zero]
                repeat still_step
                refine wpStill_nil ?_
                obtain ⟨-, p1, p2, p3, p4, -, e1, e2, e3, e4⟩ := HS.cells0
                simp only at p1 p2 p3 p4
                clear HS
                go_wp2_with fail
                go_meet
                exact ⟨_, HF4, HM, HB⟩
              · have hsh' : ¬ (d.t.size : Int) < (mar : Int) := by omega
                have HM := Lib.hid (h.out.long hke.out)
                go_wp2_with fail
                go_meet
                exact ⟨_, HR0, HM, hb⟩
          case rest =>
            obtain ⟨Lq, HRq, HMq, hbq⟩ := hcut
            rename World => WC
            obtain ⟨m, hm⟩ : ∃ m, n = m + 1 := ⟨n - 1, by omega⟩
            have hmn : m < n := by omega
            obtain ⟨Li, xq, hLq⟩ := dropLast_snoc_some Lq (by intro e; have := HMq.out.len; rw [e] at this; simp at this; omega)
            subst hLq
            have hLim : Li.length = m := by have := HMq.out.len; rw [List.length_append, List.length_singleton] at this; omega
            obtain ⟨v1, v2, v3, ⟨v5, v6⟩, ⟨v7, v8⟩⟩ := HMq.out.each xq (by simp)
            obtain ⟨rq, dq, hdq⟩ := dropLast_snoc_some xq.2.ds v1
            have hdq3 := v3 dq (by rw [hdq]; simp)
            have hatq : (Li ++ [xq])[m]? = some xq := by rw [List.getElem?_append_right (by omega), hLim, Nat.sub_self]; rfl
            obtain ⟨c0, c1, c2, c3, c4, f0, f1, f2, f3, f4⟩ := HRq.out.cellsA hatq
            have hoq : OwnL dP 128 2 WC B xq.1 xq.2.ds := HRq.out.each xq (by simp)
            obtain ⟨g2, q2, hyq, hg2, hg2B⟩ := hoq.shape (by rw [hdq]; simp)
            obtain ⟨e9, he9⟩ : ∃ e, e = rq.length + 1 := ⟨_, rfl⟩
            have hrq : xq.2.ds.length = e9 := by rw [hdq, he9]; simp
            rw [hrq] at hyq
            have hel : rq.length < e9 := by omega
            have hoq2 := hoq
            rw [hyq, hdq] at hoq2
            have k0 := hoq2.at_cells (rq.length * 2) (.int .i8 dq.op) (by have := flat_at dP_len (rq ++ [dq]) rq.length dq (by simp) 0 (by omega); rw [Nat.add_zero] at this; rw [this]; rfl)
            have k1 := hoq2.at_cells (rq.length * 2 + 1) (.string dq.t) (by have := flat_at dP_len (rq ++ [dq]) rq.length dq (by simp) 1 (by omega); rw [this]; rfl)
            rw [addr_add] at k0 k1
            have fk1 : WC.frozen? ⟨g2, rq.length * 2 + 1, none⟩ = false := own_fro hoq2 _
            rw [hyq] at c0
            have hz1 : ((e9 : Int) == 0) = false := by rw [beq_eq_false_iff_ne]; omega
            have hz2 : ((n : Int) - 1) = m := by omega
            clear hm
            have hz3 : ((e9 : Int) - 1) = rq.length := by omega
            obtain ⟨b2, hb2⟩ : ∃ b : Bool, (dq.op != 0) = b := ⟨_, rfl⟩
            have Hdq := Lib.hid hdq
            have Hyq := Lib.hid hyq
            have Hoq := Lib.hid hoq
            have Hrq := Lib.hid hrq
            have Hatq := Lib.hid hatq
            have HLim := Lib.hid hLim
            have hK9 := h.out.K9
            have hrK2 : e9 ≤ K + 1 := by omega
            have hN9' := h.out.N9
            obtain ⟨hdqs, hdq1, hdq2⟩ := hdq3
            clear hdq hyq hoq hoq2 hrq hatq hLim v1 v2 v3 he9
            go_wp2_with fail
            go_quiet (fail)
            have HRd := Lib.hid (HRq.out.drewN nq)
            have hbd := below_drewN hbq nq
            clear k0 k1 fk1 c0 c1 c2 c3 c4 f0 f1 f2 f3 f4 hbq Hoq HRq
            generalize WC.drewN nq = WD at HRd hbd ⊢
            have hadB : B ≤ ad.block := by obtain ⟨g, rfl, hg, _⟩ := HRd.out.adr; exact hg
            have hM4 : mar ≤ M := by have := h.out.big; omega
            have hWDB : B ≤ WD.heap.size := by obtain ⟨g, _, hg, hg2⟩ := HRd.out.adr; omega
            cases b2 with
            | true =>
              have ho : dq.op ≠ 0 := by simpa using hb2
              have Ho := Lib.hid ho
              obtain ⟨c0, -, -, -⟩ := HRd.out.lastF Hatq.out Hyq.out Hdq.out
              have hod : OwnL dP 128 2 WD B (.slice (some ⟨g2, 0, none⟩) e9 q2) xq.2.ds := by
                have := HRd.out.each xq (List.mem_of_getElem? Hatq.out)
                rw [Hyq.out] at this; exact this
              have Hod := Lib.hid hod
              clear ho hod
              go_wp2_with (at_builtin; refine Hid.out ?_)
              refine Lib.hid ?_
              refine wpList_push (P := Tryz.prog) (v := .slice (some ⟨g2, 0, none⟩) e9 q2) st77 rfl (.tmp 220) (.tmp 223) rfl rfl (Hod.out.alloc _) ⟨0, nb⟩ ⟨WD.heap.size, 0, none⟩ 1 (by rfl) dP_len (dP_one _) (by rw [Hrq.out]; omega) (le_al hWDB) (cells2_of (heap_alloc_new _ _)) ?_
              intro g3 c3' w1 hown1 hg1 hat1
              have hgb : WD.grownBy w1 xq.1.ownBlock := by
                rw [Hyq.out]
                exact gb_trans (gb_alloc (gb_refl _ _) _) hg1 (.inl rfl)
              generalize (xq.2.ds.length + 1) = q at hown1 ⊢
              have HS := HRd.out.swapA (i := m) Hatq.out hgb hown1 (by
                rw [Hyq.out]
                rcases hat1 with h | h
                · exact .inl h.symm
                · exact .inr fun y e => by
                    have e : g3 = y := by simpa [Value.ownBlock] using e
                    simp at h; omega)
              rw [set_last HLim.out] at HS
              obtain ⟨-, -, -, p3, p4, -, -, -, e3, e4⟩ := HS.cellsA (get_last HLim.out _)
              simp only at p3 p4
              have hb1 : Below B w w1 := hbd.trans (below_of_gb hgb hWDB (fun g e => ((HRd.out.each xq (List.mem_of_getElem? Hatq.out)).lt g e).1))
              have fa : w1.frozen? (ad.add (m * 5)) = false := by
                have := HRd.out.pat.kept hgb (own_ne HRd.out.pat (HRd.out.each xq (List.mem_of_getElem? Hatq.out)) (by omega))
                obtain ⟨g, rfl, _, _⟩ := HRd.out.adr
                rw [addr_add]; exact own_fro this _
              obtain ⟨ua, ca⟩ : ∃ u, w1.cell? (ad.add (m * 5)) = some u := by
                have hp := HRd.out.pat.kept hgb (own_ne HRd.out.pat (HRd.out.each xq (List.mem_of_getElem? Hatq.out)) (by omega))
                obtain ⟨g, rfl, _, _⟩ := HRd.out.adr
                have := hp.at_cells (m * 5 + 0) xq.1 (by rw [flat_at pvP_len _ m xq Hatq.out 0 (by omega)]; rfl)
                exact ⟨_, this⟩
              have HF2 := Lib.hid (HS.two HLim.out (xq.2.l1 + mar) (xq.2.l2 + mar))
              have HM := Lib.hid (HMq.out.fin_new hM4 m8 hke.out Hdq.out Ho.out (.slice (some ⟨g3, 0, none⟩) q c3'))
              have HB := below_setA (j := m * 5) (o := (ad.add (m * 5)).off + 4) (below_setA (j := m * 5) (o := (ad.add (m * 5)).off + 3) (hb1.setCell (p := ad.add (m * 5)) (by rw [block_of_add]; exact hadB) (.slice (some ⟨g3, 0, none⟩) q c3')) hadB (.int .i64 (xq.2.l1 + mar))) hadB (.int .i64 (xq.2.l2 + mar))
              clear hown1 hg1 hat1 HS hgb hb1
              go_wp2_with fail
              go_ret
              exact ⟨nb, _, rfl, hke.out, HF2.out, by rw [HM.out.len]; exact h.out.len.symm, HM.out.ex, HM.out.each, HB⟩
            | false =>
              have ho : dq.op = 0 := by simpa using hb2
              have Ho := Lib.hid ho
              clear ho
              obtain ⟨c0, k0, k1, fk⟩ := HRd.out.lastF Hatq.out Hyq.out Hdq.out
              by_cases hsh : dq.t.size < mar
              · have hnbs : nb.size = mar := hke.out
                have hnb8 : nb.size ≤ 8 := by omega
                obtain ⟨e10, he10⟩ : ∃ e, e = mar - dq.t.size := ⟨_, rfl⟩
                have hz4 : (mar : Int) - (dq.t.size : Int) = (e10 : Int) := by omega
                have hz5 : e10 ≤ nb.size := by omega
                obtain ⟨z, hz⟩ : ∃ z : ByteArray, nb.extract 0 e10 = z := ⟨_, rfl⟩
                have hzs : z.size ≤ 8 := by
                  have h1 : z.size = min e10 nb.size := by rw [← hz, ← tb_length, tb_extract, List.drop_zero, List.length_take, tb_length]
                  omega
                obtain ⟨x, hx⟩ : ∃ x : ByteArray, x = dq.t ++ z := ⟨_, rfl⟩
                have hxt : tb x = tb dq.t ++ (tb nb).take (mar - dq.t.size) := by
                  rw [hx, tb_append, ← hz, tb_extract, List.drop_zero, he10]
                have hcat : ∀ w : World, (Op.stringOp .add dq.t z).run Tryz.prog w = .ok (.string x) w := fun w => by rw [hx]; exact run_string_add_sum w dq.t z (by omega)
                have HM := Lib.hid (HMq.out.fin_short hM4 m8 hnbs Hdq.out Ho.out hsh hxt xq.1)
                rw [hz4] at HM
                clear he10
                have hwz : IntKind.i64.wrap (rq.length : Int) = (rq.length : Int) := by rw [IntKind.wrap_i64]; omega
                have hwz2 : IntKind.i64.wrap ((e9 : Int) - 1) = (rq.length : Int) := by rw [hz3]; exact hwz
                clear hx hxt hnbs
                go_wp2_with fail
                go_quiet (fail)
                have HRe := Lib.hid (HRd.out.drewN nq)
                have hbe := below_drewN hbd nq
                clear c0 k0 k1 fk HRd hbd
                generalize WD.drewN nq = WE at HRe hbe ⊢
                obtain ⟨c0, k0, k1, fk⟩ := HRe.out.lastF Hatq.out Hyq.out Hdq.out
                go_wp2_with fail
                have had : (ad.add (m * 5)).block < WE.heap.size := by rw [block_of_add]; obtain ⟨g, rfl, _, hg⟩ := HRe.out.adr; exact hg
                have hg2E : g2 < WE.heap.size := by
                  have := (HRe.out.each xq (List.mem_of_getElem? Hatq.out)).lt g2 (by rw [Hyq.out]; rfl)
                  exact this.2
                go_region_held3 (fun w' => w'.cell? (ad.add (m * 5)) = some (.slice (some ⟨g2, 0, none⟩) e9 q2) ∧ w'.cell? ⟨g2, rq.length * 2, none⟩ = some (.int .i8 dq.op) ∧ w'.cell? ⟨g2, rq.length * 2 + 1, none⟩ = some (.string dq.t))
                  (first | exact trivial | go_keep) (fail)
                have hWEB : B ≤ WE.heap.size := by obtain ⟨g, _, hg, hg2⟩ := HRe.out.adr; omega
                have HRf := Lib.hid (HRe.out.alloc (.cells #[.int .i8 dq.op, .string dq.t] 128)).drew
                have hbf := (hbe.alloc hWEB (.cells #[.int .i8 dq.op, .string dq.t] 128)).drew
                have hnew : ((WE.alloc (.cells #[.int .i8 dq.op, .string dq.t] 128)).drew).heap[WE.heap.size]? = some (.cells #[.int .i8 dq.op, .string dq.t] 128 (0, 0)) := heap_alloc_new _ _
                have q1 : ((WE.alloc (.cells #[.int .i8 dq.op, .string dq.t] 128)).drew).cell? ⟨WE.heap.size, 1, none⟩ = some (.string dq.t) := by rw [blk_cell hnew]; rfl
                clear c0 k0 k1 fk HRe hbe hnew had hg2E
                generalize (WE.alloc (.cells #[.int .i8 dq.op, .string dq.t] 128)).drew = WF at HRf hbf q1 ⊢
                go_wp2_with fail
                have HRg := Lib.hid HRf.out.drew
                have hbg := hbf.drew
                clear HRf hbf q1
                refine region_tail 18 (by kernel_rfl) (by kernel_rfl) ?_
                generalize WF.drew = WG at HRg hbg ⊢
                obtain ⟨c0, k0, k1, fk⟩ := HRg.out.lastF Hatq.out Hyq.out Hdq.out
                simp only [List.take_succ_cons, List.take_zero, List.drop_succ_cons, List.drop_zero]
                repeat still_step
                refine wpStill_nil ?_
                have HS := HRg.out.text (i := m) (x := xq) (k := rq.length) (d := dq) (t := x) Hatq.out Hyq.out (by rw [Hdq.out]; exact get_last rfl dq)
                rw [set_last HLim.out] at HS
                simp only [Hdq.out, Ho.out, set_last] at HS
                obtain ⟨-, -, -, p3, p4, -, -, -, e3, e4⟩ := HS.cellsA (get_last HLim.out _)
                simp only at p3 p4
                have HF2 := Lib.hid (HS.two HLim.out (xq.2.l1 + e10) (xq.2.l2 + e10))
                have HB := below_setA (j := m * 5) (o := (ad.add (m * 5)).off + 4) (below_setA (j := m * 5) (o := (ad.add (m * 5)).off + 3) (hbg.setCell (p := ⟨g2, rq.length * 2 + 1, none⟩) hg2B (.string x)) hadB (.int .i64 (xq.2.l1 + e10))) hadB (.int .i64 (xq.2.l2 + e10))
                clear HS
                go_wp2_with fail
                go_ret
                exact ⟨nb, _, rfl, hke.out, HF2.out, by rw [HM.out.len]; exact h.out.len.symm, HM.out.ex, HM.out.each, HB⟩
              · have hsh' : ¬ (dq.t.size : Int) < (mar : Int) := by omega
                go_wp2_with fail
                go_quiet (fail)
                have HM := Lib.hid HMq.out.fin_long
                have HF := Lib.hid (HRd.out.drewN nq)
                have HB := below_drewN hbd nq
                go_wp2_with fail
                go_ret
                exact ⟨nb, _, rfl, hke.out, HF.out, by rw [HM.out.len]; exact h.out.len.symm, HM.out.ex, HM.out.each, HB⟩
end Go.Proofs.YtjebgfpcmooniaaGreatDoor
