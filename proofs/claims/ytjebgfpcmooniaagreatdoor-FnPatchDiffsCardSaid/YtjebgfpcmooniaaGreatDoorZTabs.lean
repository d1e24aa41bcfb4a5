/- The text of patches as bytes: a header, and a line for each difference with its escapes. No program in sight. What a query's escape writes, and a row of bytes that is filled. No program in sight. The tables of the library's that are read, and that they stay. No program in sight but its names. -/
import Derived.Test.YtjebgfpcmooniaaGreatDoorZNumbers
import Derived.Test.YtjebgfpcmooniaaGreatDoorZReplace
import Derived.Test.YtjebgfpcmooniaaGreatDoorZMkBase
import Derived.Lib.ItoaNum
import Derived.Lib.ConvBytes
import Derived.Lib.BufferWrite
import Derived.Lib.LaidTab
import Derived.Lib.ItoaMem
namespace Go.Proofs.YtjebgfpcmooniaaGreatDoor
open Go Go.RowKit

theorem u8_all {p : UInt8 → Prop} (h : ∀ n : Fin 256, p (UInt8.ofNat n.val)) (b : UInt8) : p b := by
  have := h ⟨b.toNat, b.toNat_lt⟩
  simpa using this

/-- an upper hexadecimal digit -/
def hexU (n : Nat) : UInt8 := UInt8.ofNat (if n < 10 then 48 + n else 55 + n)
/-- bytes that stand for themselves in a query -/
def qPlain (n : Nat) : Bool := (Nat.ble 48 n && Nat.ble n 57) || (Nat.ble 65 n && Nat.ble n 90) || (Nat.ble 97 n && Nat.ble n 122) || n == 45 || n == 46 || n == 95 || n == 126
/-- a byte in a query -/
def encQ (b : UInt8) : List UInt8 := if qPlain b.toNat = true then [b] else if b.toNat = 32 then [43] else [37, hexU (b.toNat / 16), hexU (b.toNat % 16)]
/-- the same with spaces -/
def encS (b : UInt8) : List UInt8 := if qPlain b.toNat = true then [b] else if b.toNat = 32 then [32] else [37, hexU (b.toNat / 16), hexU (b.toNat % 16)]
/-- bytes that stand for themselves in a patch's text -/
def keeps (n : Nat) : Bool := qPlain n || n == 32 || n == 33 || n == 39 || n == 40 || n == 41 || n == 59 || n == 47 || n == 63 || n == 58 || n == 64 || n == 38 || n == 61 || n == 43 || n == 36 || n == 44 || n == 35 || n == 42
/-- a byte in a patch's text -/
def encU (b : UInt8) : List UInt8 := if keeps b.toNat = true then [b] else [37, hexU (b.toNat / 16), hexU (b.toNat % 16)]

set_option maxRecDepth 100000 in
theorem plus_encQ (b : UInt8) : plusL (encQ b) = encS b := u8_all (p := fun b => plusL (encQ b) = encS b) (by decide +kernel) b
theorem plus_flat (l : List UInt8) : plusL (l.flatMap encQ) = l.flatMap encS := by
  induction l with
  | nil => rfl
  | cons b l ih => rw [List.flatMap_cons, plusL_append, ih, plus_encQ, List.flatMap_cons]

set_option maxRecDepth 100000 in
theorem shape_S (b : UInt8) : (encS b = [b] ∧ encU b = [b] ∧ b ≠ 37) ∨ (encS b = [37, hexU (b.toNat / 16), hexU (b.toNat % 16)] ∧ hexU (b.toNat / 16) ≠ 37 ∧ hexU (b.toNat % 16) ≠ 37 ∧
    ((unescF [37, hexU (b.toNat / 16), hexU (b.toNat % 16)] ≠ 0 ∧ encU b = [UInt8.ofNat (unescF [37, hexU (b.toNat / 16), hexU (b.toNat % 16)]).toNat]) ∨ (unescF [37, hexU (b.toNat / 16), hexU (b.toNat % 16)] = 0 ∧ encU b = [37, hexU (b.toNat / 16), hexU (b.toNat % 16)]))) :=
  u8_all (p := fun b => (encS b = [b] ∧ encU b = [b] ∧ b ≠ 37) ∨ (encS b = [37, hexU (b.toNat / 16), hexU (b.toNat % 16)] ∧ hexU (b.toNat / 16) ≠ 37 ∧ hexU (b.toNat % 16) ≠ 37 ∧
    ((unescF [37, hexU (b.toNat / 16), hexU (b.toNat % 16)] ≠ 0 ∧ encU b = [UInt8.ofNat (unescF [37, hexU (b.toNat / 16), hexU (b.toNat % 16)]).toNat]) ∨ (unescF [37, hexU (b.toNat / 16), hexU (b.toNat % 16)] = 0 ∧ encU b = [37, hexU (b.toNat / 16), hexU (b.toNat % 16)])))) (by decide +kernel) b
set_option maxRecDepth 100000 in
/-- what a reader of the text needs: the byte itself, or two digits that tell it; no end of a line -/
theorem shape_U (b : UInt8) : (encU b = [b] ∧ b ≠ 37) ∨ (encU b = [37, hexU (b.toNat / 16), hexU (b.toNat % 16)] ∧ hexF (hexU (b.toNat / 16)) = ((b.toNat / 16 : Nat) : Int) ∧ hexF (hexU (b.toNat % 16)) = ((b.toNat % 16 : Nat) : Int)) :=
  u8_all (p := fun b => (encU b = [b] ∧ b ≠ 37) ∨ (encU b = [37, hexU (b.toNat / 16), hexU (b.toNat % 16)] ∧ hexF (hexU (b.toNat / 16)) = ((b.toNat / 16 : Nat) : Int) ∧ hexF (hexU (b.toNat % 16)) = ((b.toNat % 16 : Nat) : Int))) (by decide +kernel) b
set_option maxRecDepth 100000 in
theorem encU_no10 (b : UInt8) : ∀ x ∈ encU b, x ≠ 10 := u8_all (p := fun b => ∀ x ∈ encU b, x ≠ 10) (by decide +kernel) b

theorem unescF_zero {l : List UInt8} (h : ∀ r, l ≠ 37 :: r) : unescF l = 0 := by
  have e : ∀ a b : UInt8, (l == [37, a, b]) = false := fun a b => by rw [beq_eq_false_iff_ne]; exact h _
  simp only [unescF, e, Bool.false_eq_true, if_false]
theorem unescF_head {l : List UInt8} (h : unescF l ≠ 0) : ∃ r, l = 37 :: r := by
  cases l with
  | nil => exact absurd (unescF_zero fun r e => by cases e) h
  | cons b r =>
    by_cases hb : b = 37
    · exact ⟨r, by rw [hb]⟩
    · exact absurd (unescF_zero fun q e => hb (by injection e)) h
theorem unescL_plain1 {b : UInt8} (h : b ≠ 37) (r : List UInt8) : unescL (b :: r) = b :: unescL r :=
  unescL_miss rfl fun ⟨h3, h0⟩ => by
    obtain ⟨q, e⟩ := unescF_head h0
    rw [show (3 : Nat) = 2 + 1 from rfl, List.take_succ_cons] at e
    injection e with e _
    exact h e
theorem unescL_plain {x : List UInt8} (h : ∀ b ∈ x, b ≠ 37) (r : List UInt8) : unescL (x ++ r) = x ++ unescL r := by
  induction x with
  | nil => rfl
  | cons b x ih => rw [List.cons_append, unescL_plain1 (h b (by simp)), ih (fun y hy => h y (by simp [hy]))]; rfl
theorem unesc_step (b : UInt8) (r : List UInt8) : unescL (encS b ++ r) = encU b ++ unescL r := by
  rcases shape_S b with ⟨e1, e2, h⟩ | ⟨e1, h1, h2, ⟨h3, e2⟩ | ⟨h3, e2⟩⟩
  · rw [e1, e2]; exact unescL_plain1 h r
  · rw [e1, e2]
    rw [unescL_hit (by simp) (by rw [List.take_append_of_le_length (by simp)]; exact h3), List.take_append_of_le_length (by simp)]
    rfl
  · rw [e1, e2]
    rw [List.cons_append, unescL_miss rfl (fun h => h.2 (by rw [List.take_succ_cons, List.take_append_of_le_length (by simp)]; exact h3)), unescL_plain (by simp [h1, h2])]
    rfl
theorem unesc_flat (l r : List UInt8) : unescL (l.flatMap encS ++ r) = l.flatMap encU ++ unescL r := by
  induction l with
  | nil => rfl
  | cons b l ih => rw [List.flatMap_cons, List.append_assoc, unesc_step, ih, List.flatMap_cons, List.append_assoc]

/-! numbers -/
theorem dec_digits (u : Nat) : ∀ b ∈ Lib.decDigits u, 48 ≤ b.toNat ∧ b.toNat ≤ 57 := by
  induction u using Nat.strongRecOn with
  | _ u ih =>
    have hd : ∀ k, k < 10 → 48 ≤ (UInt8.ofNat (48 + k)).toNat ∧ (UInt8.ofNat (48 + k)).toNat ≤ 57 := by decide
    rw [Lib.decDigits]
    split
    · rename_i h
      intro b hb
      rw [List.mem_singleton] at hb
      subst hb
      exact hd u h
    · intro b hb
      rw [List.mem_append, List.mem_singleton] at hb
      rcases hb with hb | rfl
      · exact ih (u / 10) (by omega) b hb
      · exact hd (u % 10) (by omega)
theorem dec_num (u : Nat) : numL (Lib.decDigits u) = u := by
  induction u using Nat.strongRecOn with
  | _ u ih =>
    have hd : ∀ k, k < 10 → (UInt8.ofNat (48 + k)).toNat - 48 = k := by decide
    rw [Lib.decDigits]
    split
    · rename_i h
      show 0 * 10 + ((UInt8.ofNat (48 + u)).toNat - 48) = u
      rw [hd u h]; omega
    · rw [numL_snoc, ih (u / 10) (by omega), hd (u % 10) (by omega)]; omega
theorem dec_few {u : Nat} (h : u < 1000000000) : (Lib.decDigits u).length < 10 := by
  rw [Lib.decDigits_length]
  have h1 := Lib.nDigits_pos u
  have h2 : ∀ k v, v < 10 ^ (k + 1) → Lib.nDigits v ≤ k + 1 := by
    intro k
    induction k with
    | zero => intro v hv; rw [Lib.nDigits_small (by simpa using hv)]; exact Nat.le_refl _
    | succ k ih =>
      intro v hv
      by_cases h10 : v < 10
      · rw [Lib.nDigits_small h10]; omega
      · rw [Lib.nDigits_big h10]
        have := ih (v / 10) (by rw [Nat.pow_succ] at hv; omega)
        omega
  have := h2 8 u (by simpa using h)
  omega
theorem dec_pos (u : Nat) : 0 < (Lib.decDigits u).length := by rw [Lib.decDigits_length]; exact Lib.nDigits_pos u
theorem dec_digs {u : Nat} (h : u < 1000000000) : Digs (Lib.decDigits u) := ⟨dec_pos u, dec_few h, dec_digits u⟩
theorem itoa_nat (u : Nat) : Lib.itoa (u : Int) = Lib.decDigits u := by unfold Lib.itoa; rw [if_neg (by omega)]; simp

/-- the text of a span -/
def spanL (s n : Int) : List UInt8 := if n = 0 then Lib.itoa s ++ [44, 48] else if n = 1 then Lib.itoa (s + 1) else Lib.itoa (s + 1) ++ 44 :: Lib.itoa n
/-- a text that tells a span -/
inductive Coord (c : List UInt8) (s n : Int) : Prop
  | one (h : Digs c) (h0 : 0 < numL c) (h9 : numL c < 1000000000) (hs : s = (numL c : Int) - 1) (hn : n = 1)
  | two (p q : List UInt8) (e : c = p ++ 44 :: q) (hp : Digs p) (hq : Digs q) (h0 : 0 < numL p ∨ numL q = 0) (h9 : numL p < 1000000000 ∧ numL q < 1000000000) (hs : s = spanFrom p q) (hn : n = numL q)
theorem spanL_coord {s n : Int} (hs : 0 ≤ s) (hn : 0 ≤ n) (hs9 : s < 100000000) (hn9 : n < 100000000) : Coord (spanL s n) s n := by
  obtain ⟨s, rfl⟩ := Int.eq_ofNat_of_zero_le hs
  obtain ⟨n, rfl⟩ := Int.eq_ofNat_of_zero_le hn
  unfold spanL
  split
  · rename_i h
    have h48 : Digs [48] := ⟨by simp, by simp, by simp⟩
    refine .two (Lib.itoa (s : Int)) [48] rfl (by rw [itoa_nat]; exact dec_digs (by omega)) h48 (.inr rfl) (by rw [itoa_nat, dec_num]; exact ⟨by omega, by decide⟩) ?_ h
    rw [spanFrom, if_neg (by decide), itoa_nat, dec_num]
  · split
    · rename_i h
      have e : ((s : Int) + 1) = ((s + 1 : Nat) : Int) := by omega
      rw [e, itoa_nat]
      exact .one (dec_digs (by omega)) (by rw [dec_num]; omega) (by rw [dec_num]; omega) (by rw [dec_num]; omega) h
    · rename_i h0 h1
      have e : ((s : Int) + 1) = ((s + 1 : Nat) : Int) := by omega
      rw [e, itoa_nat, itoa_nat]
      refine .two _ _ rfl (dec_digs (by omega)) (dec_digs (by omega)) (.inl (by rw [dec_num]; omega)) (by rw [dec_num, dec_num]; exact ⟨by omega, by omega⟩) ?_ (by rw [dec_num])
      rw [spanFrom, dec_num, dec_num, if_pos (by omega)]
      omega
/-- signs of a span: digits and commas -/
theorem spanL_sign {s n : Int} (hs : 0 ≤ s) (hn : 0 ≤ n) : ∀ b ∈ spanL s n, 44 ≤ b.toNat ∧ b.toNat ≤ 57 := by
  obtain ⟨s, rfl⟩ := Int.eq_ofNat_of_zero_le hs
  obtain ⟨n, rfl⟩ := Int.eq_ofNat_of_zero_le hn
  have hd : ∀ u : Nat, ∀ b ∈ Lib.itoa (u : Int), 44 ≤ b.toNat ∧ b.toNat ≤ 57 := fun u b hb => by
    rw [itoa_nat] at hb
    have := dec_digits u b hb
    omega
  have e : ((s : Int) + 1) = ((s + 1 : Nat) : Int) := by omega
  intro b hb
  unfold spanL at hb
  split at hb
  · rw [List.mem_append] at hb
    rcases hb with hb | hb
    · exact hd s b hb
    · simp at hb
      rcases hb with rfl | rfl <;> decide
  · rw [e] at hb
    split at hb
    · exact hd _ b hb
    · rw [List.mem_append, List.mem_cons] at hb
      rcases hb with hb | rfl | hb
      · exact hd _ b hb
      · decide
      · exact hd _ b hb
theorem spanL_len {s n : Int} (hs : 0 ≤ s) (hn : 0 ≤ n) (hs9 : s < 100000000) (hn9 : n < 100000000) : 0 < (spanL s n).length ∧ (spanL s n).length < 20 := by
  cases spanL_coord hs hn hs9 hn9 with
  | one h => exact ⟨h.pos, by have := h.few; omega⟩
  | two p q e hp hq =>
    rw [e, List.length_append, List.length_cons]
    have := hp.few
    have := hq.few
    exact ⟨by omega, by omega⟩

/-- the header's line, without its end -/
def hdrL (p : P) : List UInt8 := [64, 64, 32, 45] ++ spanL p.s1 p.l1 ++ [32, 43] ++ spanL p.s2 p.l2 ++ [32, 64, 64]
/-- a difference's sign -/
def sgn (op : Int) : UInt8 := if op = 1 then 43 else if op = -1 then 45 else 32
/-- a difference's line, without its end -/
def lineL (d : D) : List UInt8 := sgn d.op :: (tb d.t).flatMap encU
/-- a patch's text -/
def textP (p : P) : List UInt8 := hdrL p ++ 10 :: p.ds.flatMap fun d => lineL d ++ [10]
/-- and before escapes are taken back -/
def rawP (p : P) : List UInt8 := hdrL p ++ 10 :: p.ds.flatMap fun d => sgn d.op :: (plusL ((tb d.t).flatMap encQ) ++ [10])

/-- numbers not below zero, and not great -/
structure NumP (p : P) : Prop where
  s1 : 0 ≤ p.s1 ∧ p.s1 < 100000000
  s2 : 0 ≤ p.s2 ∧ p.s2 < 100000000
  l1 : 0 ≤ p.l1 ∧ p.l1 < 100000000
  l2 : 0 ≤ p.l2 ∧ p.l2 < 100000000

theorem hdrL_sign {p : P} (h : NumP p) : ∀ b ∈ hdrL p, b ≠ 37 ∧ b ≠ 10 := by
  intro b hb
  unfold hdrL at hb
  simp only [List.mem_append, List.mem_cons, List.not_mem_nil, or_false] at hb
  have h1 := spanL_sign h.s1.1 h.l1.1
  have h2 := spanL_sign h.s2.1 h.l2.1
  have ne : ∀ b : UInt8, 44 ≤ b.toNat ∧ b.toNat ≤ 57 → b ≠ 37 ∧ b ≠ 10 := by
    intro b hb
    constructor <;> (rintro rfl; revert hb; decide)
  rcases hb with ((((rfl | rfl | rfl | rfl) | hb) | rfl | rfl) | hb) | rfl | rfl | rfl
  all_goals first | decide | exact ne b (h1 b hb) | exact ne b (h2 b hb)
theorem sgn_ne (op : Int) : sgn op ≠ 37 ∧ sgn op ≠ 10 ∧ sgn op ≠ 64 := by
  unfold sgn
  split
  · decide
  · split <;> decide
theorem unesc_raw {p : P} (h : NumP p) : unescL (rawP p) = textP p := by
  unfold rawP textP
  rw [unescL_plain (fun b hb => (hdrL_sign h b hb).1), unescL_plain1 (by decide)]
  congr 2
  induction p.ds with
  | nil => rw [List.flatMap_nil, unescL]; rfl
  | cons d l ih =>
    rw [List.flatMap_cons, List.cons_append, unescL_plain1 (sgn_ne d.op).1, plus_flat, List.append_assoc, unesc_flat, List.cons_append, List.nil_append, unescL_plain1 (by decide), ih, List.flatMap_cons, lineL]
    simp

/-! lines -/
inductive Item
  | hdr (p : P)
  | dif (d : D)
def Item.line : Item → List UInt8
  | .hdr p => hdrL p
  | .dif d => lineL d
def itemsP (p : P) : List Item := .hdr p :: p.ds.map .dif
def items (ps : List P) : List Item := ps.flatMap itemsP
def addD (d : D) (p : P) : P := { p with ds := p.ds ++ [d] }
/-- what a reader does with a line -/
def readStep (l : List P) : Item → List P
  | .hdr p => l ++ [{ p with ds := [] }]
  | .dif d => match l.getLast? with
    | none => []
    | some p => l.dropLast ++ [addD d p]
theorem readStep_dif (l : List P) (p : P) (d : D) : readStep (l ++ [p]) (.dif d) = l ++ [addD d p] := by simp [readStep]
theorem read_difs (l : List P) (p : P) (ds : List D) : (ds.map Item.dif).foldl readStep (l ++ [p]) = l ++ [{ p with ds := p.ds ++ ds }] := by
  induction ds generalizing p with
  | nil => simp
  | cons d ds ih =>
    rw [List.map_cons, List.foldl_cons, readStep_dif, ih]
    simp [addD]
theorem read_one (l : List P) (p : P) : (itemsP p).foldl readStep l = l ++ [p] := by
  rw [itemsP, List.foldl_cons, readStep, read_difs]
  simp
theorem read_all (l ps : List P) : (items ps).foldl readStep l = l ++ ps := by
  induction ps generalizing l with
  | nil => simp [items]
  | cons p ps ih =>
    rw [items, List.flatMap_cons, List.foldl_append, read_one]
    show (items ps).foldl readStep _ = _
    rw [ih]
    simp
theorem readStep_ne (l : List P) (x : Item) (h : l ≠ []) : readStep l x ≠ [] := by
  cases x with
  | hdr p => simp [readStep]
  | dif d =>
    rw [readStep]
    split
    · rename_i e; exact absurd (List.getLast?_eq_none_iff.1 e) h
    · simp
theorem read_ne (xs : List Item) (l : List P) (h : l ≠ []) : xs.foldl readStep l ≠ [] := by
  induction xs generalizing l with
  | nil => exact h
  | cons x xs ih => exact ih _ (readStep_ne l x h)
/-- behind the first line there is a patch -/
theorem read_some (ps : List P) (k : Nat) (hk : 0 < k) (hk2 : k ≤ (items ps).length) : ((items ps).take k).foldl readStep [] ≠ [] := by
  cases ps with
  | nil => simp [items] at hk2; omega
  | cons p ps =>
    obtain ⟨k, rfl⟩ : ∃ j, k = j + 1 := ⟨k - 1, by omega⟩
    rw [items, List.flatMap_cons, itemsP, List.cons_append, List.take_succ_cons, List.foldl_cons]
    exact read_ne _ _ (by simp [readStep])
theorem items_first (ps : List P) (d : D) : (items ps)[0]? ≠ some (.dif d) := by
  cases ps with
  | nil => simp [items]
  | cons p ps => simp [items, itemsP]

theorem lineL_no10 (d : D) : ∀ b ∈ lineL d, b ≠ 10 := by
  intro b hb
  rw [lineL, List.mem_cons, List.mem_flatMap] at hb
  rcases hb with rfl | ⟨x, _, hb⟩
  · exact (sgn_ne d.op).2.1
  · exact encU_no10 x b hb
theorem textP_items (p : P) : textP p = (itemsP p).flatMap fun x => x.line ++ [10] := by
  rw [textP, itemsP, List.flatMap_cons, List.flatMap_map]
  simp [Item.line]
theorem text_items (ps : List P) : ps.flatMap textP = (items ps).flatMap fun x => x.line ++ [10] := by
  rw [items, List.flatMap_assoc]
  congr 1
  funext p
  exact textP_items p
theorem split_items (xs : List Item) (h : ∀ x ∈ xs, ∀ b ∈ x.line, b ≠ 10) : splitL 10 (xs.flatMap fun x => x.line ++ [10]) = xs.map Item.line ++ [[]] := by
  induction xs with
  | nil => rfl
  | cons x xs ih =>
    rw [List.flatMap_cons, List.append_assoc, List.cons_append, List.nil_append, splitL_one (h x (by simp)), ih (fun y hy => h y (by simp [hy]))]
    rfl
theorem items_no10 {ps : List P} (h : ∀ p ∈ ps, NumP p) : ∀ x ∈ items ps, ∀ b ∈ x.line, b ≠ 10 := by
  intro x hx
  rw [items, List.mem_flatMap] at hx
  obtain ⟨p, hp, hx⟩ := hx
  rw [itemsP, List.mem_cons, List.mem_map] at hx
  rcases hx with rfl | ⟨d, hd, rfl⟩
  · exact fun b hb => (hdrL_sign (h p hp) b hb).2
  · exact lineL_no10 d
/-- the lines of the text of patches -/
theorem split_text {ps : List P} (h : ∀ p ∈ ps, NumP p) : splitL 10 (ps.flatMap textP) = (items ps).map Item.line ++ [[]] := by
  rw [text_items, split_items _ (items_no10 h)]
end Go.Proofs.YtjebgfpcmooniaaGreatDoor

namespace Go.Proofs.YtjebgfpcmooniaaGreatDoor
open Go Go.RowKit

/-- spaces, and bytes that are escaped by digits -/
def spN (l : List UInt8) : Nat := (l.map fun b => if b.toNat = 32 then 1 else 0).sum
def hxN (l : List UInt8) : Nat := (l.map fun b => if qPlain b.toNat = true then 0 else if b.toNat = 32 then 0 else 1).sum
theorem spN_snoc (l : List UInt8) (b : UInt8) : spN (l ++ [b]) = spN l + if b.toNat = 32 then 1 else 0 := by simp [spN]
theorem hxN_snoc (l : List UInt8) (b : UInt8) : hxN (l ++ [b]) = hxN l + if qPlain b.toNat = true then 0 else if b.toNat = 32 then 0 else 1 := by simp [hxN]
theorem qPlain_32 : qPlain 32 = false := by decide
theorem spN_cons (b : UInt8) (l : List UInt8) : spN (b :: l) = (if b.toNat = 32 then 1 else 0) + spN l := by simp [spN]
theorem hxN_cons (b : UInt8) (l : List UInt8) : hxN (b :: l) = (if qPlain b.toNat = true then 0 else if b.toNat = 32 then 0 else 1) + hxN l := by simp [hxN]
theorem hxN_append (a b : List UInt8) : hxN (a ++ b) = hxN a + hxN b := by simp [hxN]
theorem enc_length (l : List UInt8) : (l.flatMap encQ).length = l.length + 2 * hxN l := by
  induction l with
  | nil => rfl
  | cons b l ih =>
    rw [List.flatMap_cons, List.length_append, ih, List.length_cons, hxN_cons]
    unfold encQ
    split
    · simp; omega
    · split
      · simp; omega
      · simp; omega
theorem enc_plain {l : List UInt8} (h1 : spN l = 0) (h2 : hxN l = 0) : l.flatMap encQ = l := by
  induction l with
  | nil => rfl
  | cons b l ih =>
    rw [spN_cons] at h1
    rw [hxN_cons] at h2
    rw [List.flatMap_cons, ih (by omega) (by omega)]
    unfold encQ
    split
    · rfl
    · rename_i hq
      rw [if_neg hq] at h2
      split
      · rename_i hs; rw [if_pos hs] at h1; omega
      · rename_i hs; rw [if_neg hs] at h2; omega
theorem hxN_mem {l : List UInt8} (h : hxN l = 0) {b : UInt8} (hb : b ∈ l) : qPlain b.toNat = true ∨ b.toNat = 32 := by
  induction l with
  | nil => cases hb
  | cons c l ih =>
    rw [hxN_cons] at h
    rcases List.mem_cons.1 hb with rfl | hb
    · by_cases hq : qPlain b.toNat = true
      · exact .inl hq
      · rw [if_neg hq] at h
        by_cases hs : b.toNat = 32
        · exact .inr hs
        · rw [if_neg hs] at h; omega
    · exact ih (by omega) hb
theorem hxN_take (l : List UInt8) (k : Nat) : hxN (l.take k) ≤ hxN l := by
  have h := hxN_append (l.take k) (l.drop k)
  rw [List.take_append_drop] at h
  omega

/-- a row of R bytes of which the first read as l -/
def Row8 (w : World) (B b R : Nat) (l : List UInt8) : Prop :=
  B ≤ b ∧ l.length ≤ R ∧ ∃ (cs : Array Value) (T : TypeId), w.heap[b]? = some (.cells cs T (0, 0)) ∧ R ≤ cs.size ∧ (∀ j, j < R → ∃ x : UInt8, cs[j]? = some (Value.int .u8 (x.toNat : Int))) ∧ ∀ (j : Nat) (x : UInt8), l[j]? = some x → cs[j]? = some (Value.int .u8 (x.toNat : Int))
theorem Row8.lt {w : World} {B b R : Nat} {l : List UInt8} (h : Row8 w B b R l) : b < w.heap.size := by
  obtain ⟨_, _, cs, T, hh, _⟩ := h
  exact (Array.getElem?_eq_some_iff.1 hh).1
theorem Row8.at_ {w : World} {B b R j : Nat} {l : List UInt8} (h : Row8 w B b R l) (hj : j < R) : ∃ x : UInt8, w.cell? ⟨b, j, none⟩ = some (.int .u8 (x.toNat : Int)) := by
  obtain ⟨_, _, cs, T, hh, _, hx, _⟩ := h
  obtain ⟨x, hx⟩ := hx j hj
  exact ⟨x, by rw [blk_cell hh]; exact hx⟩
theorem Row8.fro {w : World} {B b R : Nat} {l : List UInt8} (h : Row8 w B b R l) (j : Nat) : w.frozen? ⟨b, j, none⟩ = false := by
  obtain ⟨_, _, cs, T, hh, _⟩ := h
  exact blk_frozen hh j
theorem Row8.get {w : World} {B b R j : Nat} {l : List UInt8} (h : Row8 w B b R l) {x : UInt8} (hj : l[j]? = some x) : w.cell? ⟨b, j, none⟩ = some (.int .u8 (x.toNat : Int)) := by
  obtain ⟨_, _, cs, T, hh, _, _, hl⟩ := h
  rw [blk_cell hh]; exact hl j x hj
theorem Row8.keep {w w' : World} {B b R : Nat} {l : List UInt8} (h : Row8 w B b R l) (hh' : w'.heap[b]? = w.heap[b]?) : Row8 w' B b R l := by
  obtain ⟨hB, hl, cs, T, hh, rest⟩ := h
  exact ⟨hB, hl, cs, T, hh'.trans hh, rest⟩
/-- a store just behind what is known -/
theorem Row8.push {w : World} {B b R : Nat} {l : List UInt8} (h : Row8 w B b R l) (hR : l.length < R) (x : UInt8) : Row8 (w.setCell ⟨b, l.length, none⟩ (.int .u8 (x.toNat : Int))) B b R (l ++ [x]) := by
  obtain ⟨hB, _, cs, T, hh, hR2, hx, hl⟩ := h
  refine ⟨hB, by simp; omega, _, T, blk_set hh _ _, by simpa using hR2, fun j hj => ?_, fun j y hy => ?_⟩
  · by_cases e : l.length = j
    · subst e
      exact ⟨x, by rw [Array.getElem?_setIfInBounds]; simp; omega⟩
    · obtain ⟨y, hy⟩ := hx j hj
      exact ⟨y, by rw [Array.getElem?_setIfInBounds_ne e]; exact hy⟩
  · by_cases e : l.length = j
    · subst e
      rw [List.getElem?_append_right (Nat.le_refl _)] at hy
      simp at hy
      subst hy
      rw [Array.getElem?_setIfInBounds]; simp; omega
    · rw [Array.getElem?_setIfInBounds_ne e]
      refine hl j y ?_
      have hj : j < (l ++ [x]).length := (List.getElem?_eq_some_iff.1 hy).1
      rw [List.length_append, List.length_singleton] at hj
      rw [List.getElem?_append_left (by omega)] at hy
      exact hy
/-- a store into what is known -/
theorem Row8.put {w : World} {B b R j : Nat} {l : List UInt8} (h : Row8 w B b R l) (hj : j < l.length) (x : UInt8) : Row8 (w.setCell ⟨b, j, none⟩ (.int .u8 (x.toNat : Int))) B b R (l.set j x) := by
  obtain ⟨hB, hlR, cs, T, hh, hR2, hx, hl⟩ := h
  refine ⟨hB, by simpa using hlR, _, T, blk_set hh _ _, by simpa using hR2, fun i hi => ?_, fun i y hy => ?_⟩
  · by_cases e : j = i
    · subst e
      exact ⟨x, by rw [Array.getElem?_setIfInBounds]; simp; omega⟩
    · obtain ⟨y, hy⟩ := hx i hi
      exact ⟨y, by rw [Array.getElem?_setIfInBounds_ne e]; exact hy⟩
  · by_cases e : j = i
    · subst e
      rw [List.getElem?_set_self (by omega)] at hy
      injection hy with hy
      subst hy
      rw [Array.getElem?_setIfInBounds]; simp; omega
    · rw [Array.getElem?_setIfInBounds_ne e]
      rw [List.getElem?_set_ne e] at hy
      exact hl i y hy
theorem below_set8 {B : Nat} {a w : World} (h : Below B a w) {b j : Nat} (hb : B ≤ b) (v : Value) : Below B a (w.setCell ⟨b, j, none⟩ v) :=
  ⟨h.os, h.tape, h.output, by simpa [World.setCell] using h.size, fun i hi => (Below.heap_setCell w ⟨b, j, none⟩ v i (by show i ≠ b; omega)).trans (h.block i hi)⟩

theorem below_bytes {B : Nat} {w : World} {e : TypeId} {s : ByteArray} (h : B ≤ w.heap.size) : Below B w (Lib.bytesWorld w e s) :=
  ⟨rfl, rfl, rfl, by rw [Lib.bytesWorld_size]; omega, fun i hi => Lib.bytesWorld_at_old w e s i (by omega)⟩
/-- a string's bytes, taken out as a slice -/
theorem bytes_at (w : World) (s : ByteArray) {j : Nat} (hj : j < s.size) : (Lib.bytesWorld w 5 s).cell? ⟨w.heap.size, j, none⟩ = some (.int .u8 ((s[j]'hj).toNat : Int)) := by
  rw [Lib.bytesWorld_cell w 5 s j hj]
  congr 2
  rw [List.getD_eq_getElem?_getD, List.getElem?_eq_getElem (by rw [← Lib.size_eq]; exact hj)]
  rfl
end Go.Proofs.YtjebgfpcmooniaaGreatDoor

namespace Go.Proofs.YtjebgfpcmooniaaGreatDoor
open Go Go.RowKit

/-- the table of net/url: which characters stand for themselves, a bit a mode -/
def urlL : List Int := [0, 0, 0, 0, 0, 0, 0, 0, 0, 0, 0, 0, 0, 0, 0, 0, 0, 0, 0, 0, 0, 0, 0, 0, 0, 0, 0, 0, 0, 0, 0, 0, 0, 76, 12, 0, 95, 0, 95, 12, 76, 76, 76, 95, 93, 127, 127, 65, 255, 255, 255, 255, 255, 255, 255, 255, 255, 255, 79, 93, 12, 95, 12, 64, 67, 255, 255, 255, 255, 255, 255, 127, 127, 127, 127, 127, 127, 127, 127, 127, 127, 127, 127, 127, 127, 127, 127, 127, 127, 127, 127, 12, 0, 12, 0, 127, 0, 255, 255, 255, 255, 255, 255, 127, 127, 127, 127, 127, 127, 127, 127, 127, 127, 127, 127, 127, 127, 127, 127, 127, 127, 127, 127, 0, 0, 0, 127, 0, 0, 0, 0, 0, 0, 0, 0, 0, 0, 0, 0, 0, 0, 0, 0, 0, 0, 0, 0, 0, 0, 0, 0, 0, 0, 0, 0, 0, 0, 0, 0, 0, 0, 0, 0, 0, 0, 0, 0, 0, 0, 0, 0, 0, 0, 0, 0, 0, 0, 0, 0, 0, 0, 0, 0, 0, 0, 0, 0, 0, 0, 0, 0, 0, 0, 0, 0, 0, 0, 0, 0, 0, 0, 0, 0, 0, 0, 0, 0, 0, 0, 0, 0, 0, 0, 0, 0, 0, 0, 0, 0, 0, 0, 0, 0, 0, 0, 0, 0, 0, 0, 0, 0, 0, 0, 0, 0, 0, 0, 0, 0, 0, 0, 0, 0, 0, 0, 0, 0, 0, 0, 0, 0, 0, 0, 0, 0, 0]

theorem tabIs_below {P : Program} {w w' : World} {name : String} {k : IntKind} {zs : List Int} (h : Lib.TabIs P w name k zs) (hb : Below w.heap.size w w') : Lib.TabIs P w' name k zs := by
  unfold Lib.TabIs World.var? at h ⊢
  cases hn : P.globalNamed name with
  | none => rw [hn] at h; cases h
  | some g =>
    rw [hn] at h
    simp only [Option.bind_some] at h ⊢
    have hg : g < w.heap.size := by
      rcases Nat.lt_or_ge g w.heap.size with hl | hl
      · exact hl
      · rw [Array.getElem?_eq_none hl] at h; cases h
    rw [hb.block g hg]
    exact h

/-- both tables lie as they are laid -/
structure Tabs (w : World) : Prop where
  url : Lib.TabIs Tryz.prog w "net/url.table" .u8 urlL
  dec : Lib.TabIs Tryz.prog w "internal/strconv.uint64pow10" .u64 Lib.pow10Tab
theorem Tabs.below {w w' : World} (h : Tabs w) (hb : Below w.heap.size w w') : Tabs w' := ⟨tabIs_below h.url hb, tabIs_below h.dec hb⟩
end Go.Proofs.YtjebgfpcmooniaaGreatDoor
