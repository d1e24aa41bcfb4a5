/- FnPatchDiffs: for all settings and every list of differences the law returns true, and its arguments read as they did; the package variables are as its row lists them, and the card ties them to the program's text. -/
import Derived.Test.YtjebgfpcmooniaaGreatDoorZOpen
import Derived.Test.YtjebgfpcmooniaaGreatDoorZDiffsLaw
import Derived.Test.YtjebgfpcmooniaaGreatDoorCards
import Derived.Test.YtjebgfpcmooniaaGreatDoorTie
import Derived.Lay
import Derived.LaidMore
import Derived.LaidSub
import Derived.SevenTiedAt
import Derived.Stop.Joined
import Derived.Carry
import Derived.Test.YtjebgfpcmooniaaGreatDoorZDiffsFacts
namespace Go.Proofs.YtjebgfpcmooniaaGreatDoor.fnPatchDiffs
open Go Go.ChangeShapes Go.WideShapes Go.ChangeAt Go.RowKit
set_option maxRecDepth 100000

theorem own : ownKnob Tryz.prog.godebug = none := by kernel_rfl
theorem lifted (os : Os) (started : os.Started) (H : Type) (enc : TypeId × Value → H) :
    ReturnsInHanded {} Tryz.checked os 4 .any (fun w args => (Rows.fnPatchDiffsSpec.pre enc Tryz.prog Tryz.f4 Rows.fnPatchDiffsRow.domain false w args ∧ laidMetH Tryz.prog Rows.fnPatchDiffsRow.laid w) ∧ sizedMet enc Tryz.prog Tryz.f4 (OpenSpec.ofChange Rows.fnPatchDiffsSpec) false w args)
      (Rows.fnPatchDiffsSpec.post enc Tryz.prog Tryz.f4 false true false false) := by
  refine returnsInHanded_of_change_and (C := Tryz.checked) (X := fun w _ => laidMetH Tryz.prog Rows.fnPatchDiffsRow.laid w) (fun _ _ _ hh h => h.of_heap hh) own started (by kernel_rfl) Tryz.func4
    (ChangeSpec.witness_shaped (enc := enc) (C := Tryz.checked) (os := os) (X := fun w _ => laidMetH Tryz.prog Rows.fnPatchDiffsRow.laid w) false (World.laidAll Tryz.prog os Rows.fnPatchDiffsRow.laid)
      #[.agg #[.bool false, .int .i64 0, .int .i64 0, .float .f64 0, .float .f64 0, .int .i64 0, .int .i64 0], .slice none 0 0] 8 (World.laidAll_os _ _ _)
      (World.shaped_of_ZipB (by kernel_rfl) (by kernel_rfl)) (by kernel_rfl) (by kernel_rfl) (by kernel_rfl)
      (by rw [MakeChecks.laidMetH_plain _ _ _ (by kernel_rfl)]; exact laidMet_laidAll _ (by kernel_rfl) (by kernel_rfl))) ?_
  intro W base args ds gs before hval0 hW hc _ hL _
  have hval : ∀ (j : Nat) t v, Tryz.f4.params[j]? = some t → args[j]? = some v → Value.okWide Tryz.prog W .any base t v := hval0
  rw [MakeChecks.laidMetH_plain _ _ _ (by kernel_rfl)] at hL
  have hW' := hW
  obtain ⟨p, q, hA0, hV, rfl, hz, hn⟩ := hW
  have hA : DataW.TrodAll enc Tryz.prog W 0 (fun _ => true) true Tryz.f4.params.toList args.toList ds p := hA0
  rw [Tryz.params4] at hA hval
  obtain ⟨v0, vs0, d0, ds0, p0, q0, hargs, rfl, rfl, h0, r0⟩ := trodAll_cons hA
  obtain ⟨v1, vs1, d1, ds1, p1, q1, hargs1, rfl, rfl, h1, r1⟩ := trodAll_cons r0
  obtain ⟨rfl, rfl, rfl⟩ := trodAll_nil r1
  subst hargs1
  obtain rfl : args = #[v0, v1] := by cases args; simp_all
  obtain ⟨rfl, rfl⟩ := trodVars_none hV
  obtain ⟨half, cost, dist, th, de, mar, bits, rfl⟩ := open_set (hval 0 24 v0 rfl rfl) h0
  obtain ⟨A, n, c, l, rfl, hn9, hr⟩ := open_difs (hval 1 25 v1 rfl rfl) h1
  refine (diffs_whole half cost dist th de mar bits A n c l W hr hn9).mono fun e W' ⟨he, hb⟩ => ?_
  subst he
  have hlt := hW'.lt
  simp only [List.append_nil] at hlt
  refine ⟨_, rfl, [d0, d1], [], _, [], p0 ++ (p1 ++ []), [], hW', trodAll_mk1 (shut_bool Tryz.underlying4 _), ?_, rfl, hb.frame _, fun h => by cases h⟩
  have t0 := Below.trod (P := Tryz.prog) (by kernel_rfl) (by kernel_rfl) (of_decide_eq_true (by kernel_rfl)) h0 hb (fun x hx => hlt x (by simp [hx]))
  have t1 := Below.trod (P := Tryz.prog) (by kernel_rfl) (by kernel_rfl) (of_decide_eq_true (by kernel_rfl)) h1 hb (fun x hx => hlt x (by simp [hx]))
  exact trodAll_cons_mk t0 (trodAll_cons_mk t1 trodAll_mk0)

theorem namedN : Tryz.pinned.checked.prog.funcNamed Rows.fnPatchDiffsRow.func = some 4 := by kernel_rfl
theorem instN : Tryz.f4.isInstance Tryz.pinned.checked.prog Rows.fnPatchDiffsRow.origin Rows.fnPatchDiffsRow.targs := of_decide_eq_true (by kernel_rfl)
theorem wrapN : Tryz.f4.isWrapper Tryz.pinned.checked.prog Rows.fnPatchDiffsRow.wrapper Rows.fnPatchDiffsRow.mainSum := by
  unfold Func.isWrapper
  first | (rw [if_pos (by decide +kernel)]; kernel_rfl) | (rw [if_neg (by decide +kernel)]; exact ⟨rfl, rfl⟩)

theorem said : Rows.FnPatchDiffsSaid :=
  OpenClaim.holds_of_wide 4 Tryz.f4 rfl rfl rfl rfl rfl rfl rfl ⟨rfl, rfl, rfl, rfl, rfl⟩ rfl rfl rfl rfl rfl namedN Tryz.func4 closed instN wrapN
    (fun os started H enc _ => lifted os started H enc)
end Go.Proofs.YtjebgfpcmooniaaGreatDoor.fnPatchDiffs
