/- What an interface value holds: the three assertions of PatchMake. The deferred closures of the doors, where nothing panics. -/
import Derived.Test.YtjebgfpcmooniaaGreatDoorZPlain
import Derived.Defers
import Derived.Recover
namespace Go.Proofs.YtjebgfpcmooniaaGreatDoor
open Go Go.RowKit

theorem as77 (v : Value) (w : World) : (Instr.typeAssert (.iface 77 v) 20 77 true).run Tryz.prog w = .ok (.tuple #[v, .bool true]) w := by
  simp [Instr.typeAssert, run_underlying st77.ht]
theorem as9 (v : Value) (w : World) : (Instr.typeAssert (.iface 9 v) 20 9 false).run Tryz.prog w = .ok v w := by
  simp [Instr.typeAssert, run_underlying u9]
theorem as9t (v : Value) (w : World) : (Instr.typeAssert (.iface 9 v) 20 9 true).run Tryz.prog w = .ok (.tuple #[v, .bool true]) w := by
  simp [Instr.typeAssert, run_underlying u9]
theorem as9f (v : Value) (w : World) : (Instr.typeAssert (.iface 77 v) 20 9 true).run Tryz.prog w = .ok (.tuple #[.string ByteArray.empty, .bool false]) w := by
  obtain ⟨i, hi, hz, _⟩ : ∃ i, Tryz.prog.info? 9 = some i ∧ i.zero = some (.string ByteArray.empty) ∧ True := by
    have h : (Tryz.prog.info? 9).map (fun i => (i.zero, i.size, i.bytes)) = some (some (.string ByteArray.empty), 1, 16) := by kernel_rfl
    obtain ⟨i, h0, h1, _⟩ := info_parts h
    exact ⟨i, h0, h1, trivial⟩
  simp [Instr.typeAssert, run_underlying u9, zeroValue, typeInfo, hi, hz]
end Go.Proofs.YtjebgfpcmooniaaGreatDoor

namespace Go.Proofs.YtjebgfpcmooniaaGreatDoor
open Go Go.RowKit

theorem idle45 (p q : Addr) (w : World) :
    CallsD Tryz.prog 45 #[.pointer (some p), .pointer (some q)] .returning w fun e u' w' => e = .returned (.tuple #[]) ∧ u' = .returning ∧ w' = w := by
  refine callsD_of_wpS Tryz.func45 rfl fun c₀ cs hu => ?_
  apply wpS_seq
  apply wpS_region
  simp [wpOpsS, go_sem, recoverD, hu, Tryz.ntmps45, Exit.thenS]
  refine wpS_cond (t := false) (by simp [Act.eval, Array.replicate]) ?_
  simp only [Bool.false_eq_true, if_false]
  refine wpS_of_wp (wp_skip ?_)
  cases c₀
  simp_all [bodyPostS, results, Tryz.results45]
end Go.Proofs.YtjebgfpcmooniaaGreatDoor
