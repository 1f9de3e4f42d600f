import Derived.Test.Qxb6001235aRows
import Derived.Test.Qxb6001235aBase
import Derived.WalkKit
import Derived.ProofKit
import Derived.ChangeOld
import Derived.Below
import Derived.Deep.Matrix
import Derived.OpenShut
/-! Seat b6001235a: the arguments opened. -/
namespace Go.Proofs.Qxb6001235a
open Go.ChangeShapes Go.WideShapes Go.ChangeAt Go.RowKit Go.Deep
set_option linter.unusedVariables false

theorem own : ownKnob Try.prog.godebug = none := by kernel_rfl
theorem laidOut : laidOutB Try.prog = true := by kernel_rfl
theorem cells3 : Try.prog.cellsOf 3 = 1 := by kernel_rfl
theorem cells25 : Try.prog.cellsOf 25 = 1 := by kernel_rfl

theorem wf_getD {zs : List Int} (h : ∀ n ∈ zs, (Lit.int .i64 n).wf = true) (i : Nat) : (Lit.int .i64 (zs.getD i 0)).wf = true := by
  by_cases hi : i < zs.length
  · rw [List.getD_eq_getElem?_getD, List.getElem?_eq_getElem hi]
    exact h _ (List.getElem_mem hi)
  · rw [List.getD_eq_getElem?_getD, List.getElem?_eq_none (by omega)]
    rfl

theorem slR_of {H : Type} {enc : TypeId × Value → H} {W : World} {a : Option Addr} {len cap : Nat} {d : DataW H} {ps : List MemPlace} (h : DataW.Trod enc Try.prog W 0 (fun _ => true) true 22 (.slice a len cap) d ps) :
    ∃ A L C R, SlR W a len cap A L C R := by
  obtain ⟨fuel, hf⟩ := h
  rcases open_int_rows Try.underlying22 Try.underlying25 Try.underlying3 cells25 cells3 hf with ⟨hcs, _⟩ | ⟨x, l, c, A, L, C, Z, hcs, _, hl, hm, _, hr⟩
  · simp [Value.cells] at hcs
    obtain ⟨rfl, rfl, rfl⟩ := hcs
    exact ⟨fun _ => none, fun _ => 0, fun _ => 0, fun _ _ => 0, by omega, fun _ => by omega, fun _ _ => rfl, .inl ⟨rfl, rfl, rfl⟩⟩
  · simp [Value.cells] at hcs
    obtain ⟨rfl, rfl, rfl⟩ := hcs
    unfold maxLen at hm
    refine ⟨A, fun i => if i < len then L i else 0, C, fun i j => if i < len then (Z i).getD j 0 else 0, by omega, fun i => ?_, fun i j => ?_, .inr ⟨x, rfl, fun i hi => ?_⟩⟩
    · show (if i < len then L i else 0) ≤ _
      split
      · rename_i hi
        obtain ⟨_, r1, r2, _⟩ := hr i (by omega)
        unfold maxLen at r2
        omega
      · omega
    · show (Lit.int .i64 (if i < len then (Z i).getD j 0 else 0)).wf = true
      split
      · rename_i hi
        obtain ⟨_, _, _, _, r4, _⟩ := hr i (by omega)
        exact wf_getD r4 j
      · rfl
    · obtain ⟨r0, r1, r2, r3, r4, r5, r6⟩ := hr i (by omega)
      simp only [hi, if_true]
      refine ⟨r0, fun hA => ?_, fun y hy j hj => (r6 y hy).2 j (by omega)⟩
      have := r5 hA
      omega
end Go.Proofs.Qxb6001235a
