/-
  WHAT THE ARGUMENTS ARE, OPENED: slices of bytes that came in.
-/
import Derived.Test.Qxb6604100aModsLeaf
import Derived.ProofKit
import Derived.OpenShut
import Derived.ShutString
import Derived.ChangeOld
namespace Go.Proofs.Qxb6604100aMods
open Go.ChangeShapes Go.WideShapes Go.ChangeAt Go.RowKit
set_option linter.unusedVariables false

theorem own : ownKnob Trym.prog.godebug = none := by kernel_rfl
theorem laidOut : laidOutB Trym.prog = true := by kernel_rfl

/-- a slice of bytes that came in -/
theorem view_bytes {H : Type} {enc : TypeId × Value → H} {W : World} {a : Option Addr} {len cap : Nat} {d : DataW H} {p : List MemPlace} (h : DataW.Trod enc Trym.prog W 0 (fun _ => true) true 22 (.slice a len cap) d p) :
    ∃ xs : List Int, len = xs.length ∧ RdV W a cap xs ∧ ∀ y ∈ xs, 0 ≤ y ∧ y ≤ 255 := by
  obtain ⟨fuel, hf⟩ := h
  rcases open_ints Trym.underlying22 Trym.underlying5 (by kernel_rfl) hf with ⟨hcs, _⟩ | ⟨x, l, c, zs, hcs, _, hl, hm, hz, _, hcell, hwz⟩
  · simp [Value.cells] at hcs
    obtain ⟨rfl, rfl, rfl⟩ := hcs
    exact ⟨[], rfl, Or.inl ⟨rfl, rfl, rfl⟩, fun y hy => by cases hy⟩
  · simp [Value.cells] at hcs
    obtain ⟨rfl, rfl, rfl⟩ := hcs
    simp only [if_true] at hz
    refine ⟨zs.take len, by simp; omega, Or.inr ⟨x, rfl, fun j u hu => ?_⟩, fun y hy => bounds_u8 (hwz y (List.mem_of_mem_take hy))⟩
    have hj := (List.getElem?_eq_some_iff.1 hu).1
    simp at hj
    have e : (bys (zs.take len))[j]? = some (.int .u8 (zs.getD j 0)) := by
      have h1 : j < zs.length := by omega
      have h2 : j < len := by omega
      simp [bys, List.getD, h1, h2]
    rw [e] at hu
    cases hu
    exact hcell j (by omega)

end Go.Proofs.Qxb6604100aMods
