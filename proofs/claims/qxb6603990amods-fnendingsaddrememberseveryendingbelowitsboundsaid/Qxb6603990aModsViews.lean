/-
  WHAT THE ARGUMENTS ARE, OPENED.
-/
import Derived.Test.Qxb6603990aModsBase
import Derived.ProofKit
import Derived.OpenShut
import Derived.ShutString
import Derived.ChangeOld
namespace Go.Proofs.Qxb6603990aMods
open Go.ChangeShapes Go.WideShapes Go.ChangeAt Go.RowKit Go.WideElems
open Go.ChangeMaps (open_string shut_string)
set_option linter.unusedVariables false

theorem Trym.own : ownKnob Trym.prog.godebug = none := by kernel_rfl
theorem Trym.laidOut : laidOutB Trym.prog = true := by kernel_rfl
theorem Trym.cells9 : Trym.prog.cellsOf 9 = 1 := by kernel_rfl

/-- a map that came in -/
theorem view_map {H : Type} {enc : TypeId × Value → H} {W : World} {r : Option Nat} {d : DataW H} {p : List MemPlace} (h : DataW.Trod enc Trym.prog W 0 (fun _ => true) true 22 (.map r) d p) : ∃ (n : Nat) (D : DataW H), MapV W r n D := by
  obtain ⟨fuel, hf⟩ := h
  rcases open_map Trym.underlying22 hf with ⟨hcs, hx⟩ | ⟨bm, es, clock, m, rfl, hcs, hb, _, F, hx⟩
  · simp [Value.cells] at hcs
    exact ⟨0, .map [], Or.inl ⟨hcs, rfl⟩⟩
  · simp [Value.cells] at hcs
    exact ⟨_, _, Or.inr ⟨bm, hcs, World.ownsMap_of_fit (R := plainElem Trym.prog 3) hb F (fun x _ z hz => elemAt_plainElem_int Trym.underlying3 hz)⟩⟩

/-- a slice of strings that came in -/
theorem view_strs {H : Type} {enc : TypeId × Value → H} {W : World} {a : Option Addr} {len cap : Nat} {d : DataW H} {p : List MemPlace} (h : DataW.Trod enc Trym.prog W 0 (fun _ => true) true 23 (.slice a len cap) d p)
    (hlt : ∀ x ∈ p, x.block < W.heap.size) : ∃ ss, StrV W a len ss ∧ ∀ s ∈ ss, s.size ≤ maxLen := by
  obtain ⟨fuel, hf⟩ := h
  rcases open_strings Trym.underlying23 Trym.underlying9 Trym.cells9 hf with ⟨hcs, hx⟩ | ⟨ad, len', cap', ss, hcs, _, hl, hm, hz, hx, hcell, hws⟩
  · simp [Value.cells] at hcs
    exact ⟨[], Or.inl hcs.2.1, by simp⟩
  · simp [Value.cells] at hcs
    obtain ⟨rfl, rfl, rfl⟩ := hcs
    simp only [Prod.mk.injEq] at hx
    obtain ⟨rfl, rfl⟩ := hx
    simp only [if_true] at hz
    refine ⟨ss, ?_, hws⟩
    by_cases hl0 : len = 0
    · exact Or.inl hl0
    · obtain ⟨b, off, spot⟩ := ad
      have hspot : spot = none := by simpa [Addr.add] using World.cell?_spot (hcell 0 (by omega))
      subst hspot
      have hbW : b < W.heap.size := hlt (.cell b off) (MemPlace.mem_row.2 ⟨0, by omega, by simp⟩)
      exact Or.inr ⟨b, off, rfl, hbW, fun j hj => by rw [← add_plain]; exact hcell j (by omega)⟩

end Go.Proofs.Qxb6603990aMods
