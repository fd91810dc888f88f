/-
  THE STATEMENT: FnEndingsAddRemembersEveryEndingBelowItsBoundSaid.
-/
import Derived.Test.Qxb6603990aModsLawEnds
import Derived.Test.Qxb6603990aModsViews
import Derived.Deep.SlicePairs
namespace Go.Proofs.Qxb6603990aMods
open Go.ChangeShapes Go.WideShapes Go.ChangeAt Go.RowKit Go.WideElems
set_option linter.unusedVariables false

theorem Trym.cells37 : Trym.prog.cellsOf 37 = 2 := by kernel_rfl
theorem Trym.cells3 : Trym.prog.cellsOf 3 = 1 := by kernel_rfl

theorem scriptOf {n : Nat} (q : Nat → ByteArray × Int) : ∃ sc : Script, ∀ j, j < n → idAt sc j = (q j).1 ∧ stAt sc j = (q j).2 := by
  refine ⟨(List.range n).map q, fun j hj => ?_⟩
  have e : ((List.range n).map q).getD j (ByteArray.empty, 0) = q j := by simp [List.getD, hj]
  exact ⟨by unfold idAt; rw [e], by unfold stAt; rw [e]⟩

/-- a script that came in -/
theorem view_script {H : Type} {enc : TypeId × Value → H} {W : World} {a : Option Addr} {len cap : Nat} {d : DataW H} {p : List MemPlace} (h : DataW.Trod enc Trym.prog W 0 (fun _ => true) true 31 (.slice a len cap) d p) :
    len ≤ 9223372036854775807 ∧ ∃ sc : Script, ScrV W a len sc ∧ (∀ j, j < len → (idAt sc j).size ≤ maxLen) ∧ ∀ j, j < len → (Lit.int .i64 (stAt sc j)).wf = true := by
  obtain ⟨fuel, hf⟩ := h
  rcases Deep.open_slice_pairs Trym.underlying31 Trym.underlying37 Trym.cells37 rfl rfl Trym.cells9 Trym.cells3 hf with ⟨hcs, hx⟩ | ⟨ad, len', cap', m, n, V0, V1, D0, D1, P0, P1, hcs, _, hl, hm, hmm, hx, hel⟩
  · simp [Value.cells] at hcs
    exact ⟨by omega, [], Or.inl hcs.2.1, fun j hj => by omega, fun j hj => by omega⟩
  · simp [Value.cells] at hcs
    obtain ⟨rfl, rfl, rfl⟩ := hcs
    simp only [if_true] at hmm
    refine ⟨by unfold maxLen at hm; omega, ?_⟩
    have each : ∀ i, i < len → ∃ q : ByteArray × Int, V0 i = .string q.1 ∧ V1 i = .int .i64 q.2 ∧ q.1.size ≤ maxLen ∧ (Lit.int .i64 q.2).wf = true := by
      intro i hi
      obtain ⟨_, _, t0, t1⟩ := hel i (by omega)
      obtain ⟨s, e0, _, hs⟩ := DataW.trod_string Trym.underlying9 t0
      obtain ⟨z, e1, _, hz⟩ := DataW.trod_int Trym.underlying3 t1
      exact ⟨(s, z), by simpa using e0, by simpa using e1, hs, hz⟩
    obtain ⟨q, hq⟩ := Deep.choose_lt each
    obtain ⟨sc, hsc⟩ := scriptOf (n := len) q
    refine ⟨sc, ?_, fun j hj => by rw [(hsc j hj).1]; exact (hq j hj).2.2.1, fun j hj => by rw [(hsc j hj).2]; exact (hq j hj).2.2.2⟩
    by_cases hl0 : len = 0
    · exact Or.inl hl0
    · obtain ⟨b, off, spot⟩ := ad
      have hspot : spot = none := by simpa [Addr.add] using World.cell?_spot (hel 0 (by omega)).1
      subst hspot
      have hbW : b < W.heap.size := World.block_lt_of_cell? _ _ (hel 0 (by omega)).1
      refine Or.inr ⟨b, off, rfl, hbW, fun j hj => ?_⟩
      obtain ⟨g0, g1, _⟩ := hel j (by omega)
      rw [add_plain, (hq j hj).1] at g0
      rw [add_plain, (hq j hj).2.1] at g1
      rw [← (hsc j hj).1] at g0
      rw [← (hsc j hj).2] at g1
      exact ⟨g0, g1⟩

set_option maxRecDepth 100000 in
theorem ends_lifted (os : Os) (started : os.Started) (H : Type) (enc : TypeId × Value → H) :
    ReturnsInHanded {} Trym.checked os 5 .any (Rows.fnEndingsAddRemembersEveryEndingBelowItsBoundSpec.pre6 enc Trym.prog Trym.f5 Rows.fnEndingsAddRemembersEveryEndingBelowItsBoundRow.domain false) (Rows.fnEndingsAddRemembersEveryEndingBelowItsBoundSpec.post enc Trym.prog Trym.f5 false true false false) := by
  refine returnsInHanded_of_change (C := Trym.checked) Trym.own started (by kernel_rfl) Trym.func5
    (ChangeSpec.witness6 (enc := enc) (C := Trym.checked) false ⟨#[], #[.slice none 0 0], []⟩ 8 (by kernel_rfl) (by kernel_rfl) (by kernel_rfl) (by kernel_rfl)) ?_
  intro W base args ds gs before hval0 hW hcnd _
  have hval : ∀ (j : Nat) t v, Trym.f5.params[j]? = some t → args[j]? = some v → Value.okWide Trym.prog W .any base t v := hval0
  have hW' := hW
  obtain ⟨p, q, hA0, hV, rfl, hfz, hnd⟩ := hW
  have hA : DataW.TrodAll enc Trym.prog W 0 (fun _ => true) true Trym.f5.params.toList args.toList ds p := hA0
  rw [Trym.params5] at hA hval
  obtain ⟨v0, vs0, d0, ds0, p0, q0, hargs, rfl, rfl, h0, r0⟩ := trodAll_cons hA
  obtain ⟨rfl, rfl, rfl⟩ := trodAll_nil r0
  obtain rfl : args = #[v0] := by cases args; simp_all
  obtain ⟨rfl, rfl⟩ := trodVars_none hV
  have k0 := h0
  have lt0 : ∀ x ∈ p0, x.block < W.heap.size := by obtain ⟨m, hm⟩ := k0; exact DataW.trod_lt m _ _ _ hm
  obtain ⟨a0, len0, cap0, e0⟩ := okWide_slice Trym.underlying31 (hval 0 31 v0 rfl rfl)
  subst e0
  obtain ⟨hm0, sc, hs0, hid, hst⟩ := view_script h0
  clear hA0 hval0
  refine (lawends_any a0 len0 cap0 sc W hm0 hs0 hid hst).mono fun e W' ⟨he, bel⟩ => ?_
  subst he
  exact ⟨_, rfl, _, _, _, [], _, [], hW', trodAll_mk1 (shut_bool Trym.underlying4 _),
    (trodAll_cons_mk (Below.trod Trym.laidOut (by kernel_rfl) (of_decide_eq_true (by kernel_rfl)) k0 bel lt0) trodAll_mk0), rfl, bel.frame _, fun h => by cases h⟩

theorem ends_over : Rows.fnEndingsAddRemembersEveryEndingBelowItsBoundRow.holds Trym.pinned (OpenSpec.ofChange Rows.fnEndingsAddRemembersEveryEndingBelowItsBoundSpec) :=
  OpenClaim.holds_of_wide 5 Trym.f5 rfl rfl rfl rfl rfl rfl rfl ⟨rfl, rfl, rfl, rfl, rfl⟩ rfl rfl rfl rfl rfl (by kernel_rfl) Trym.func5 (by kernel_rfl)
    (of_decide_eq_true (by kernel_rfl)) (by unfold Func.isWrapper; first | (rw [if_pos (by decide +kernel)]; kernel_rfl) | (rw [if_neg (by decide +kernel)]; exact ⟨rfl, rfl⟩))
    (fun os started H enc _ => ends_lifted os started H enc)

theorem ends_proved : Rows.FnEndingsAddRemembersEveryEndingBelowItsBoundSaid := ends_over

end Go.Proofs.Qxb6603990aMods
