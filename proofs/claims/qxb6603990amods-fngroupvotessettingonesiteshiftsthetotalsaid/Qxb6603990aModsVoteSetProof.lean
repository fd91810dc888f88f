/-
  THE STATEMENT: FnGroupVotesSettingOneSiteShiftsTheTotalSaid.
-/
import Derived.Test.Qxb6603990aModsLawSet
import Derived.Test.Qxb6603990aModsViews
namespace Go.Proofs.Qxb6603990aMods
open Go.ChangeShapes Go.WideShapes Go.ChangeAt Go.RowKit Go.WideElems
open Go.ChangeMaps (open_string shut_string)
set_option linter.unusedVariables false

set_option maxRecDepth 100000 in
theorem voteset_lifted (os : Os) (started : os.Started) (H : Type) (enc : TypeId × Value → H) :
    ReturnsInHanded {} Trym.checked os 4 .any (Rows.fnGroupVotesSettingOneSiteShiftsTheTotalSpec.pre6 enc Trym.prog Trym.f4 Rows.fnGroupVotesSettingOneSiteShiftsTheTotalRow.domain false) (Rows.fnGroupVotesSettingOneSiteShiftsTheTotalSpec.post enc Trym.prog Trym.f4 false true false false) := by
  refine returnsInHanded_of_change (C := Trym.checked) Trym.own started (by kernel_rfl) Trym.func4
    (ChangeSpec.witness6 (enc := enc) (C := Trym.checked) false ⟨#[], #[.map none, .slice none 0 0, .string ByteArray.empty, .int .i64 0], []⟩ 8 (by kernel_rfl) (by kernel_rfl) (by kernel_rfl) (by kernel_rfl)) ?_
  intro W base args ds gs before hval0 hW hcnd _
  have hval : ∀ (j : Nat) t v, Trym.f4.params[j]? = some t → args[j]? = some v → Value.okWide Trym.prog W .any base t v := hval0
  have hW' := hW
  obtain ⟨p, q, hA0, hV, rfl, hfz, hnd⟩ := hW
  have hA : DataW.TrodAll enc Trym.prog W 0 (fun _ => true) true Trym.f4.params.toList args.toList ds p := hA0
  rw [Trym.params4] at hA hval
  obtain ⟨v0, vs0, d0, ds0, p0, q0, hargs, rfl, rfl, h0, r0⟩ := trodAll_cons hA
  obtain ⟨v1, vs1, d1, ds1, p1, q1, rfl, rfl, rfl, h1, r1⟩ := trodAll_cons r0
  obtain ⟨v2, vs2, d2, ds2, p2, q2, rfl, rfl, rfl, h2, r2⟩ := trodAll_cons r1
  obtain ⟨v3, vs3, d3, ds3, p3, q3, rfl, rfl, rfl, h3, r3⟩ := trodAll_cons r2
  obtain ⟨rfl, rfl, rfl⟩ := trodAll_nil r3
  obtain rfl : args = #[v0, v1, v2, v3] := by cases args; simp_all
  obtain ⟨rfl, rfl⟩ := trodVars_none hV
  have k0 := h0
  have k1 := h1
  have k2 := h2
  have k3 := h3
  have lt0 : ∀ x ∈ p0, x.block < W.heap.size := by obtain ⟨m, hm⟩ := k0; exact DataW.trod_lt m _ _ _ hm
  have lt1 : ∀ x ∈ p1, x.block < W.heap.size := by obtain ⟨m, hm⟩ := k1; exact DataW.trod_lt m _ _ _ hm
  have lt2 : ∀ x ∈ p2, x.block < W.heap.size := by obtain ⟨m, hm⟩ := k2; exact DataW.trod_lt m _ _ _ hm
  have lt3 : ∀ x ∈ p3, x.block < W.heap.size := by obtain ⟨m, hm⟩ := k3; exact DataW.trod_lt m _ _ _ hm
  obtain ⟨r0', e0⟩ := okWide_map Trym.underlying22 (hval 0 22 v0 rfl rfl)
  obtain ⟨a1, len1, cap1, e1⟩ := okWide_slice Trym.underlying23 (hval 1 23 v1 rfl rfl)
  obtain ⟨s2, e2⟩ : ∃ s, v2 = .string s := by
    obtain ⟨s, e, _⟩ := open_string Trym.underlying9 (hval 2 9 v2 rfl rfl) h2
    exact ⟨s, e⟩
  obtain ⟨x3, e3, hw3⟩ : ∃ x, v3 = .int .i64 x ∧ (Lit.int .i64 x).wf = true := by
    obtain ⟨x, e, _, _, hx⟩ := open_int Trym.underlying3 (hval 3 3 v3 rfl rfl) h3
    exact ⟨x, e, hx⟩
  subst e0 e1 e2 e3
  obtain ⟨n0, D0, hmv⟩ := view_map h0
  obtain ⟨ss, hs1, hws⟩ := view_strs h1 lt1
  clear hA0 hval0
  refine (lawset_any s2 x3 r0' n0 D0 a1 len1 cap1 ss W hmv hs1 hws hw3).mono fun e W' ⟨he, bel⟩ => ?_
  subst he
  exact ⟨_, rfl, _, _, _, [], _, [], hW', trodAll_mk1 (shut_bool Trym.underlying4 _),
    (trodAll_cons_mk (Below.trod Trym.laidOut (by kernel_rfl) (of_decide_eq_true (by kernel_rfl)) k0 bel lt0)
      (trodAll_cons_mk (Below.trod Trym.laidOut (by kernel_rfl) (of_decide_eq_true (by kernel_rfl)) k1 bel lt1)
        (trodAll_cons_mk (Below.trod Trym.laidOut (by kernel_rfl) (of_decide_eq_true (by kernel_rfl)) k2 bel lt2)
          (trodAll_cons_mk (Below.trod Trym.laidOut (by kernel_rfl) (of_decide_eq_true (by kernel_rfl)) k3 bel lt3) trodAll_mk0)))), rfl, bel.frame _, fun h => by cases h⟩

theorem voteset_over : Rows.fnGroupVotesSettingOneSiteShiftsTheTotalRow.holds Trym.pinned (OpenSpec.ofChange Rows.fnGroupVotesSettingOneSiteShiftsTheTotalSpec) :=
  OpenClaim.holds_of_wide 4 Trym.f4 rfl rfl rfl rfl rfl rfl rfl ⟨rfl, rfl, rfl, rfl, rfl⟩ rfl rfl rfl rfl rfl (by kernel_rfl) Trym.func4 (by kernel_rfl)
    (of_decide_eq_true (by kernel_rfl)) (by unfold Func.isWrapper; first | (rw [if_pos (by decide +kernel)]; kernel_rfl) | (rw [if_neg (by decide +kernel)]; exact ⟨rfl, rfl⟩))
    (fun os started H enc _ => voteset_lifted os started H enc)

theorem voteset_proved : Rows.FnGroupVotesSettingOneSiteShiftsTheTotalSaid := voteset_over

end Go.Proofs.Qxb6603990aMods
