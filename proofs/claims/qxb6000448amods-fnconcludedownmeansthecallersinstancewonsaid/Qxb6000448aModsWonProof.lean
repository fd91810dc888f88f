/-
  THE STATEMENT: FnConcludedOwnMeansTheCallersInstanceWonSaid.
-/
import Derived.Test.Qxb6000448aModsWon
import Derived.Test.Qxb6000448aModsViews
namespace Go.Proofs.Qxb6000448aMods
open Go.ChangeShapes Go.WideShapes Go.ChangeAt Go.RowKit
open Go.ChangeMaps (open_string shut_string)
set_option linter.unusedVariables false

set_option maxRecDepth 100000 in
theorem won_lifted (os : Os) (started : os.Started) (H : Type) (enc : TypeId × Value → H) :
    ReturnsInHanded {} Trym.checked os 6 .any (Rows.fnConcludedOwnMeansTheCallersInstanceWonSpec.pre6 enc Trym.prog Trym.f6 Rows.fnConcludedOwnMeansTheCallersInstanceWonRow.domain false) (Rows.fnConcludedOwnMeansTheCallersInstanceWonSpec.post enc Trym.prog Trym.f6 false true false false) := by
  refine returnsInHanded_of_change (C := Trym.checked) own started (by kernel_rfl) Trym.func6
    (ChangeSpec.witness6 (enc := enc) (C := Trym.checked) false ⟨#[], #[.int .i64 0, .bool false, .bool false, .slice none 0 0, .slice none 0 0, .slice none 0 0, .string ByteArray.empty, .int .i64 0, .slice none 0 0], []⟩ 8 (by kernel_rfl) (by kernel_rfl) (by kernel_rfl) (by kernel_rfl)) ?_
  intro W base args ds gs before hval0 hW hcnd _
  have hval : ∀ (j : Nat) t v, Trym.f6.params[j]? = some t → args[j]? = some v → Value.okWide Trym.prog W .any base t v := hval0
  have hW' := hW
  obtain ⟨p, q, hA0, hV, rfl, hfz, hnd⟩ := hW
  have hA : DataW.TrodAll enc Trym.prog W 0 (fun _ => true) true Trym.f6.params.toList args.toList ds p := hA0
  rw [Trym.params6] at hA hval
  obtain ⟨v0, vs0, d0, ds0, p0, q0, hargs, rfl, rfl, h0, r0⟩ := trodAll_cons hA
  obtain ⟨v1, vs1, d1, ds1, p1, q1, rfl, rfl, rfl, h1, r1⟩ := trodAll_cons r0
  obtain ⟨v2, vs2, d2, ds2, p2, q2, rfl, rfl, rfl, h2, r2⟩ := trodAll_cons r1
  obtain ⟨v3, vs3, d3, ds3, p3, q3, rfl, rfl, rfl, h3, r3⟩ := trodAll_cons r2
  obtain ⟨v4, vs4, d4, ds4, p4, q4, rfl, rfl, rfl, h4, r4⟩ := trodAll_cons r3
  obtain ⟨v5, vs5, d5, ds5, p5, q5, rfl, rfl, rfl, h5, r5⟩ := trodAll_cons r4
  obtain ⟨v6, vs6, d6, ds6, p6, q6, rfl, rfl, rfl, h6, r6⟩ := trodAll_cons r5
  obtain ⟨v7, vs7, d7, ds7, p7, q7, rfl, rfl, rfl, h7, r7⟩ := trodAll_cons r6
  obtain ⟨v8, vs8, d8, ds8, p8, q8, rfl, rfl, rfl, h8, r8⟩ := trodAll_cons r7
  obtain ⟨rfl, rfl, rfl⟩ := trodAll_nil r8
  obtain rfl : args = #[v0, v1, v2, v3, v4, v5, v6, v7, v8] := by cases args; simp_all
  obtain ⟨rfl, rfl⟩ := trodVars_none hV
  have k0 := h0
  have lt0 : ∀ x ∈ p0, x.block < W.heap.size := by obtain ⟨m, hm⟩ := k0; exact DataW.trod_lt m _ _ _ hm
  have k1 := h1
  have lt1 : ∀ x ∈ p1, x.block < W.heap.size := by obtain ⟨m, hm⟩ := k1; exact DataW.trod_lt m _ _ _ hm
  have k2 := h2
  have lt2 : ∀ x ∈ p2, x.block < W.heap.size := by obtain ⟨m, hm⟩ := k2; exact DataW.trod_lt m _ _ _ hm
  have k3 := h3
  have lt3 : ∀ x ∈ p3, x.block < W.heap.size := by obtain ⟨m, hm⟩ := k3; exact DataW.trod_lt m _ _ _ hm
  have k4 := h4
  have lt4 : ∀ x ∈ p4, x.block < W.heap.size := by obtain ⟨m, hm⟩ := k4; exact DataW.trod_lt m _ _ _ hm
  have k5 := h5
  have lt5 : ∀ x ∈ p5, x.block < W.heap.size := by obtain ⟨m, hm⟩ := k5; exact DataW.trod_lt m _ _ _ hm
  have k6 := h6
  have lt6 : ∀ x ∈ p6, x.block < W.heap.size := by obtain ⟨m, hm⟩ := k6; exact DataW.trod_lt m _ _ _ hm
  have k7 := h7
  have lt7 : ∀ x ∈ p7, x.block < W.heap.size := by obtain ⟨m, hm⟩ := k7; exact DataW.trod_lt m _ _ _ hm
  have k8 := h8
  have lt8 : ∀ x ∈ p8, x.block < W.heap.size := by obtain ⟨m, hm⟩ := k8; exact DataW.trod_lt m _ _ _ hm
  obtain ⟨x0, e0⟩ : ∃ x, v0 = .int .i64 x := by obtain ⟨x, e, _⟩ := open_int Trym.underlying3 (hval 0 3 v0 rfl rfl) h0; exact ⟨x, e⟩
  obtain ⟨x1, e1⟩ : ∃ x, v1 = .bool x := by obtain ⟨x, e, _⟩ := open_bool Trym.underlying4 (hval 1 4 v1 rfl rfl) h1; exact ⟨x, e⟩
  obtain ⟨x2, e2⟩ : ∃ x, v2 = .bool x := by obtain ⟨x, e, _⟩ := open_bool Trym.underlying4 (hval 2 4 v2 rfl rfl) h2; exact ⟨x, e⟩
  obtain ⟨a3, n3, c3, e3⟩ := okWide_slice Trym.underlying23 (hval 3 23 v3 rfl rfl)
  obtain ⟨a4, n4, c4, e4⟩ := okWide_slice Trym.underlying24 (hval 4 24 v4 rfl rfl)
  obtain ⟨a5, n5, c5, e5⟩ := okWide_slice Trym.underlying24 (hval 5 24 v5 rfl rfl)
  obtain ⟨x6, e6⟩ : ∃ s, v6 = .string s := by obtain ⟨s, e, _⟩ := open_string Trym.underlying9 (hval 6 9 v6 rfl rfl) h6; exact ⟨s, e⟩
  obtain ⟨x7, e7⟩ : ∃ x, v7 = .int .i64 x := by obtain ⟨x, e, _⟩ := open_int Trym.underlying3 (hval 7 3 v7 rfl rfl) h7; exact ⟨x, e⟩
  obtain ⟨a8, n8, c8, e8⟩ := okWide_slice Trym.underlying23 (hval 8 23 v8 rfl rfl)
  subst e0 e1 e2 e3 e4 e5 e6 e7 e8
  clear hA0 hval0
  refine (won_any x0 x7 x1 x2 a3 a4 a5 a8 n3 c3 n4 c4 n5 c5 n8 c8 x6 W (view_bytes h3) (view_ints h4) (view_ints h5) (view_bytes h8)).mono fun e W' ⟨he, bel⟩ => ?_
  subst he
  exact ⟨_, rfl, _, _, _, [], _, [], hW', trodAll_mk1 (shut_bool Trym.underlying4 _),
    (trodAll_cons_mk (Below.trod laidOut (by kernel_rfl) (of_decide_eq_true (by kernel_rfl)) k0 bel lt0)
      (trodAll_cons_mk (Below.trod laidOut (by kernel_rfl) (of_decide_eq_true (by kernel_rfl)) k1 bel lt1)
      (trodAll_cons_mk (Below.trod laidOut (by kernel_rfl) (of_decide_eq_true (by kernel_rfl)) k2 bel lt2)
      (trodAll_cons_mk (Below.trod laidOut (by kernel_rfl) (of_decide_eq_true (by kernel_rfl)) k3 bel lt3)
      (trodAll_cons_mk (Below.trod laidOut (by kernel_rfl) (of_decide_eq_true (by kernel_rfl)) k4 bel lt4)
      (trodAll_cons_mk (Below.trod laidOut (by kernel_rfl) (of_decide_eq_true (by kernel_rfl)) k5 bel lt5)
      (trodAll_cons_mk (Below.trod laidOut (by kernel_rfl) (of_decide_eq_true (by kernel_rfl)) k6 bel lt6)
      (trodAll_cons_mk (Below.trod laidOut (by kernel_rfl) (of_decide_eq_true (by kernel_rfl)) k7 bel lt7)
      (trodAll_cons_mk (Below.trod laidOut (by kernel_rfl) (of_decide_eq_true (by kernel_rfl)) k8 bel lt8)
      trodAll_mk0))))))))), rfl, bel.frame _, fun h => by cases h⟩

theorem won_over : Rows.fnConcludedOwnMeansTheCallersInstanceWonRow.holds Trym.pinned (OpenSpec.ofChange Rows.fnConcludedOwnMeansTheCallersInstanceWonSpec) :=
  OpenClaim.holds_of_wide 6 Trym.f6 rfl rfl rfl rfl rfl rfl rfl ⟨rfl, rfl, rfl, rfl, rfl⟩ rfl rfl rfl rfl rfl (by kernel_rfl) Trym.func6 (by kernel_rfl)
    (of_decide_eq_true (by kernel_rfl)) (by unfold Func.isWrapper; first | (rw [if_pos (by decide +kernel)]; kernel_rfl) | (rw [if_neg (by decide +kernel)]; exact ⟨rfl, rfl⟩))
    (fun os started H enc _ => won_lifted os started H enc)

theorem won_proved : Rows.FnConcludedOwnMeansTheCallersInstanceWonSaid := won_over

end Go.Proofs.Qxb6000448aMods
