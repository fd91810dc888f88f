/-
  THE WALKS: hexDigit (24), appendEscaped (10).
-/
import Derived.Test.Qxb6604100aModsApp2
namespace Go.Proofs.Qxb6604100aMods
open Go.RowKit
set_option linter.unusedVariables false

theorem hexDigit_any (d : Int) (w : World) (h0 : 0 ≤ d) (h1 : d < 16) : Calls Trym.prog 24 #[.int .u8 d] w fun e w' => e = .returned (.int .u8 (hexd d)) ∧ w' = w := by
  by_cases h : d < 10
  · have e : hexd d = 48 + d := by unfold hexd; rw [if_pos h]
    rw [e]
    go_enter Trym.func24, Trym.ntmps24
    go_wp2
    go_ret
    exact ⟨rfl, rfl⟩
  · have e : hexd d = 97 + d - 10 := by unfold hexd; rw [if_neg h]; omega
    rw [e]
    go_enter Trym.func24, Trym.ntmps24
    go_wp2
    go_ret
    exact ⟨rfl, rfl⟩

set_option maxHeartbeats 800000 in
theorem escaped_any (w0 : World) (row0 : Option Nat) (oa : Option Addr) (on oc : Nat) (xs : List Int) (y : Int) (w : World) (hO : Own w0 row0 w (.slice oa on oc) xs) (hsz : xs.length ≤ 1000000000) (hy0 : 0 ≤ y) (hy1 : y ≤ 255) :
    Calls Trym.prog 10 #[.slice oa on oc, .int .u8 y] w fun e w' => Res w0 row0 w' (xs ++ esc1 y) e := by
  by_cases hq : y = 34
  · subst hq
    rw [esc1_two (Or.inl rfl)]
    go_enter Trym.func10, Trym.ntmps10
    go_wp2_with (at_builtin; refine wpList_append_any rfl (.tmp 11) (.tmp 13) rfl w0 row0 _ xs rfl (hO.alloc _) _ 2 2 [92, 34] rfl rfl (rd_lit _ [92, 34] 2) (by simp; omega) ?_; intro ao2 n2 c2 w2 hO2)
    go_ret
    exact ⟨_, _, _, rfl, hO2⟩
  · by_cases hq2 : y = 92
    · subst hq2
      rw [esc1_two (Or.inr rfl)]
      go_enter Trym.func10, Trym.ntmps10
      go_wp2_with (at_builtin; refine wpList_append_any rfl (.tmp 11) (.tmp 13) rfl w0 row0 _ xs rfl (hO.alloc _) _ 2 2 [92, 92] rfl rfl (rd_lit _ [92, 92] 2) (by simp; omega) ?_; intro ao2 n2 c2 w2 hO2)
      go_ret
      exact ⟨_, _, _, rfl, hO2⟩
    · by_cases hq3 : y = 10
      · subst hq3
        rw [esc1_nl]
        go_enter Trym.func10, Trym.ntmps10
        go_wp2_with (at_builtin; refine wpList_append_any rfl (.tmp 17) (.tmp 18) rfl w0 row0 _ xs rfl (hO.alloc _) _ 2 2 [92, 110] rfl rfl (rd_lit _ [92, 110] 2) (by simp; omega) ?_; intro ao2 n2 c2 w2 hO2)
        go_ret
        exact ⟨_, _, _, rfl, hO2⟩
      · by_cases hq4 : y = 9
        · subst hq4
          rw [esc1_tab]
          go_enter Trym.func10, Trym.ntmps10
          go_wp2_with (at_builtin; refine wpList_append_any rfl (.tmp 22) (.tmp 23) rfl w0 row0 _ xs rfl (hO.alloc _) _ 2 2 [92, 116] rfl rfl (rd_lit _ [92, 116] 2) (by simp; omega) ?_; intro ao2 n2 c2 w2 hO2)
          go_ret
          exact ⟨_, _, _, rfl, hO2⟩
        · have b1 : (y == 34) = false := by simpa using hq
          have b2 : (y == 92) = false := by simpa using hq2
          have b3 : (y == 10) = false := by simpa using hq3
          have b4 : (y == 9) = false := by simpa using hq4
          by_cases hq5 : y < 32
          · rw [esc1_hex hq5 hq3 hq4]
            go_enter Trym.func10, Trym.ntmps10
            go_wp2_with (first
              | (go_at_call 24; refine (hexDigit_any _ _ (by omega) (by omega)).mono ?_; rintro e w' ⟨rfl, hw⟩; subst w')
              | (at_builtin; refine wpList_append_any rfl (.tmp 27) (.tmp 34) rfl w0 row0 _ xs rfl (hO.alloc _) _ 6 6 [92, 117, 48, 48, hexd (y / 16), hexd (y % 16)] rfl rfl (rd_lit _ _ 6) (by simp; omega) ?_; intro ao2 n2 c2 w2 hO2))
            go_ret
            exact ⟨_, _, _, rfl, hO2⟩
          · rw [esc1_plain (by omega) hq hq2]
            go_enter Trym.func10, Trym.ntmps10
            go_wp2_with (at_builtin; refine wpList_append_any rfl (.tmp 36) (.tmp 38) rfl w0 row0 _ xs rfl (hO.alloc _) _ 1 1 [y] rfl rfl (rd_lit _ [y] 1) (by simp; omega) ?_; intro ao2 n2 c2 w2 hO2)
            go_ret
            exact ⟨_, _, _, rfl, hO2⟩

end Go.Proofs.Qxb6604100aMods
