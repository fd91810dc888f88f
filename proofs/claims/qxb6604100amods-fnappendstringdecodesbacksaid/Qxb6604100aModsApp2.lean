/-
  THE WALKS: appendString (25) at a nil s; ZZAppendString (11).
-/
import Derived.Test.Qxb6604100aModsApp
namespace Go.Proofs.Qxb6604100aMods
open Go.RowKit
set_option linter.unusedVariables false

set_option maxRecDepth 100000 in
set_option maxHeartbeats 800000 in
theorem app_nil (oa : Option Addr) (on oc : Nat) (xs : List Int) (w : World) (hO : w.ownsRow 0 5 1 (.slice oa on oc) xs.length (bys xs)) (hsz : xs.length ≤ 1000000000) :
    Calls Trym.prog 25 #[.slice oa on oc, .slice none 0 0] w fun e w' => Res w (Value.ownBlock (.slice oa on oc)) w' (xs ++ [34] ++ esc [] ++ [34]) e := by
  obtain ⟨row0, hrow⟩ : ∃ row0, row0 = Value.ownBlock (.slice oa on oc) := ⟨_, rfl⟩
  rw [← hrow]
  have hO0 : Own w row0 w (.slice oa on oc) xs := ⟨hO, World.grownBy.refl _ _, fun g hg => Or.inr (by rw [hrow]; exact hg)⟩
  clear hrow hO
  go_enter Trym.func25, Trym.ntmps25
  go_wp2_with (at_builtin; refine wpList_append_any rfl (.tmp 8) (.tmp 9) rfl w row0 _ xs rfl (hO0.alloc _) _ 1 1 [34] rfl rfl (rd_lit _ [34] 1) (by simp; omega) ?_; intro oa1 n1 c1 w1 hO1)
  refine wp_loop_rounds 1 ?_
  rw [rounds_succ]
  go_wp2_with (first
    | (at_builtin; refine wpList_append_any rfl (.tmp 64) (.tmp 67) rfl w row0 _ (xs ++ [34]) rfl hO1 _ 0 0 [] rfl rfl (Or.inl ⟨rfl, rfl, rfl⟩) (by simp; omega) ?_; intro ao2 n2 c2 w2 hO2)
    | (at_builtin; refine wpList_append_any rfl (.tmp 69) (.tmp 70) rfl w row0 _ (xs ++ [34] ++ []) rfl (hO2.alloc _) _ 1 1 [34] rfl rfl (rd_lit _ [34] 1) (by simp; omega) ?_; intro ao3 n3 c3 w3 hO3))
  go_ret
  exact ⟨_, _, _, rfl, hO3⟩

theorem app_any (oa : Option Addr) (on oc : Nat) (xs : List Int) (so : Option Addr) (sn sc : Nat) (ys : List Int) (w : World) (hO : w.ownsRow 0 5 1 (.slice oa on oc) xs.length (bys xs)) (hS : w.ownsRow 0 5 1 (.slice so sn sc) ys.length (bys ys))
    (hne : ∀ g, Value.ownBlock (.slice so sn sc) = some g → Value.ownBlock (.slice oa on oc) ≠ some g) (hsz : xs.length + 6 * ys.length ≤ 1000000000) (hby : ∀ y ∈ ys, 0 ≤ y ∧ y ≤ 255) :
    Calls Trym.prog 25 #[.slice oa on oc, .slice so sn sc] w fun e w' => Res w (Value.ownBlock (.slice oa on oc)) w' (xs ++ [34] ++ esc ys ++ [34]) e := by
  rcases hS.2 with ⟨h1, h2⟩ | ⟨g, cap, cur, h1, _, _, h4, _⟩
  · cases h1
    obtain rfl : ys = [] := List.eq_nil_of_length_eq_zero h2
    exact app_nil oa on oc xs w hO (by simpa using hsz)
  · cases h1
    exact app_some oa on oc xs g ys.length sc ys w hO hS rfl h4 (hne g rfl) hsz hby

theorem zzapp_any (oa : Option Addr) (on oc : Nat) (xs : List Int) (so : Option Addr) (sn sc : Nat) (ys : List Int) (w : World) (hO : w.ownsRow 0 5 1 (.slice oa on oc) xs.length (bys xs)) (hS : w.ownsRow 0 5 1 (.slice so sn sc) ys.length (bys ys))
    (hne : ∀ g, Value.ownBlock (.slice so sn sc) = some g → Value.ownBlock (.slice oa on oc) ≠ some g) (hsz : xs.length + 6 * ys.length ≤ 1000000000) (hby : ∀ y ∈ ys, 0 ≤ y ∧ y ≤ 255) :
    Calls Trym.prog 11 #[.slice oa on oc, .slice so sn sc] w fun e w' => Res w (Value.ownBlock (.slice oa on oc)) w' (xs ++ [34] ++ esc ys ++ [34]) e := by
  go_enter Trym.func11, Trym.ntmps11
  go_wp2_with (go_at_call 25; refine (app_any oa on oc xs so sn sc ys _ hO hS hne hsz hby).mono ?_; rintro e w' ⟨ao, n, c, rfl, hR⟩)
  go_ret
  exact ⟨_, _, _, rfl, hR⟩

end Go.Proofs.Qxb6604100aMods
