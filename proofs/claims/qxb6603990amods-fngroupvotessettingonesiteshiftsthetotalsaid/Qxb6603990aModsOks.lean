/-
  THE WALKS: okGroupVotesSumSiteB1 (6), okGroupVotesSetSiteB1 (8).
-/
import Derived.Test.Qxb6603990aModsVotes
namespace Go.Proofs.Qxb6603990aMods
open Go.RowKit Go.WideMaps Go.Maps
set_option linter.unusedVariables false

theorem lists_any {H : Type} (r : Option Nat) (n : Nat) (D : DataW H) (a : Option Addr) (len cap : Nat) (ss : List ByteArray) (w : World) (hm : len ≤ 140737488351232) (hmv : MapV w r n D) (hs : StrV w a len ss) (hsz : ∀ s ∈ ss, s.size ≤ maxLen) :
    Calls Trym.prog 19 #[.map r, .slice a len cap] w fun e w' => Answer D ss len e ∧ Below w.heap.size w w' := by
  rcases hs with rfl | ⟨b, off, rfl, hb, hc⟩
  · exact lists_none r n D a cap ss w hmv
  · exact lists_some r n D b off len cap ss w hm hmv hb hc hsz

set_option maxHeartbeats 400000 in
theorem oksum_any {H : Type} (p : ByteArray) (r : Option Nat) (n : Nat) (D : DataW H) (a : Option Addr) (len cap : Nat) (ss : List ByteArray) (w : World) (hm : len ≤ 140737488351232) (hmv : MapV w r n D) (hs : StrV w a len ss) (hsz : ∀ s ∈ ss, s.size ≤ maxLen) :
    Calls Trym.prog 6 #[.string p, .map r, .slice a len cap] w fun e w' => Answer D ss len e ∧ Below w.heap.size w w' := by
  have hlen := hmv.len
  go_enter Trym.func6, Trym.ntmps6
  go_wp2_with (first
    | (go_at_call 17; refine (spend_any _ _ _ _ (by omega)).mono ?_; rintro e w' ⟨⟨r1, b1, rfl⟩, rfl⟩; cases b1)
    | (go_at_call 18; refine (spends_any _ a len cap ss _ (by omega) hs).mono ?_; rintro e w' ⟨⟨r1, b1, rfl⟩, rfl⟩; cases b1)
    | (go_at_call 19; refine (lists_any r n D a len cap ss _ hm hmv hs hsz).mono ?_; rintro e w' ⟨⟨b, rfl, hb⟩, hbel⟩))
  · go_ret
    exact ⟨answer_no, Below.refl _ _⟩
  · go_ret
    exact ⟨answer_no, Below.refl _ _⟩
  · go_ret
    exact ⟨answer_no, Below.refl _ _⟩
  · go_ret
    exact ⟨⟨_, rfl, hb⟩, hbel⟩

set_option maxHeartbeats 400000 in
theorem okset_any {H : Type} (p : ByteArray) (r : Option Nat) (n : Nat) (D : DataW H) (a : Option Addr) (len cap : Nat) (ss : List ByteArray) (w : World) (hm : len ≤ 140737488351232) (hmv : MapV w r n D) (hs : StrV w a len ss) (hsz : ∀ s ∈ ss, s.size ≤ maxLen) :
    Calls Trym.prog 8 #[.map r, .slice a len cap, .string p] w fun e w' => Answer D ss len e ∧ Below w.heap.size w w' := by
  have hlen := hmv.len
  go_enter Trym.func8, Trym.ntmps8
  go_wp2_with (first
    | (go_at_call 17; refine (spend_any _ _ _ _ (by omega)).mono ?_; rintro e w' ⟨⟨r1, b1, rfl⟩, rfl⟩; cases b1)
    | (go_at_call 18; refine (spends_any _ a len cap ss _ (by omega) hs).mono ?_; rintro e w' ⟨⟨r1, b1, rfl⟩, rfl⟩; cases b1)
    | (go_at_call 19; refine (lists_any r n D a len cap ss _ hm hmv hs hsz).mono ?_; rintro e w' ⟨⟨b, rfl, hb⟩, hbel⟩))
  · go_ret
    exact ⟨answer_no, Below.refl _ _⟩
  · go_ret
    exact ⟨answer_no, Below.refl _ _⟩
  · go_ret
    exact ⟨answer_no, Below.refl _ _⟩
  · go_ret
    exact ⟨⟨_, rfl, hb⟩, hbel⟩

end Go.Proofs.Qxb6603990aMods
