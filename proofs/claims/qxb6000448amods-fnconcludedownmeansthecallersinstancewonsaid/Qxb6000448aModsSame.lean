/-
  THE WALK: sameBytes (17) of a slice with itself.
-/
import Derived.Test.Qxb6000448aModsClone
namespace Go.Proofs.Qxb6000448aMods
open Go.RowKit
set_option linter.unusedVariables false

set_option maxHeartbeats 400000 in
theorem same_none (a : Option Addr) (c : Nat) (w : World) :
    Calls Trym.prog 17 #[.slice a 0 c, .slice a 0 c] w fun e w' => e = .returned (.bool true) ∧ Below w.heap.size w w' := by
  have heq := fun (w : World) (a : Option Addr) (l c : Nat) => Lib.run_eql_slice_nil (P := Trym.prog) w 23 5 a l c 0 0 Trym.underlying23
  go_enter Trym.func17, Trym.ntmps17
  go_wp2
  refine wp_loop_rounds 1 ?_
  rw [rounds_succ]
  go_wp2
  go_ret
  exact ⟨rfl, Below.refl _ _⟩

set_option maxHeartbeats 800000 in
theorem same_some (b off n c : Nat) (w : World) (hn : n ≤ 131072) (hb : b < w.heap.size) (hc : ∀ j, j < n → ∃ x, w.cell? ⟨b, off + j, none⟩ = some (.int .u8 x)) :
    Calls Trym.prog 17 #[.slice (some ⟨b, off, none⟩) n c, .slice (some ⟨b, off, none⟩) n c] w fun e w' => e = .returned (.bool true) ∧ Below w.heap.size w w' := by
  have heq := fun (w : World) (a : Option Addr) (l c : Nat) => Lib.run_eql_slice_nil (P := Trym.prog) w 23 5 a l c 0 0 Trym.underlying23
  have HC : Hid (∀ j, j < n → ∃ x, w.cell? ⟨b, off + j, none⟩ = some (.int .u8 x)) := hc
  clear hc
  go_enter Trym.func17, Trym.ntmps17
  go_wp2
  go_loopw [5] (fun i wr => ∃ k : Nat, k ≤ n ∧ i = .int .i64 k ∧ Below w.heap.size w wr) (fun i _ => n - (intOf i).toNat)
  case atStart => exact ⟨0, Nat.zero_le _, rfl, Below.refl _ _⟩
  case round =>
    obtain ⟨k, hk, rfl, hnx⟩ := hrel
    by_cases hlt : k < n
    · obtain ⟨x, hx⟩ := HC.out k hlt
      have c1 := (hnx.cell (p := ⟨b, off + k, none⟩) hb).trans hx
      clear hx
      have hk0 : (0 : Int) ≤ (k : Int) := by omega
      have hk1 : (k : Int) < (n : Int) := by omega
      go_wp2
      go_region
      all_goals
        go_wp2
        go_roundw
        case rel => exact ⟨k + 1, by omega, by go_num, hnx.drew⟩
        case measure => simp [intOf]; omega
    · go_wp2
      go_ret
      exact ⟨rfl, hnx⟩

theorem same_any (ao : Option Addr) (n c : Nat) (w : World) (hn : n ≤ 131072) (h : Lies .u8 w ao n) :
    Calls Trym.prog 17 #[.slice ao n c, .slice ao n c] w fun e w' => e = .returned (.bool true) ∧ Below w.heap.size w w' := by
  rcases h with rfl | ⟨b, off, rfl, hb, hc⟩
  · exact same_none ao c w
  · exact same_some b off n c w hn hb hc

end Go.Proofs.Qxb6000448aMods
