/-
  THE WALK: ZZConcluded (15), out of concluded's contract.
-/
import Derived.Test.Qxb6000448aModsConc
import Derived.WalkSmall
namespace Go.Proofs.Qxb6000448aMods
open Go.RowKit
set_option linter.unusedVariables false

set_option maxRecDepth 100000 in
set_option maxHeartbeats 1600000 in
theorem zz_of (commit own : Int) (earlier ack : Bool) (ra ba ma oo : Option Addr) (rn rc bn bc mn mc on oc : Nat) (id : ByteArray) (c a o ok : Bool) (xa : Option Addr) (xn xc : Nat) (w : World)
    (h : Hid (∀ w : World, Calls Trym.prog 26 #[.agg #[.int .i64 commit, .bool earlier, .bool ack, .slice ra rn rc, .slice ba bn bc, .slice ma mn mc], .agg #[.string id, .int .i64 own, .slice oo on oc]] w
      fun e w' => e = .returned (.tuple #[.agg #[.bool c, .bool a, .slice xa xn xc, .bool o, .slice none 0 0], .bool ok]) ∧ Below w.heap.size w w')) :
    Calls Trym.prog 15 #[.int .i64 commit, .bool earlier, .bool ack, .slice ra rn rc, .slice ba bn bc, .slice ma mn mc, .string id, .int .i64 own, .slice oo on oc] w
      fun e w' => e = .returned (.tuple #[.bool c, .bool a, .slice xa xn xc, .bool o, .slice none 0 0, .bool ok]) ∧ Below w.heap.size w w' := by
  go_enter Trym.func15, Trym.ntmps15
  go_wp2_with (go_at_call 26; refine (h.out _).mono ?_; rintro e w1 ⟨rfl, hb1⟩)
  go_quiet (fail)
  go_wp2
  exact bodyPost_ret (v := .tuple #[.bool c, .bool a, .slice xa xn xc, .bool o, .slice none 0 0, .bool ok]) (by simp [results, Trym.results15, go_sem]) rfl ⟨rfl, below_drewN (hb1.alloc hb1.size _) _⟩

end Go.Proofs.Qxb6000448aMods
