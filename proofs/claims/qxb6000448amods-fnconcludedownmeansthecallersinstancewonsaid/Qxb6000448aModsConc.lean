/-
  THE WALKS: concluded (26), ZZConcluded (15).
-/
import Derived.Test.Qxb6000448aModsRows
import Derived.WalkKit
import Derived.WalkSpells
import Derived.Deep.QuietTactic
import Derived.BigQuiet
namespace Go.Proofs.Qxb6000448aMods
open Go.RowKit
set_option linter.unusedVariables false

/-- does the decision commit the caller's own number, whose result the caller holds? -/
def mineB (commit own : Int) (oo : Option Addr) : Bool := commit != 0 && (commit == own && !oo.isNone)

/-- the ways in which that is decided -/
theorem mine_ways (commit own : Int) (oo : Option Addr) : (commit = 0 ∧ mineB commit own oo = false) ∨ (commit ≠ 0 ∧ commit ≠ own ∧ mineB commit own oo = false) ∨ (commit ≠ 0 ∧ commit = own ∧ oo = none ∧ mineB commit own oo = false) ∨ (commit ≠ 0 ∧ commit = own ∧ ∃ a, oo = some a ∧ mineB commit own oo = true) := by
  by_cases h0 : commit = 0
  · exact Or.inl ⟨h0, by simp [mineB, h0]⟩
  · by_cases h1 : commit = own
    · cases oo with
      | none => exact Or.inr (Or.inr (Or.inl ⟨h0, h1, rfl, by simp [mineB]⟩))
      | some a => exact Or.inr (Or.inr (Or.inr ⟨h0, h1, a, rfl, by simp [mineB, h1]; omega⟩))
    · exact Or.inr (Or.inl ⟨h0, h1, by simp [mineB, h1]⟩)

set_option maxRecDepth 100000 in
set_option maxHeartbeats 800000 in
theorem conc_earlier (commit own : Int) (ack : Bool) (ra ba ma oo : Option Addr) (rn rc bn bc mn mc on oc : Nat) (id : ByteArray) (w : World) :
    Calls Trym.prog 26 #[.agg #[.int .i64 commit, .bool true, .bool ack, .slice ra rn rc, .slice ba bn bc, .slice ma mn mc], .agg #[.string id, .int .i64 own, .slice oo on oc]] w
      fun e w' => e = .returned (.tuple #[.agg #[.bool true, .bool ack, .slice ra rn rc, .bool (mineB commit own oo), .slice none 0 0], .bool true]) ∧ Below w.heap.size w w' := by
  have hne := fun (w : World) (a : Option Addr) (n c : Nat) => run_neq_slice_nil_any (P := Trym.prog) w 23 5 a n c 0 0 Trym.underlying23
  rcases mine_ways commit own oo with ⟨h0, hm⟩ | ⟨h0, h1, hm⟩ | ⟨h0, h1, h2, hm⟩ | ⟨h0, h1, a, h2, hm⟩
  · subst h0
    rw [hm]
    clear hm
    go_enter Trym.func26, Trym.ntmps26
    go_wp2
    exact bodyPost_ret (v := .tuple #[.agg #[.bool true, .bool ack, .slice ra rn rc, .bool false, .slice none 0 0], .bool true]) (by simp [results, Trym.results26, go_sem]) rfl ⟨rfl, (((Below.refl _ _).alloc (Nat.le_refl _) _).alloc (by simp) _).alloc (by simp; omega) _⟩
  · have q0 : (commit != 0) = true := by simpa using h0
    have q1 : (commit == own) = false := by simpa using h1
    rw [hm]
    clear hm
    go_enter Trym.func26, Trym.ntmps26
    go_wp2
    exact bodyPost_ret (v := .tuple #[.agg #[.bool true, .bool ack, .slice ra rn rc, .bool false, .slice none 0 0], .bool true]) (by simp [results, Trym.results26, go_sem]) rfl ⟨rfl, (((Below.refl _ _).alloc (Nat.le_refl _) _).alloc (by simp) _).alloc (by simp; omega) _⟩
  · subst h2
    subst h1
    have q0 : (commit != 0) = true := by simpa using h0
    rw [hm]
    clear hm
    go_enter Trym.func26, Trym.ntmps26
    go_wp2
    exact bodyPost_ret (v := .tuple #[.agg #[.bool true, .bool ack, .slice ra rn rc, .bool false, .slice none 0 0], .bool true]) (by simp [results, Trym.results26, go_sem]) rfl ⟨rfl, (((Below.refl _ _).alloc (Nat.le_refl _) _).alloc (by simp) _).alloc (by simp; omega) _⟩
  · subst h2
    subst h1
    have q0 : (commit != 0) = true := by simpa using h0
    rw [hm]
    clear hm
    go_enter Trym.func26, Trym.ntmps26
    go_wp2
    exact bodyPost_ret (v := .tuple #[.agg #[.bool true, .bool ack, .slice ra rn rc, .bool true, .slice none 0 0], .bool true]) (by simp [results, Trym.results26, go_sem]) rfl ⟨rfl, (((Below.refl _ _).alloc (Nat.le_refl _) _).alloc (by simp) _).alloc (by simp; omega) _⟩

set_option maxRecDepth 100000 in
set_option maxHeartbeats 800000 in
theorem conc_mine (commit own : Int) (ack : Bool) (ra ba ma oo : Option Addr) (rn rc bn bc mn mc on oc : Nat) (id : ByteArray) (w : World) (hmine : mineB commit own oo = true) :
    Calls Trym.prog 26 #[.agg #[.int .i64 commit, .bool false, .bool ack, .slice ra rn rc, .slice ba bn bc, .slice ma mn mc], .agg #[.string id, .int .i64 own, .slice oo on oc]] w
      fun e w' => e = .returned (.tuple #[.agg #[.bool true, .bool false, .slice oo on oc, .bool true, .slice none 0 0], .bool true]) ∧ Below w.heap.size w w' := by
  have hne := fun (w : World) (a : Option Addr) (n c : Nat) => run_neq_slice_nil_any (P := Trym.prog) w 23 5 a n c 0 0 Trym.underlying23
  rcases mine_ways commit own oo with ⟨h0, hm⟩ | ⟨h0, h1, hm⟩ | ⟨h0, h1, h2, hm⟩ | ⟨h0, h1, a, h2, hm⟩
  · subst h0
    rw [hm] at hmine
    cases hmine
  · have q0 : (commit != 0) = true := by simpa using h0
    have q1 : (commit == own) = false := by simpa using h1
    rw [hm] at hmine
    cases hmine
  · subst h2
    subst h1
    have q0 : (commit != 0) = true := by simpa using h0
    rw [hm] at hmine
    cases hmine
  · subst h2
    subst h1
    have q0 : (commit != 0) = true := by simpa using h0
    clear hm hmine
    go_enter Trym.func26, Trym.ntmps26
    go_wp2
    exact bodyPost_ret (v := .tuple #[.agg #[.bool true, .bool false, .slice (some a) on oc, .bool true, .slice none 0 0], .bool true]) (by simp [results, Trym.results26, go_sem]) rfl ⟨rfl, (((Below.refl _ _).alloc (Nat.le_refl _) _).alloc (by simp) _).alloc (by simp; omega) _⟩

set_option maxRecDepth 100000 in
set_option maxHeartbeats 800000 in
theorem conc_nothing (own : Int) (ack : Bool) (ra ba ma oo : Option Addr) (rn rc bn bc mn mc on oc : Nat) (id : ByteArray) (w : World) (hmn : mn = 0) :
    Calls Trym.prog 26 #[.agg #[.int .i64 0, .bool false, .bool ack, .slice ra rn rc, .slice ba bn bc, .slice ma mn mc], .agg #[.string id, .int .i64 own, .slice oo on oc]] w
      fun e w' => e = .returned (.tuple #[.agg #[.bool false, .bool false, .slice none 0 0, .bool false, .slice none 0 0], .bool true]) ∧ Below w.heap.size w w' := by
  have hne := fun (w : World) (a : Option Addr) (n c : Nat) => run_neq_slice_nil_any (P := Trym.prog) w 23 5 a n c 0 0 Trym.underlying23
  subst hmn
  go_enter Trym.func26, Trym.ntmps26
  go_wp2
  exact bodyPost_ret (v := .tuple #[.agg #[.bool false, .bool false, .slice none 0 0, .bool false, .slice none 0 0], .bool true]) (by simp [results, Trym.results26, go_sem]) rfl ⟨rfl, (((Below.refl _ _).alloc (Nat.le_refl _) _).alloc (by simp) _).alloc (by simp; omega) _⟩

set_option maxRecDepth 100000 in
set_option maxHeartbeats 800000 in
theorem conc_again (commit own : Int) (ack : Bool) (ra ba ma oo : Option Addr) (rn rc bn bc mn mc on oc : Nat) (id : ByteArray) (w : World) (hmine : mineB commit own oo = false) (hno : ¬ (commit = 0 ∧ mn = 0)) :
    Calls Trym.prog 26 #[.agg #[.int .i64 commit, .bool false, .bool ack, .slice ra rn rc, .slice ba bn bc, .slice ma mn mc], .agg #[.string id, .int .i64 own, .slice oo on oc]] w
      fun e w' => e = .returned (.tuple #[.agg #[.bool false, .bool false, .slice none 0 0, .bool false, .slice none 0 0], .bool false]) ∧ Below w.heap.size w w' := by
  have hne := fun (w : World) (a : Option Addr) (n c : Nat) => run_neq_slice_nil_any (P := Trym.prog) w 23 5 a n c 0 0 Trym.underlying23
  rcases mine_ways commit own oo with ⟨h0, hm⟩ | ⟨h0, h1, hm⟩ | ⟨h0, h1, h2, hm⟩ | ⟨h0, h1, a, h2, hm⟩
  · subst h0
    have q2 : ((mn : Int) == 0) = false := by simp at hno; simp; omega
    clear hno
    clear hm hmine
    go_enter Trym.func26, Trym.ntmps26
    go_wp2
    exact bodyPost_ret (v := .tuple #[.agg #[.bool false, .bool false, .slice none 0 0, .bool false, .slice none 0 0], .bool false]) (by simp [results, Trym.results26, go_sem]) rfl ⟨rfl, (((Below.refl _ _).alloc (Nat.le_refl _) _).alloc (by simp) _).alloc (by simp; omega) _⟩
  · have q0 : (commit != 0) = true := by simpa using h0
    have q1 : (commit == own) = false := by simpa using h1
    have q3 : (commit == 0) = false := by simpa using h0
    clear hno
    clear hm hmine
    go_enter Trym.func26, Trym.ntmps26
    go_wp2
    exact bodyPost_ret (v := .tuple #[.agg #[.bool false, .bool false, .slice none 0 0, .bool false, .slice none 0 0], .bool false]) (by simp [results, Trym.results26, go_sem]) rfl ⟨rfl, (((Below.refl _ _).alloc (Nat.le_refl _) _).alloc (by simp) _).alloc (by simp; omega) _⟩
  · subst h2
    subst h1
    have q0 : (commit != 0) = true := by simpa using h0
    have q3 : (commit == 0) = false := by simpa using h0
    clear hno
    clear hm hmine
    go_enter Trym.func26, Trym.ntmps26
    go_wp2
    exact bodyPost_ret (v := .tuple #[.agg #[.bool false, .bool false, .slice none 0 0, .bool false, .slice none 0 0], .bool false]) (by simp [results, Trym.results26, go_sem]) rfl ⟨rfl, (((Below.refl _ _).alloc (Nat.le_refl _) _).alloc (by simp) _).alloc (by simp; omega) _⟩
  · rw [hm] at hmine
    cases hmine

end Go.Proofs.Qxb6000448aMods
