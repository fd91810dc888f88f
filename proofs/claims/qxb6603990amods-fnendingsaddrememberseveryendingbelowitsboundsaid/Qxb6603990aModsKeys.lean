/-
  THE WALKS: listsKeysSiteB1 (19), groupVotes (20), ZZB1GroupVotes (7).
-/
import Derived.Test.Qxb6603990aModsBase
namespace Go.Proofs.Qxb6603990aMods
open Go.RowKit Go.WideMaps Go.Maps
set_option linter.unusedVariables false

/-- the j-th string as a key -/
def keyAt (ss : List ByteArray) (j : Nat) : Lit := .string (ss.getD j ByteArray.empty).data.toList

theorem keyAt_lit (ss : List ByteArray) (j : Nat) : WideAt.IsKeyLit (keyAt ss j) := trivial

theorem key_ok {ss : List ByteArray} (hsz : ∀ s ∈ ss, s.size ≤ maxLen) (k : Nat) : keyOf Trym.prog 9 (.string (ss.getD k ByteArray.empty)) = some (keyAt ss k) := by
  refine keyOf_string_mk Trym.underlying9 ?_
  by_cases hk : k < ss.length
  · rw [List.getD, List.getElem?_eq_getElem hk]
    exact hsz _ (List.getElem_mem hk)
  · rw [List.getD, List.getElem?_eq_none (by omega)]
    exact Nat.zero_le _

/-- THE FIRST len STRINGS NAME EVERY KEY OF D ONCE -/
structure Listed {H : Type} (D : DataW H) (ss : List ByteArray) (len : Nat) : Prop where
  size : Maps.size D = len
  has : ∀ j, j < len → Maps.has D (keyAt ss j) = true
  apart : ∀ i j, i < j → j < len → keyAt ss i ≠ keyAt ss j

/-- what listsKeys answers -/
def Answer {H : Type} (D : DataW H) (ss : List ByteArray) (len : Nat) (e : Ending) : Prop :=
  ∃ b : Bool, e = .returned (.bool b) ∧ (b = true → Listed D ss len)

theorem answer_no {H : Type} {D : DataW H} {ss : List ByteArray} {len : Nat} : Answer D ss len (.returned (.bool false)) := ⟨false, rfl, fun h => by cases h⟩
theorem answer_yes {H : Type} {D : DataW H} {ss : List ByteArray} {len : Nat} (h : Listed D ss len) : Answer D ss len (.returned (.bool true)) := ⟨true, rfl, fun _ => h⟩

/-- all earlier keys are in the set of those seen -/
def Seen {H : Type} (S : DataW H) (ss : List ByteArray) (k : Nat) : Prop := IsMap S ∧ ∀ j, j < k → S.atKey (keyAt ss j) (.lit (.bool false)) = .lit (.bool true)

theorem seen_step {H : Type} {S : DataW H} {ss : List ByteArray} {k : Nat} (h : Seen S ss k) : Seen (S.put (keyAt ss k) (.lit (.bool true))) ss (k + 1) := by
  refine ⟨h.1.put _ _, fun j hj => ?_⟩
  by_cases e : keyAt ss j = keyAt ss k
  · rw [e]
    exact atKey_put_same h.1 (keyAt_lit ss k) _ _
  · rw [atKey_put_other e]
    refine h.2 j ?_
    rcases Nat.lt_or_ge j k with h1 | h1
    · exact h1
    · exact absurd (by rw [show j = k by omega]) e

theorem seen_new {H : Type} {S : DataW H} {ss : List ByteArray} {k : Nat} (h : Seen S ss k) (hat : S.atKey (keyAt ss k) (.lit (.bool false)) = .lit (.bool false)) : ∀ i, i < k → keyAt ss i ≠ keyAt ss k := by
  intro i hi e
  have h1 := h.2 i hi
  rw [e, hat] at h1
  cases h1

/-- what has been found so far -/
structure Sofar {H : Type} (D : DataW H) (ss : List ByteArray) (k : Nat) : Prop where
  has : ∀ j, j < k → Maps.has D (keyAt ss j) = true
  apart : ∀ i j, i < j → j < k → keyAt ss i ≠ keyAt ss j

theorem sofar_zero {H : Type} (D : DataW H) (ss : List ByteArray) : Sofar D ss 0 := ⟨fun j hj => absurd hj (Nat.not_lt_zero _), fun i j _ hj => absurd hj (Nat.not_lt_zero _)⟩

theorem sofar_step {H : Type} {D : DataW H} {ss : List ByteArray} {k : Nat} (h : Sofar D ss k) (hh : Maps.has D (keyAt ss k) = true) (ha : ∀ i, i < k → keyAt ss i ≠ keyAt ss k) : Sofar D ss (k + 1) := by
  refine ⟨fun j hj => ?_, fun i j hij hj => ?_⟩
  · rcases Nat.lt_or_ge j k with h1 | h1
    · exact h.has j h1
    · rw [show j = k by omega]; exact hh
  · rcases Nat.lt_or_ge j k with h1 | h1
    · exact h.apart i j hij h1
    · rw [show j = k by omega]; exact ha i (by omega)

theorem sofar_done {H : Type} {D : DataW H} {ss : List ByteArray} {k : Nat} (h : Sofar D ss k) (hs : Maps.size D = k) : Listed D ss k := ⟨hs, h.has, h.apart⟩

set_option maxRecDepth 100000 in
set_option maxHeartbeats 400000 in
theorem lists_none {H : Type} (r : Option Nat) (n : Nat) (D : DataW H) (a : Option Addr) (cap : Nat) (ss : List ByteArray) (w : World) (hmv : MapV w r n D) :
    Calls Trym.prog 19 #[.map r, .slice a 0 cap] w fun e w' => Answer D ss 0 e ∧ Below w.heap.size w w' := by
  have hmm := @run_makeMap Trym.prog
  have hlen := hmv.len
  by_cases hz : Maps.size D = 0
  · have HZ : Hid (Maps.size D = 0) := hz
    rw [hz] at hlen
    clear hz
    go_enter Trym.func19, Trym.ntmps19
    go_wp2
    refine wp_loop_rounds 1 ?_
    rw [rounds_succ]
    go_wp2
    go_ret
    exact ⟨answer_yes (sofar_done (sofar_zero D ss) HZ.out), (Below.refl _ _).alloc (Nat.le_refl _) _⟩
  · have hz' : ((0 : Int) == (Maps.size D : Int)) = false := by simp; omega
    go_enter Trym.func19, Trym.ntmps19
    go_wp2
    go_ret
    exact ⟨answer_no, Below.refl _ _⟩

set_option maxRecDepth 100000 in
set_option maxHeartbeats 800000 in
theorem lists_some {H : Type} (r : Option Nat) (n : Nat) (D : DataW H) (b off len cap : Nat) (ss : List ByteArray) (w : World) (hm : len ≤ 140737488351232) (hmv : MapV w r n D) (hb : b < w.heap.size)
    (hc : ∀ j, j < len → w.cell? ⟨b, off + j, none⟩ = some (.string (ss.getD j ByteArray.empty))) (hsz : ∀ s ∈ ss, s.size ≤ maxLen) :
    Calls Trym.prog 19 #[.map r, .slice (some ⟨b, off, none⟩) len cap] w fun e w' => Answer D ss len e ∧ Below w.heap.size w w' := by
  have hmm := @run_makeMap Trym.prog
  have hlen := hmv.len
  by_cases hz : Maps.size D = len
  · have HZ : Hid (Maps.size D = len) := hz
    rw [hz] at hlen
    clear hz
    go_enter Trym.func19, Trym.ntmps19
    go_wp2
    go_loopw [6] (fun i wr => ∃ (k : Nat) (S : DataW H), k ≤ len ∧ i = .int .i64 k ∧ wr.ownsMap Trym.prog 9 (plainElem Trym.prog 4) w.heap.size k S ∧ Seen S ss k ∧ Sofar D ss k ∧ Below w.heap.size w wr)
      (fun i _ => len - (intOf i).toNat)
    case atStart => exact ⟨0, .map [], Nat.zero_le _, rfl, World.ownsMap_made _ _ _ _, ⟨isMap_empty, fun j hj => absurd hj (Nat.not_lt_zero _)⟩, sofar_zero D ss, (Below.refl _ _).alloc (Nat.le_refl _) _⟩
    case round =>
      obtain ⟨k, S, hk, rfl, hown, hseen, hsf, hnx⟩ := hrel
      by_cases hlt : k < len
      · obtain ⟨s, hs⟩ : ∃ s, s = ss.getD k ByteArray.empty := ⟨_, rfl⟩
        have hcx : wr.cell? ⟨b, off + k, none⟩ = some (.string s) := by rw [hs]; exact (hnx.cell (by exact hb)).trans (hc k hlt)
        have hkey : keyOf Trym.prog 9 (.string s) = some (keyAt ss k) := by rw [hs]; exact key_ok hsz k
        clear hs
        have hmvr := hmv.below hnx
        by_cases hhas : Maps.has D (keyAt ss k) = true
        · have hrun := hmvr.look_ok hkey
          rw [hhas] at hrun
          have HH : Hid (Maps.has D (keyAt ss k) = true) := hhas
          clear hhas
          go_wp2_with (first
            | (at_lookup; refine wpList_look_bool _ rfl _ _ rfl w.heap.size k S rfl hown _ _ rfl hkey ?_; intro c hat; cases c)
            | (at_mapUpdate; refine wpList_mapUpdate_own _ rfl _ _ _ 52 rfl 9 4 law9 Trym.underlying52 _ w.heap.size k _ rfl hown (by unfold maxLen; omega) _ _ _ rfl rfl hkey _ [] (plainElem_bool Trym.underlying4 true) ?_; intro w1 hown1 hgrow1)
            | go_in)
          · go_wp2
            go_roundw
            case rel => exact ⟨k + 1, _, by omega, by go_num, hown1, seen_step hseen, sofar_step hsf HH.out (seen_new hseen hat), hnx.grown hgrow1 hnx.size (fun j hj => by cases hj; exact Nat.le_refl _)⟩
            case measure => simp [intOf]; omega
          · go_ret
            exact ⟨answer_no, hnx⟩
        · have hrun := hmvr.look_ok hkey
          rw [(by simpa using hhas : Maps.has D (keyAt ss k) = false)] at hrun
          clear hhas
          go_wp2
          go_ret
          exact ⟨answer_no, hnx⟩
      · have e : k = len := by omega
        subst e
        go_wp2
        go_ret
        exact ⟨answer_yes (sofar_done hsf HZ.out), hnx⟩
  · have hz' : ((len : Int) == (Maps.size D : Int)) = false := by simp; omega
    go_enter Trym.func19, Trym.ntmps19
    go_wp2
    go_ret
    exact ⟨answer_no, Below.refl _ _⟩

end Go.Proofs.Qxb6603990aMods
