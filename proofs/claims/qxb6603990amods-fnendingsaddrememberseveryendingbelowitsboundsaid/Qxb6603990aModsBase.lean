/-
  THE WALKS, THE LEAVES: spendSiteB1 (17), spendStringsSiteB1 (18).
-/
import Derived.Test.Qxb6603990aModsRows
import Derived.Test.Qxb6603990aModsSums
import Derived.WalkKit
import Derived.Maps.RangeWalk
namespace Go.Proofs.Qxb6603990aMods
open Go.RowKit Go.WideMaps Go.Maps
set_option linter.unusedVariables false

/-- a number and a bool came back -/
def SomePair (e : Ending) : Prop := ∃ (r : Int) (b : Bool), e = .returned (.tuple #[.int .i64 r, .bool b])

/-- spend: whatever the numbers, a pair comes back; nothing turns. -/
theorem spend_any (rem n q : Int) (w : World) (hq : 0 < q) :
    Calls Trym.prog 17 #[.int .i64 rem, .int .i64 n, .int .i64 q] w fun e w' => SomePair e ∧ w' = w := by
  have hq0 : (q == 0) = false := by simp; omega
  by_cases h1 : rem < 0
  · go_enter Trym.func17, Trym.ntmps17
    go_wp2
    go_ret2
    exact ⟨⟨_, _, rfl⟩, rfl⟩
  · by_cases h2 : n < 0
    · go_enter Trym.func17, Trym.ntmps17
      go_wp2
      go_ret2
      exact ⟨⟨_, _, rfl⟩, rfl⟩
    · go_enter Trym.func17, Trym.ntmps17
      go_wp2
      all_goals
        go_ret2
        exact ⟨⟨_, _, rfl⟩, rfl⟩

/-- spendStrings over a slice of length 0 -/
theorem spends_none (rem : Int) (a : Option Addr) (cap : Nat) (w : World) :
    Calls Trym.prog 18 #[.int .i64 rem, .slice a 0 cap] w fun e w' => SomePair e ∧ w' = w := by
  go_enter Trym.func18, Trym.ntmps18
  go_wp2_with (go_at_call 17; refine (spend_any _ _ _ _ (by omega)).mono ?_; rintro e w' ⟨⟨r, b, rfl⟩, rfl⟩; cases b)
  · go_ret2
    exact ⟨⟨_, _, rfl⟩, rfl⟩
  · refine wp_loop_rounds 1 ?_
    rw [rounds_succ]
    go_wp2
    go_ret2
    exact ⟨⟨_, _, rfl⟩, rfl⟩

set_option maxHeartbeats 400000 in
theorem spends_some (rem : Int) (b off len cap : Nat) (ss : List ByteArray) (w : World) (hm : len ≤ 9223372036854775807)
    (hc : ∀ j, j < len → w.cell? ⟨b, off + j, none⟩ = some (.string (ss.getD j ByteArray.empty))) :
    Calls Trym.prog 18 #[.int .i64 rem, .slice (some ⟨b, off, none⟩) len cap] w fun e w' => SomePair e ∧ w' = w := by
  go_enter Trym.func18, Trym.ntmps18
  go_wp2_with (go_at_call 17; refine (spend_any _ _ _ _ (by omega)).mono ?_; rintro e w' ⟨⟨r, b, rfl⟩, rfl⟩; cases b)
  · go_ret2
    exact ⟨⟨_, _, rfl⟩, rfl⟩
  · go_loop [0, 6, 7] (fun r o i => ∃ (k : Nat) (r' : Int), k ≤ len ∧ i = .int .i64 k ∧ r = .int .i64 r') (fun _ _ i => len - (intOf i).toNat)
    case atStart => exact ⟨0, _, Nat.zero_le _, rfl, rfl⟩
    case round =>
      obtain ⟨k, r', hk, rfl, rfl⟩ := hrel
      by_cases hlt : k < len
      · have hcell := hc k hlt
        go_wp2_with (go_at_call 17; refine (spend_any _ _ _ _ (by omega)).mono ?_; rintro e w' ⟨⟨r, b, rfl⟩, rfl⟩; cases b)
        · go_ret2
          exact ⟨⟨_, _, rfl⟩, rfl⟩
        · go_round
          case rel => exact ⟨k + 1, _, by omega, by go_num, rfl⟩
          case measure => simp [intOf]; omega
      · go_wp2
        go_ret2
        exact ⟨⟨_, _, rfl⟩, rfl⟩

/-- a slice of strings that came in: of length 0, or its elements lie there -/
def StrV (w : World) (a : Option Addr) (len : Nat) (ss : List ByteArray) : Prop :=
  len = 0 ∨ ∃ b off, a = some ⟨b, off, none⟩ ∧ b < w.heap.size ∧ ∀ j, j < len → w.cell? ⟨b, off + j, none⟩ = some (.string (ss.getD j ByteArray.empty))

theorem StrV.below {w w' : World} {a : Option Addr} {len : Nat} {ss : List ByteArray} (h : StrV w a len ss) (hb : Below w.heap.size w w') : StrV w' a len ss := by
  rcases h with h | ⟨b, off, ha, hlt, hc⟩
  · exact Or.inl h
  · exact Or.inr ⟨b, off, ha, Nat.lt_of_lt_of_le hlt hb.size, fun j hj => (hb.cell (p := ⟨b, off + j, none⟩) hlt).trans (hc j hj)⟩

theorem spends_any (rem : Int) (a : Option Addr) (len cap : Nat) (ss : List ByteArray) (w : World) (hm : len ≤ 9223372036854775807) (hs : StrV w a len ss) :
    Calls Trym.prog 18 #[.int .i64 rem, .slice a len cap] w fun e w' => SomePair e ∧ w' = w := by
  rcases hs with rfl | ⟨b, off, rfl, _, hc⟩
  · exact spends_none rem a cap w
  · exact spends_some rem b off len cap ss w hm hc

/-! ### the maps -/
theorem law9 : Keyed Trym.prog 9 := string_keyed Trym.underlying9
theorem zero3 (w : World) : (zeroValue 3).run Trym.prog w = .ok (.int .i64 0) w := by kernel_rfl
theorem zero4 (w : World) : (zeroValue 4).run Trym.prog w = .ok (.bool false) w := by kernel_rfl

section
variable {H : Type}

/-- a map[string]int that came in: nil, and reads as nothing; or a block that reads as D -/
def MapV (w : World) (r : Option Nat) (n : Nat) (D : DataW H) : Prop :=
  (r = none ∧ D = .map []) ∨ ∃ b, r = some b ∧ w.ownsMap Trym.prog 9 (plainElem Trym.prog 3) b n D

theorem ownsMap_below {P : Program} {k : TypeId} {R : Value → Option (DataW H × List MemPlace)} {w w' : World} {b n : Nat} {D : DataW H} (h : w.ownsMap P k R b n D) (hb : Below w.heap.size w w') : w'.ownsMap P k R b n D := by
  have hlt := h.lt
  obtain ⟨es, clock, hh, F, hs, hD⟩ := h
  exact ⟨es, clock, (hb.block b hlt).trans hh, F, hs, hD⟩

theorem MapV.below {w w' : World} {r : Option Nat} {n : Nat} {D : DataW H} (h : MapV w r n D) (hb : Below w.heap.size w w') : MapV w' r n D := by
  rcases h with h | ⟨b, hr, ho⟩
  · exact Or.inl h
  · exact Or.inr ⟨b, hr, ownsMap_below ho hb⟩

theorem MapV.tidy {w : World} {r : Option Nat} {n : Nat} {D : DataW H} (h : MapV w r n D) : Tidy D := by
  rcases h with ⟨_, rfl⟩ | ⟨b, _, ho⟩
  · exact tidy_empty
  · exact ho.tidy law9

theorem MapV.len {w : World} {r : Option Nat} {n : Nat} {D : DataW H} (h : MapV w r n D) (ty : TypeId) : (Builtin.len_ #[22] ty #[.map r]).run Trym.prog w = .ok (.int .i64 (Maps.size D)) w := by
  rcases h with ⟨rfl, rfl⟩ | ⟨b, rfl, ho⟩
  · exact Maps.len_nil Trym.underlying22 ty
  · exact ho.len Trym.underlying22 ty

theorem MapV.look {w : World} {r : Option Nat} {n : Nat} {D : DataW H} (h : MapV w r n D) {key : Value} {kl : Lit} (hkey : keyOf Trym.prog 9 key = some kl) :
    (Instr.lookup 22 (.map r) key false).run Trym.prog w = .ok (.int .i64 (valAt D kl)) w ∧ (Lit.int .i64 (valAt D kl)).wf = true := by
  rcases h with ⟨rfl, rfl⟩ | ⟨b, rfl, ho⟩
  · exact ⟨Maps.look_nil false law9 Trym.underlying22 (zero3 w) hkey, by show (Lit.int .i64 0).wf = true; decide⟩
  · obtain ⟨c, hrun, hat, hwc⟩ := ho.lookup_int law9 Trym.underlying22 Trym.underlying3 (zero3 w) hkey
    have e : valAt D kl = c := by unfold valAt; rw [hat]; rfl
    rw [e]
    exact ⟨hrun, hwc⟩

theorem MapV.look_ok {w : World} {r : Option Nat} {n : Nat} {D : DataW H} (h : MapV w r n D) {key : Value} {kl : Lit} (hkey : keyOf Trym.prog 9 key = some kl) :
    (Instr.lookup 22 (.map r) key true).run Trym.prog w = .ok (.tuple #[.int .i64 (valAt D kl), .bool (Maps.has D kl)]) w := by
  rcases h with ⟨rfl, rfl⟩ | ⟨b, rfl, ho⟩
  · exact Maps.look_nil true law9 Trym.underlying22 (zero3 w) hkey
  · obtain ⟨v, ps, hrun, hv⟩ := ho.look_ok law9 Trym.underlying22 (zero3 w) (plainElem_int Trym.underlying3 (by decide)) hkey
    obtain ⟨c, rfl, hc, hwc⟩ := plainElem_int_inv Trym.underlying3 hv
    have e : valAt D kl = c := by have h1 : D.atKey kl (.lit (.int .i64 0)) = .lit (.int .i64 c) := congrArg Prod.fst hc; unfold valAt; rw [h1]; rfl
    rw [e]
    exact hrun
end

section
variable {H : Type} {P : Program} (w : World) {ops : Array Oper} {rest : List Oper} {o : Oper} {a : Act} {Q : Exit → Act → World → Prop}

theorem wpList_look_mv (hg : o.guard = none) (m x : Operand) (hop : o.op = Op.lookup 22 m x false) (r : Option Nat) (n : Nat) (D : DataW H) (hm : a.eval m = .map r) (hmv : MapV w r n D)
    (key : Value) (kl : Lit) (hx : a.eval x = key) (hkey : keyOf Trym.prog 9 key = some kl)
    (hK : (Lit.int .i64 (valAt D kl)).wf = true → wpList Trym.prog ops Q rest (a.put o.dst (.int .i64 (valAt D kl))) w) : wpList Trym.prog ops Q (o :: rest) a w := by
  refine wpList_plain hg fun K' hK' => ?_
  obtain ⟨hrun, hwc⟩ := hmv.look hkey
  unfold Oper.wp
  simp [execOp, hop, hm, hx, hrun, Result.andThen]
  exact hK' _ _ (hK hwc)

theorem wpList_look_ok_mv (hg : o.guard = none) (m x : Operand) (hop : o.op = Op.lookup 22 m x true) (r : Option Nat) (n : Nat) (D : DataW H) (hm : a.eval m = .map r) (hmv : MapV w r n D)
    (key : Value) (kl : Lit) (hx : a.eval x = key) (hkey : keyOf Trym.prog 9 key = some kl)
    (hK : wpList Trym.prog ops Q rest (a.put o.dst (.tuple #[.int .i64 (valAt D kl), .bool (Maps.has D kl)])) w) : wpList Trym.prog ops Q (o :: rest) a w := by
  refine wpList_plain hg fun K' hK' => ?_
  have hrun := hmv.look_ok hkey
  unfold Oper.wp
  simp [execOp, hop, hm, hx, hrun, Result.andThen]
  exact hK' _ _ hK

/-- a look-up in a map[string]bool of the call's own -/
theorem wpList_look_bool (hg : o.guard = none) (m x : Operand) (hop : o.op = Op.lookup 52 m x false) (b n : Nat) (D : DataW H) (hm : a.eval m = .map (some b)) (hown : w.ownsMap Trym.prog 9 (plainElem Trym.prog 4) b n D)
    (key : Value) (kl : Lit) (hx : a.eval x = key) (hkey : keyOf Trym.prog 9 key = some kl)
    (hK : ∀ c : Bool, D.atKey kl (.lit (.bool false)) = .lit (.bool c) → wpList Trym.prog ops Q rest (a.put o.dst (.bool c)) w) : wpList Trym.prog ops Q (o :: rest) a w := by
  refine wpList_plain hg fun K' hK' => ?_
  obtain ⟨v, ps, hrun, hv⟩ := hown.lookup law9 Trym.underlying52 (zero4 w) (plainElem_bool Trym.underlying4 false) hkey
  have hb : ∃ c, v = .bool c ∧ D.atKey kl (.lit (.bool false)) = .lit (.bool c) := by
    unfold plainElem at hv
    rw [Trym.underlying4] at hv
    cases v <;> simp at hv
    exact ⟨_, rfl, hv.1.symm⟩
  obtain ⟨c, rfl, hat⟩ := hb
  unfold Oper.wp
  simp [execOp, hop, hm, hx, hrun, Result.andThen]
  exact hK' _ _ (hK c hat)
end

end Go.Proofs.Qxb6603990aMods
