/-
  THE WALKS OVER THE RECORD OF ENDINGS: ZZB1EndingsAdd (12), ZZB1NewEndings (11), the readers (13 to 16); EndedKept (21).
-/
import Derived.Test.Qxb6603990aModsEnds
namespace Go.Proofs.Qxb6603990aMods
open Go.RowKit Go.WideMaps Go.Maps
set_option linter.unusedVariables false

theorem zzadd_any (B k : Nat) (v : Value) (ids : List Value) (D : DataW Unit) (s : ByteArray) (st : Int) (w : World) (h : Ends w B k v ids D) (hk : k ≤ 65536) (hs : s.size ≤ maxLen) (hst : (Lit.int .i64 st).wf = true) :
    Calls Trym.prog 12 #[.pointer (some ⟨B + 1, 0, none⟩), .string s, .int .i64 st] w fun e w' => e = .returned (.tuple #[]) ∧ OneOn w' B k ids D s st ∧ Below B w w' := by
  obtain ⟨ao, cap, rfl⟩ := h.form
  go_enter Trym.func12, Trym.ntmps12
  go_wp2_with (go_at_call 22; refine (add_at B k cap ao ids D s st _ h hk hs hst).mono ?_; rintro e w' ⟨rfl, h1, h2⟩)
  go_end0
  exact ⟨rfl, h1, h2⟩

set_option maxRecDepth 100000 in
theorem new_any (w : World) :
    Calls Trym.prog 11 #[] w fun e w' => e = .returned (.pointer (some ⟨w.heap.size + 1, 0, none⟩)) ∧ Ends w' w.heap.size 0 (.slice none 0 0) [] (.map []) ∧ Below w.heap.size w w' := by
  have hmm := @run_makeMap Trym.prog
  go_enter Trym.func11, Trym.ntmps11
  go_wp2
  go_ret
  refine ⟨rfl, ⟨?_, World.ownsRow_nil _ _ _ _, (World.ownsMap_made _ _ _ _).alloc _⟩, ((Below.refl _ _).alloc (Nat.le_refl _) _).alloc (by simp) _⟩
  have e1 : (w.alloc (.map #[] 0)).heap.size = w.heap.size + 1 := by simp
  rw [← e1]
  exact heap_alloc_new _ _

theorem len_any (B k : Nat) (v : Value) (ids : List Value) (D : DataW Unit) (w : World) (h : Ends w B k v ids D) :
    Calls Trym.prog 13 #[.pointer (some ⟨B + 1, 0, none⟩)] w fun e w' => e = .returned (.int .i64 (Maps.size D)) ∧ w' = w := by
  obtain ⟨c0, c1, c2⟩ := three_cell h.blk
  have hlen := h.map.len Trym.underlying46
  clear h
  go_enter Trym.func13, Trym.ntmps13
  go_wp2
  go_ret
  exact ⟨rfl, rfl⟩

theorem oldest_any (B k : Nat) (v : Value) (ids : List Value) (D : DataW Unit) (w : World) (h : Ends w B k v ids D) :
    Calls Trym.prog 14 #[.pointer (some ⟨B + 1, 0, none⟩)] w fun e w' => e = .returned (.int .i64 0) ∧ w' = w := by
  obtain ⟨c0, c1, c2⟩ := three_cell h.blk
  clear h
  go_enter Trym.func14, Trym.ntmps14
  go_wp2
  go_ret
  exact ⟨rfl, rfl⟩

theorem ids_any (B k cap : Nat) (ao : Option Addr) (ids : List Value) (D : DataW Unit) (w : World) (h : Ends w B k (.slice ao k cap) ids D) :
    Calls Trym.prog 15 #[.pointer (some ⟨B + 1, 0, none⟩)] w fun e w' => e = .returned (.slice ao k cap) ∧ w' = w := by
  obtain ⟨c0, c1, c2⟩ := three_cell h.blk
  clear h
  go_enter Trym.func15, Trym.ntmps15
  go_wp2
  go_ret
  exact ⟨rfl, rfl⟩

theorem state_any (B k : Nat) (v : Value) (ids : List Value) (D : DataW Unit) (s : ByteArray) (w : World) (h : Ends w B k v ids D) (hs : s.size ≤ maxLen) :
    Calls Trym.prog 16 #[.pointer (some ⟨B + 1, 0, none⟩), .string s] w fun e w' => e = .returned (.tuple #[.int .i64 (valAt D (.string s.data.toList)), .bool (Maps.has D (.string s.data.toList))]) ∧ w' = w := by
  obtain ⟨c0, c1, c2⟩ := three_cell h.blk
  have hkey : keyOf Trym.prog 9 (.string s) = some (.string s.data.toList) := keyOf_string_mk Trym.underlying9 hs
  have hrun : (Instr.lookup 46 (.map (some B)) (.string s) true).run Trym.prog w = .ok (.tuple #[.int .i64 (valAt D (.string s.data.toList)), .bool (Maps.has D (.string s.data.toList))]) w := by
    obtain ⟨v, ps, hrun, hv⟩ := h.map.look_ok law9 Trym.underlying46 (zero50 w) (plainElem_int Trym.underlying50 (by decide)) hkey
    obtain ⟨c, rfl, hc, hwc⟩ := plainElem_int_inv Trym.underlying50 hv
    have e : valAt D (.string s.data.toList) = c := by have h1 : D.atKey (.string s.data.toList) (.lit (.int .i64 0)) = .lit (.int .i64 c) := congrArg Prod.fst hc; unfold valAt; rw [h1]; rfl
    rw [e]
    exact hrun
  clear h
  go_enter Trym.func16, Trym.ntmps16
  go_wp2
  go_ret2
  exact ⟨rfl, rfl⟩

theorem kept_any (w : World) : Calls Trym.prog 21 #[] w fun e w' => e = .returned (.int .i64 100000) ∧ w' = w := by
  go_enter Trym.func21, Trym.ntmps21
  go_wp2
  go_ret
  exact ⟨rfl, rfl⟩

/-- a script that came in: of length 0, or its elements lie there, two cells each -/
def ScrV (w : World) (a : Option Addr) (len : Nat) (sc : List (ByteArray × Int)) : Prop :=
  len = 0 ∨ ∃ b off, a = some ⟨b, off, none⟩ ∧ b < w.heap.size ∧ ∀ j, j < len → w.cell? ⟨b, off + j * 2, none⟩ = some (.string (sc.getD j (ByteArray.empty, 0)).1) ∧ w.cell? ⟨b, off + j * 2 + 1, none⟩ = some (.int .i64 (sc.getD j (ByteArray.empty, 0)).2)

/-- a bool came back -/
def SomeBool (e : Ending) : Prop := ∃ b : Bool, e = .returned (.bool b)

set_option maxHeartbeats 400000 in
theorem bytes_none (a : Option Addr) (cap : Nat) (w : World) :
    Calls Trym.prog 9 #[.slice a 0 cap] w fun e w' => SomeBool e ∧ w' = w := by
  go_enter Trym.func9, Trym.ntmps9
  go_wp2
  refine wp_loop_rounds 1 ?_
  rw [rounds_succ]
  go_wp2
  go_ret
  exact ⟨⟨_, rfl⟩, rfl⟩

set_option maxHeartbeats 400000 in
theorem bytes_some (b off len cap : Nat) (sc : List (ByteArray × Int)) (w : World) (hm : len ≤ 9223372036854775807)
    (hc : ∀ j, j < len → w.cell? ⟨b, off + j * 2, none⟩ = some (.string (sc.getD j (ByteArray.empty, 0)).1)) :
    Calls Trym.prog 9 #[.slice (some ⟨b, off, none⟩) len cap] w fun e w' => SomeBool e ∧ w' = w := by
  go_enter Trym.func9, Trym.ntmps9
  go_wp2
  · go_ret
    exact ⟨⟨_, rfl⟩, rfl⟩
  · go_loop [3, 4] (fun z i => ∃ (k : Nat) (z' : Int), k ≤ len ∧ i = .int .i64 k ∧ z = .int .i64 z') (fun _ i => len - (intOf i).toNat)
    case atStart => exact ⟨0, _, Nat.zero_le _, rfl, rfl⟩
    case round =>
      obtain ⟨k, z', hk, rfl, rfl⟩ := hrel
      by_cases hlt : k < len
      · obtain ⟨s, hs⟩ : ∃ s, s = (sc.getD k (ByteArray.empty, 0)).1 := ⟨_, rfl⟩
        have hcell := hc k hlt
        rw [← hs] at hcell
        clear hs hc
        go_wp2
        · go_ret
          exact ⟨⟨_, rfl⟩, rfl⟩
        · go_ret
          exact ⟨⟨_, rfl⟩, rfl⟩
        · go_round
          case rel => exact ⟨k + 1, _, by omega, by go_num, rfl⟩
          case measure => simp [intOf]; omega
      · go_wp2
        go_ret
        exact ⟨⟨_, rfl⟩, rfl⟩

set_option maxHeartbeats 400000 in
theorem okends_none (a : Option Addr) (cap : Nat) (w : World) :
    Calls Trym.prog 10 #[.slice a 0 cap] w fun e w' => SomeBool e ∧ w' = w := by
  go_enter Trym.func10, Trym.ntmps10
  go_wp2_with (go_at_call 17; refine (spend_any _ _ _ _ (by omega)).mono ?_; rintro e w' ⟨⟨r1, b1, rfl⟩, rfl⟩; cases b1)
  · go_ret
    exact ⟨⟨_, rfl⟩, rfl⟩
  · refine wp_loop_rounds 1 ?_
    rw [rounds_succ]
    go_wp2_with (go_at_call 21; refine (kept_any _).mono ?_; rintro e w' ⟨rfl, rfl⟩)
    go_ret
    exact ⟨⟨_, rfl⟩, rfl⟩

set_option maxHeartbeats 400000 in
theorem okends_some (b off len cap : Nat) (sc : List (ByteArray × Int)) (w : World) (hm : len ≤ 9223372036854775807)
    (hc : ∀ j, j < len → w.cell? ⟨b, off + j * 2, none⟩ = some (.string (sc.getD j (ByteArray.empty, 0)).1)) :
    Calls Trym.prog 10 #[.slice (some ⟨b, off, none⟩) len cap] w fun e w' => SomeBool e ∧ w' = w := by
  go_enter Trym.func10, Trym.ntmps10
  go_wp2_with (go_at_call 17; refine (spend_any _ _ _ _ (by omega)).mono ?_; rintro e w' ⟨⟨r1, b1, rfl⟩, rfl⟩; cases b1)
  · go_ret
    exact ⟨⟨_, rfl⟩, rfl⟩
  · go_loop [3, 4, 5] (fun z o i => ∃ (k : Nat) (z' : Int), k ≤ len ∧ i = .int .i64 k ∧ z = .int .i64 z') (fun _ _ i => len - (intOf i).toNat)
    case atStart => exact ⟨0, _, Nat.zero_le _, rfl, rfl⟩
    case round =>
      obtain ⟨k, z', hk, rfl, rfl⟩ := hrel
      by_cases hlt : k < len
      · obtain ⟨s, hs⟩ : ∃ s, s = (sc.getD k (ByteArray.empty, 0)).1 := ⟨_, rfl⟩
        have hcell := hc k hlt
        rw [← hs] at hcell
        clear hs hc
        go_wp2_with (go_at_call 17; refine (spend_any _ _ _ _ (by omega)).mono ?_; rintro e w' ⟨⟨r1, b1, rfl⟩, rfl⟩; cases b1)
        · go_ret
          exact ⟨⟨_, rfl⟩, rfl⟩
        · go_round
          case rel => exact ⟨k + 1, _, by omega, by go_num, rfl⟩
          case measure => simp [intOf]; omega
      · go_wp2_with (go_at_call 21; refine (kept_any _).mono ?_; rintro e w' ⟨rfl, rfl⟩)
        go_ret
        exact ⟨⟨_, rfl⟩, rfl⟩

theorem bytes_any (a : Option Addr) (len cap : Nat) (sc : List (ByteArray × Int)) (w : World) (hm : len ≤ 9223372036854775807) (hs : ScrV w a len sc) :
    Calls Trym.prog 9 #[.slice a len cap] w fun e w' => SomeBool e ∧ w' = w := by
  rcases hs with rfl | ⟨b, off, rfl, _, hc⟩
  · exact bytes_none a cap w
  · exact bytes_some b off len cap sc w hm (fun j hj => (hc j hj).1)

theorem okends_any (a : Option Addr) (len cap : Nat) (sc : List (ByteArray × Int)) (w : World) (hm : len ≤ 9223372036854775807) (hs : ScrV w a len sc) :
    Calls Trym.prog 10 #[.slice a len cap] w fun e w' => SomeBool e ∧ w' = w := by
  rcases hs with rfl | ⟨b, off, rfl, _, hc⟩
  · exact okends_none a cap w
  · exact okends_some b off len cap sc w hm (fun j hj => (hc j hj).1)

end Go.Proofs.Qxb6603990aMods
