/-
  THE WALKS: cloneBytes (13), cloneInts (14), sameBytes (17), zzBytes (12, 19).
-/
import Derived.Test.Qxb6000448aModsZz
namespace Go.Proofs.Qxb6000448aMods
open Go.RowKit
set_option linter.unusedVariables false

theorem Trym.info5 : (Trym.prog.info? 5).map (fun i => (i.zero, i.size, i.bytes)) = some (some (.int .u8 0), 1, 1) := by kernel_rfl
theorem Trym.info3 : (Trym.prog.info? 3).map (fun i => (i.zero, i.size, i.bytes)) = some (some (.int .i64 0), 1, 8) := by kernel_rfl

/-- numbers of kind q lie at the slice's address, len of them -/
def Lies (q : IntKind) (w : World) (ao : Option Addr) (len : Nat) : Prop :=
  len = 0 ∨ ∃ b off, ao = some ⟨b, off, none⟩ ∧ b < w.heap.size ∧ ∀ j, j < len → ∃ x, w.cell? ⟨b, off + j, none⟩ = some (.int q x)

theorem Lies.below {q : IntKind} {w w' : World} {ao : Option Addr} {len : Nat} (h : Lies q w ao len) (hb : Below w.heap.size w w') : Lies q w' ao len := by
  rcases h with h | ⟨b, off, h1, h2, h3⟩
  · exact Or.inl h
  · refine Or.inr ⟨b, off, h1, Nat.lt_of_lt_of_le h2 hb.size, fun j hj => ?_⟩
    obtain ⟨x, hx⟩ := h3 j hj
    exact ⟨x, (hb.cell (p := ⟨b, off + j, none⟩) h2).trans hx⟩

/-- a copy came back -/
def Copy (q : IntKind) (a : Option Addr) (len : Nat) (w w' : World) (e : Ending) : Prop :=
  ∃ ao c, e = .returned (.slice ao len c) ∧ ao.isNone = a.isNone ∧ Lies q w' ao len ∧ Below w.heap.size w w'

theorem clone13_nil (w : World) : Calls Trym.prog 13 #[.slice none 0 0] w fun e w' => Copy .u8 none 0 w w' e := by
  have hnil := fun (w : World) (a : Option Addr) (l c : Nat) => Lib.run_eql_slice_nil (P := Trym.prog) w 23 5 a l c 0 0 Trym.underlying23
  go_enter Trym.func13, Trym.ntmps13
  go_wp2
  go_ret
  exact ⟨none, 0, rfl, rfl, Or.inl rfl, Below.refl _ _⟩

set_option maxHeartbeats 400000 in
theorem clone13_some (b off len cap : Nat) (w : World) (hl : len ≤ 131072) (hb : b < w.heap.size) (hc : ∀ j, j < len → ∃ x, w.cell? ⟨b, off + j, none⟩ = some (.int .u8 x)) :
    Calls Trym.prog 13 #[.slice (some ⟨b, off, none⟩) len cap] w fun e w' => Copy .u8 (some ⟨b, off, none⟩) len w w' e := by
  have hnil := fun (w : World) (a : Option Addr) (l c : Nat) => Lib.run_eql_slice_nil (P := Trym.prog) w 23 5 a l c 0 0 Trym.underlying23
  obtain ⟨i0, hi, hz0, hz1, hz2⟩ := info_parts Trym.info5
  have HC : Hid (∀ j, j < len → ∃ x, w.cell? ⟨b, off + j, none⟩ = some (.int .u8 x)) := hc
  clear hc
  go_enter Trym.func13, Trym.ntmps13
  go_wp2_with (at_make; refine wpList_make_full _ rfl (.tmp 8) (.tmp 8) 23 rfl 0 5 i0 (.int .u8 0) 1 Trym.underlying23 hi hz0 hz1 _ _ _ _ len rfl rfl rfl rfl (by rw [hz2]; omega) (by unfold maxLen; omega) (Nat.zero_le _) ?_; intro w1 hown1 hg1)
  go_loopw [4] (fun i wr => ∃ (k : Nat) (zs : List Int), k ≤ len ∧ i = .int .i64 k ∧ wr.ownsRow 0 5 1 (.slice (some ⟨w.heap.size, 0, none⟩) len len) len (zs.map (Value.int .u8)) ∧ Below w.heap.size w wr) (fun i _ => len - (intOf i).toNat)
  case atStart =>
    refine ⟨0, List.replicate len 0, Nat.zero_le _, rfl, ?_, (Below.refl _ _).grown hg1 (Nat.le_refl _) (fun j hj => by cases hj)⟩
    have e : (madeCells (Value.int .u8 0).cells (len * 1)).toList = (List.replicate len (0 : Int)).map (Value.int .u8) := by
      rw [Nat.mul_one, List.map_replicate]
      exact toList_madeCells_one _ _
    rw [← e]
    exact hown1
  case round =>
    obtain ⟨k, zs, hk, rfl, hown, hnx⟩ := hrel
    by_cases hlt : k < len
    · obtain ⟨x, hx⟩ := HC.out k hlt
      have hc1 := (hnx.cell (p := ⟨b, off + k, none⟩) hb).trans hx
      have hzl : zs.length = len := by simpa using hown.1
      have hc2 : wr.cell? ⟨w.heap.size, k, none⟩ = some (.int .u8 (zs.getD k 0)) := by
        rw [hown.cellAt k (by omega)]
        simp [List.getD, hzl, hlt]
      have hf2 := hown.frozenAt k
      have HZ : Hid (zs.length = len) := hzl
      clear hx hzl
      go_wp2
      go_roundw
      case rel => exact ⟨k + 1, zs.set k x, by omega, by go_num, by rw [List.map_set]; exact (hown.stored k (.int .u8 x)).1, hnx.setCell (Nat.le_refl _) _⟩
      case measure => simp [intOf]; omega
    · have e : k = len := by omega
      subst e
      go_wp2
      go_ret
      have hzl : zs.length = k := by simpa using hown.1
      refine ⟨_, _, rfl, rfl, Or.inr ⟨w.heap.size, 0, rfl, (hown.lt w.heap.size rfl).2, fun j hj => ⟨zs.getD j 0, ?_⟩⟩, hnx⟩
      rw [Nat.zero_add, hown.cellAt j (by omega)]
      simp [List.getD, hzl, hj]

set_option maxHeartbeats 400000 in
theorem clone13_empty (x : Addr) (cap : Nat) (w : World) :
    Calls Trym.prog 13 #[.slice (some x) 0 cap] w fun e w' => Copy .u8 (some x) 0 w w' e := by
  have hnil := fun (w : World) (a : Option Addr) (l c : Nat) => Lib.run_eql_slice_nil (P := Trym.prog) w 23 5 a l c 0 0 Trym.underlying23
  obtain ⟨i0, hi, hz0, hz1, hz2⟩ := info_parts Trym.info5
  go_enter Trym.func13, Trym.ntmps13
  go_wp2_with (at_make; refine wpList_make_full _ rfl (.tmp 8) (.tmp 8) 23 rfl 0 5 i0 (.int .u8 0) 1 Trym.underlying23 hi hz0 hz1 _ _ _ _ 0 rfl rfl rfl rfl (by rw [hz2]; omega) (by unfold maxLen; omega) (Nat.zero_le _) ?_; intro w1 hown1 hg1)
  refine wp_loop_rounds 1 ?_
  rw [rounds_succ]
  go_wp2
  go_ret
  exact ⟨_, _, rfl, rfl, Or.inl rfl, (Below.refl _ _).grown hg1 (Nat.le_refl _) (fun j hj => by cases hj)⟩

/-- what is asked of a slice that came in: nil, without capacity; or numbers lie there -/
def InV (q : IntKind) (w : World) (a : Option Addr) (len cap : Nat) : Prop := (a = none ∧ len = 0 ∧ cap = 0) ∨ ((∃ x, a = some x) ∧ Lies q w a len)

theorem InV.below {q : IntKind} {w w' : World} {a : Option Addr} {len cap : Nat} (h : InV q w a len cap) (hb : Below w.heap.size w w') : InV q w' a len cap := by
  rcases h with h | ⟨h1, h2⟩
  · exact Or.inl h
  · exact Or.inr ⟨h1, h2.below hb⟩

theorem clone13_any (a : Option Addr) (len cap : Nat) (w : World) (hl : len ≤ 131072) (h : InV .u8 w a len cap) :
    Calls Trym.prog 13 #[.slice a len cap] w fun e w' => Copy .u8 a len w w' e := by
  rcases h with ⟨rfl, rfl, rfl⟩ | ⟨⟨x, rfl⟩, h2⟩
  · exact clone13_nil w
  · rcases h2 with rfl | ⟨b, off, h3, hb, hc⟩
    · exact clone13_empty x cap w
    · cases h3
      exact clone13_some b off len cap w hl hb hc

theorem clone14_nil (w : World) : Calls Trym.prog 14 #[.slice none 0 0] w fun e w' => Copy .i64 none 0 w w' e := by
  have hnil := fun (w : World) (a : Option Addr) (l c : Nat) => Lib.run_eql_slice_nil (P := Trym.prog) w 24 3 a l c 0 0 Trym.underlying24
  go_enter Trym.func14, Trym.ntmps14
  go_wp2
  go_ret
  exact ⟨none, 0, rfl, rfl, Or.inl rfl, Below.refl _ _⟩

set_option maxHeartbeats 400000 in
theorem clone14_some (b off len cap : Nat) (w : World) (hl : len ≤ 16384) (hb : b < w.heap.size) (hc : ∀ j, j < len → ∃ x, w.cell? ⟨b, off + j, none⟩ = some (.int .i64 x)) :
    Calls Trym.prog 14 #[.slice (some ⟨b, off, none⟩) len cap] w fun e w' => Copy .i64 (some ⟨b, off, none⟩) len w w' e := by
  have hnil := fun (w : World) (a : Option Addr) (l c : Nat) => Lib.run_eql_slice_nil (P := Trym.prog) w 24 3 a l c 0 0 Trym.underlying24
  obtain ⟨i0, hi, hz0, hz1, hz2⟩ := info_parts Trym.info3
  have HC : Hid (∀ j, j < len → ∃ x, w.cell? ⟨b, off + j, none⟩ = some (.int .i64 x)) := hc
  clear hc
  go_enter Trym.func14, Trym.ntmps14
  go_wp2_with (at_make; refine wpList_make_full _ rfl (.tmp 8) (.tmp 8) 24 rfl 0 3 i0 (.int .i64 0) 1 Trym.underlying24 hi hz0 hz1 _ _ _ _ len rfl rfl rfl rfl (by rw [hz2]; omega) (by unfold maxLen; omega) (Nat.zero_le _) ?_; intro w1 hown1 hg1)
  go_loopw [4] (fun i wr => ∃ (k : Nat) (zs : List Int), k ≤ len ∧ i = .int .i64 k ∧ wr.ownsRow 0 3 1 (.slice (some ⟨w.heap.size, 0, none⟩) len len) len (zs.map (Value.int .i64)) ∧ Below w.heap.size w wr) (fun i _ => len - (intOf i).toNat)
  case atStart =>
    refine ⟨0, List.replicate len 0, Nat.zero_le _, rfl, ?_, (Below.refl _ _).grown hg1 (Nat.le_refl _) (fun j hj => by cases hj)⟩
    have e : (madeCells (Value.int .i64 0).cells (len * 1)).toList = (List.replicate len (0 : Int)).map (Value.int .i64) := by
      rw [Nat.mul_one, List.map_replicate]
      exact toList_madeCells_one _ _
    rw [← e]
    exact hown1
  case round =>
    obtain ⟨k, zs, hk, rfl, hown, hnx⟩ := hrel
    by_cases hlt : k < len
    · obtain ⟨x, hx⟩ := HC.out k hlt
      have hc1 := (hnx.cell (p := ⟨b, off + k, none⟩) hb).trans hx
      have hzl : zs.length = len := by simpa using hown.1
      have hc2 : wr.cell? ⟨w.heap.size, k, none⟩ = some (.int .i64 (zs.getD k 0)) := by
        rw [hown.cellAt k (by omega)]
        simp [List.getD, hzl, hlt]
      have hf2 := hown.frozenAt k
      have HZ : Hid (zs.length = len) := hzl
      clear hx hzl
      go_wp2
      go_roundw
      case rel => exact ⟨k + 1, zs.set k x, by omega, by go_num, by rw [List.map_set]; exact (hown.stored k (.int .i64 x)).1, hnx.setCell (Nat.le_refl _) _⟩
      case measure => simp [intOf]; omega
    · have e : k = len := by omega
      subst e
      go_wp2
      go_ret
      have hzl : zs.length = k := by simpa using hown.1
      refine ⟨_, _, rfl, rfl, Or.inr ⟨w.heap.size, 0, rfl, (hown.lt w.heap.size rfl).2, fun j hj => ⟨zs.getD j 0, ?_⟩⟩, hnx⟩
      rw [Nat.zero_add, hown.cellAt j (by omega)]
      simp [List.getD, hzl, hj]

set_option maxHeartbeats 400000 in
theorem clone14_empty (x : Addr) (cap : Nat) (w : World) :
    Calls Trym.prog 14 #[.slice (some x) 0 cap] w fun e w' => Copy .i64 (some x) 0 w w' e := by
  have hnil := fun (w : World) (a : Option Addr) (l c : Nat) => Lib.run_eql_slice_nil (P := Trym.prog) w 24 3 a l c 0 0 Trym.underlying24
  obtain ⟨i0, hi, hz0, hz1, hz2⟩ := info_parts Trym.info3
  go_enter Trym.func14, Trym.ntmps14
  go_wp2_with (at_make; refine wpList_make_full _ rfl (.tmp 8) (.tmp 8) 24 rfl 0 3 i0 (.int .i64 0) 1 Trym.underlying24 hi hz0 hz1 _ _ _ _ 0 rfl rfl rfl rfl (by rw [hz2]; omega) (by unfold maxLen; omega) (Nat.zero_le _) ?_; intro w1 hown1 hg1)
  refine wp_loop_rounds 1 ?_
  rw [rounds_succ]
  go_wp2
  go_ret
  exact ⟨_, _, rfl, rfl, Or.inl rfl, (Below.refl _ _).grown hg1 (Nat.le_refl _) (fun j hj => by cases hj)⟩

theorem clone14_any (a : Option Addr) (len cap : Nat) (w : World) (hl : len ≤ 16384) (h : InV .i64 w a len cap) :
    Calls Trym.prog 14 #[.slice a len cap] w fun e w' => Copy .i64 a len w w' e := by
  rcases h with ⟨rfl, rfl, rfl⟩ | ⟨⟨x, rfl⟩, h2⟩
  · exact clone14_nil w
  · rcases h2 with rfl | ⟨b, off, h3, hb, hc⟩
    · exact clone14_empty x cap w
    · cases h3
      exact clone14_some b off len cap w hl hb hc

def SomeBool (e : Ending) : Prop := ∃ b : Bool, e = .returned (.bool b)

set_option maxHeartbeats 400000 in
theorem bytes12 (commit own : Int) (earlier ack : Bool) (ra ba ma oo : Option Addr) (rn rc bn bc mn mc on oc : Nat) (id : ByteArray) (w : World) :
    Calls Trym.prog 12 #[.int .i64 commit, .bool earlier, .bool ack, .slice ra rn rc, .slice ba bn bc, .slice ma mn mc, .string id, .int .i64 own, .slice oo on oc] w fun e w' => SomeBool e ∧ w' = w := by
  go_enter Trym.func12, Trym.ntmps12
  go_wp2
  all_goals
    go_ret
    exact ⟨⟨_, rfl⟩, rfl⟩

set_option maxHeartbeats 400000 in
theorem bytes19 (commit own : Int) (earlier ack : Bool) (ra ba ma oo : Option Addr) (rn rc bn bc mn mc on oc : Nat) (id : ByteArray) (w : World) :
    Calls Trym.prog 19 #[.int .i64 commit, .bool earlier, .bool ack, .slice ra rn rc, .slice ba bn bc, .slice ma mn mc, .string id, .int .i64 own, .slice oo on oc] w fun e w' => SomeBool e ∧ w' = w := by
  go_enter Trym.func19, Trym.ntmps19
  go_wp2
  all_goals
    go_ret
    exact ⟨⟨_, rfl⟩, rfl⟩

end Go.Proofs.Qxb6000448aMods
