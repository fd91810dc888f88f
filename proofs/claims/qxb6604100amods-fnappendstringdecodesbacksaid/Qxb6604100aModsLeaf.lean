/-
  THE WALKS, THE LEAVES: cloneBytes (9), equalBytes (12), zzBytes (8, 13, 22).
-/
import Derived.Test.Qxb6604100aModsOwn
import Derived.Deep.QuietTactic
import Derived.BigQuiet
namespace Go.Proofs.Qxb6604100aMods
open Go.RowKit
set_option linter.unusedVariables false

/-- a slice of the call's own came back, which owns the bytes xs -/
def Res (w0 : World) (row0 : Option Nat) (w' : World) (xs : List Int) (e : Ending) : Prop :=
  ∃ ao n c, e = .returned (.slice ao n c) ∧ Own w0 row0 w' (.slice ao n c) xs

theorem grown_of_below {w w' : World} (h : Below w.heap.size w w') : w.grownBy w' none := ⟨h.os, h.tape, h.output, h.size, fun i hi _ => h.block i hi⟩
theorem below_of_grown {w w' : World} (h : w.grownBy w' none) : Below w.heap.size w w' := ⟨h.os, h.tape, h.output, h.size, fun i hi => h.block i hi (by simp)⟩

theorem clone_nil (w : World) : Calls Trym.prog 9 #[.slice none 0 0] w fun e w' => Res w none w' [] e := by
  have hnil := fun (w : World) (a : Option Addr) (l c : Nat) => Lib.run_eql_slice_nil (P := Trym.prog) w 22 5 a l c 0 0 Trym.underlying22
  go_enter Trym.func9, Trym.ntmps9
  go_wp2
  go_ret
  exact ⟨none, 0, 0, rfl, World.ownsRow_nil _ _ _ _, World.grownBy.refl _ _, fun g hg => by cases hg⟩

set_option maxHeartbeats 400000 in
theorem clone_some (ad : Addr) (len cap : Nat) (xs : List Int) (w : World) (hl : len = xs.length) (hb : len ≤ 70000000000000) (hc : ∀ j u, (bys xs)[j]? = some u → w.cell? (ad.add j) = some u) :
    Calls Trym.prog 9 #[.slice (some ad) len cap] w fun e w' => Res w none w' xs e := by
  have hnil := fun (w : World) (a : Option Addr) (l c : Nat) => Lib.run_eql_slice_nil (P := Trym.prog) w 22 5 a l c 0 0 Trym.underlying22
  obtain ⟨i0, hi, hz0, hz1, hz2⟩ := info_parts Trym.info5
  have hsz : (Trym.prog.info? 5).map (·.size) = some 1 := by rw [hi]; simp [hz1]
  have HC : Hid (∀ j u, (bys xs)[j]? = some u → w.cell? (ad.add j) = some u) := hc
  have HL : Hid (len = xs.length) := hl
  clear hc hl
  go_enter Trym.func9, Trym.ntmps9
  go_wp2_with (at_make; refine wpList_make_full _ rfl _ _ 22 rfl 0 5 i0 (.int .u8 0) 1 Trym.underlying22 hi hz0 hz1 _ _ _ _ len rfl rfl rfl rfl ?b2 ?b3 (Nat.zero_le _) ?_)
  case b2 => rw [hz2]; omega
  case b3 => unfold maxLen; omega
  intro w1 hown1 hg1
  obtain ⟨cur, hcur, hcs⟩ : ∃ cur : List Value, w1.heap[w.heap.size]? = some (.cells cur.toArray 5 (0, 0)) ∧ cur.length = len := by
    rcases hown1.2 with ⟨h1, _⟩ | ⟨g, cp, cu, h1, _, h3, _, _, h6, _⟩
    · cases h1
    · cases h1
      exact ⟨cu.toList, h3, by simpa using h6⟩
  have hl := HL.out
  have hb1 : Below w.heap.size w w1 := below_of_grown hg1
  have HCU : Hid (cur.length = len) := hcs
  have HB1 : Hid (Below w.heap.size w w1) := hb1
  clear hcs hb1 hl hown1
  go_wp2_with (refine wpList_copy_splice rfl (.tmp 9) (.tmp 10) 22 22 rfl 5 Trym.underlying22 hsz _ _ len len len _ rfl rfl w.heap.size 0 cur 5 hcur (bys xs) ?d1 ?d2 ?d3 (bys_one xs) w.heap.size w HB1.out (Nat.le_refl _) ?_)
  case d1 => have := HL.out; simp; omega
  case d2 => intro _ j v hv; exact hg1.cell (HC.out j _ (by simp [bys, hv])) (by simp)
  case d3 => have := HCU.out; have := HL.out; simp; omega
  intro w2 hblk hb2
  go_wp2
  go_ret
  refine ⟨_, _, _, rfl, ⟨by simp, Or.inr ⟨w.heap.size, len, (splice cur 0 (bys xs)).toArray, ?_, Nat.zero_le _, hblk.out, ?_, ?_, ?_, ?_⟩⟩, grown_of_below hb2, fun g hg => by cases hg; exact Or.inl (Nat.le_refl _)⟩
  · rw [← HL.out]
  · have := HL.out; omega
  · unfold maxLen; omega
  · have h1 := HCU.out
    have h2 := HL.out
    simp [splice, h1]
    omega
  · have h1 := HCU.out
    have h2 := HL.out
    simp [splice]

theorem clone_any (ao : Option Addr) (len cap : Nat) (xs : List Int) (w : World) (hl : len = xs.length) (hb : len ≤ 70000000000000) (hr : RdV w ao cap xs) :
    Calls Trym.prog 9 #[.slice ao len cap] w fun e w' => Res w none w' xs e := by
  rcases hr with ⟨rfl, rfl, rfl⟩ | ⟨ad, rfl, hc⟩
  · subst hl
    exact clone_nil w
  · exact clone_some ad len cap xs w hl hb hc

/-- a bool came back, nothing has turned -/
def SomeBool (e : Ending) : Prop := ∃ b : Bool, e = .returned (.bool b)

set_option maxHeartbeats 400000 in
theorem bytes8 (a b : Option Addr) (la lb ca cb : Nat) (w : World) :
    Calls Trym.prog 8 #[.slice a la ca, .slice b lb cb] w fun e w' => SomeBool e ∧ w' = w := by
  go_enter Trym.func8, Trym.ntmps8
  go_wp2
  all_goals
    go_ret
    exact ⟨⟨_, rfl⟩, rfl⟩

set_option maxHeartbeats 400000 in
theorem bytes13 (a b : Option Addr) (la lb ca cb : Nat) (w : World) :
    Calls Trym.prog 13 #[.slice a la ca, .slice b lb cb] w fun e w' => SomeBool e ∧ w' = w := by
  go_enter Trym.func13, Trym.ntmps13
  go_wp2
  all_goals
    go_ret
    exact ⟨⟨_, rfl⟩, rfl⟩

set_option maxHeartbeats 400000 in
theorem bytes22 (a b : Option Addr) (la lb ca cb : Nat) (w : World) :
    Calls Trym.prog 22 #[.slice a la ca, .slice b lb cb] w fun e w' => SomeBool e ∧ w' = w := by
  go_enter Trym.func22, Trym.ntmps22
  go_wp2
  all_goals
    go_ret
    exact ⟨⟨_, rfl⟩, rfl⟩

/-! ### equalBytes, where the two read alike -/
set_option maxHeartbeats 400000 in
theorem equal_none (a b : Option Addr) (ca cb : Nat) (w : World) :
    Calls Trym.prog 12 #[.slice a 0 ca, .slice b 0 cb] w fun e w' => e = .returned (.bool true) ∧ w.grownBy w' none := by
  go_enter Trym.func12, Trym.ntmps12
  go_wp2
  refine wp_loop_rounds 1 ?_
  rw [rounds_succ]
  go_wp2
  go_ret
  exact ⟨rfl, World.grownBy.refl _ _⟩

set_option maxHeartbeats 800000 in
theorem equal_some (ba oa bb ob n ca cb : Nat) (xs : List Int) (w : World) (hn : n ≤ 9223372036854775807)
    (ha : ∀ j, j < n → w.cell? ⟨ba, oa + j, none⟩ = some (.int .u8 (xs.getD j 0))) (hb : ∀ j, j < n → w.cell? ⟨bb, ob + j, none⟩ = some (.int .u8 (xs.getD j 0))) :
    Calls Trym.prog 12 #[.slice (some ⟨ba, oa, none⟩) n ca, .slice (some ⟨bb, ob, none⟩) n cb] w fun e w' => e = .returned (.bool true) ∧ w.grownBy w' none := by
  have HAB : Hid ((∀ j, j < n → w.cell? ⟨ba, oa + j, none⟩ = some (.int .u8 (xs.getD j 0))) ∧ ∀ j, j < n → w.cell? ⟨bb, ob + j, none⟩ = some (.int .u8 (xs.getD j 0))) := ⟨ha, hb⟩
  clear ha hb
  go_enter Trym.func12, Trym.ntmps12
  go_wp2
  go_loopw [5] (fun i wr => ∃ k : Nat, k ≤ n ∧ i = .int .i64 k ∧ wr.heap = w.heap ∧ w.grownBy wr none) (fun i _ => n - (intOf i).toNat)
  case atStart => exact ⟨0, Nat.zero_le _, rfl, rfl, World.grownBy.refl _ _⟩
  case round =>
    obtain ⟨k, hk, rfl, hh, hg⟩ := hrel
    by_cases hlt : k < n
    · obtain ⟨x, hx⟩ : ∃ x, x = xs.getD k 0 := ⟨_, rfl⟩
      have c1 : wr.cell? ⟨ba, oa + k, none⟩ = some (.int .u8 x) := by rw [hx, ← HAB.out.1 k hlt]; simp [World.cell?, hh]
      have c2 : wr.cell? ⟨bb, ob + k, none⟩ = some (.int .u8 x) := by rw [hx, ← HAB.out.2 k hlt]; simp [World.cell?, hh]
      have HH : Hid (wr.heap = w.heap) := hh
      clear hx hh
      have hk0 : (0 : Int) ≤ (k : Int) := by omega
      have hk1 : (k : Int) < (n : Int) := by omega
      go_wp2
      go_region
      all_goals
        go_wp2
        go_roundw
        case rel => exact ⟨k + 1, by omega, by go_num, HH.out, hg.trans (grown_drew _ _)⟩
        case measure => simp [intOf]; omega
    · go_wp2
      go_ret
      exact ⟨rfl, hg⟩

theorem add_at (b off j : Nat) : (⟨b, off, none⟩ : Addr).add j = ⟨b, off + j, none⟩ := by unfold Addr.add; split <;> simp_all

/-- where a slice that reads something lies -/
theorem RdV.at_ {w : World} {ao : Option Addr} {c : Nat} {xs : List Int} (h : RdV w ao c xs) (h0 : 0 < xs.length) : ∃ b off, ao = some ⟨b, off, none⟩ ∧ ∀ j, j < xs.length → w.cell? ⟨b, off + j, none⟩ = some (.int .u8 (xs.getD j 0)) := by
  rcases h with ⟨_, rfl, _⟩ | ⟨ad, rfl, hc⟩
  · cases h0
  · have hc' : ∀ j, j < xs.length → w.cell? (ad.add j) = some (.int .u8 (xs.getD j 0)) := fun j hj => hc j _ (by simp [hj])
    obtain ⟨b, off, spot⟩ := ad
    have hspot : spot = none := by simpa [Addr.add] using World.cell?_spot (hc' 0 h0)
    subst hspot
    exact ⟨b, off, rfl, fun j hj => by rw [← add_at b off j]; exact hc' j hj⟩

theorem equal_any (ao bo : Option Addr) (na nb ca cb : Nat) (xs : List Int) (w : World) (hn : xs.length ≤ 9223372036854775807) (ea : na = xs.length) (eb : nb = xs.length) (ha : RdV w ao ca xs) (hb : RdV w bo cb xs) :
    Calls Trym.prog 12 #[.slice ao na ca, .slice bo nb cb] w fun e w' => e = .returned (.bool true) ∧ w.grownBy w' none := by
  subst ea eb
  by_cases h0 : 0 < xs.length
  · obtain ⟨b1, o1, rfl, c1⟩ := ha.at_ h0
    obtain ⟨b2, o2, rfl, c2⟩ := hb.at_ h0
    exact equal_some b1 o1 b2 o2 xs.length ca cb xs w hn c1 c2
  · have e : xs.length = 0 := by omega
    rw [e]
    exact equal_none ao bo ca cb w

end Go.Proofs.Qxb6604100aMods
