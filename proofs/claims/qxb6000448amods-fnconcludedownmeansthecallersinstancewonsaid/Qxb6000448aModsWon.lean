/-
  THE WALK OF THE LAW (6), case by case.
-/
import Derived.Test.Qxb6000448aModsClone
import Derived.Test.Qxb6000448aModsSame
import Derived.Deep.RegionWith
namespace Go.Proofs.Qxb6000448aMods
open Go.RowKit
set_option linter.unusedVariables false

theorem mine_as {commit own : Int} {oo oo1 : Option Addr} (h : oo1.isNone = oo.isNone) : mineB commit own oo1 = mineB commit own oo := by unfold mineB; rw [h]

set_option maxRecDepth 100000 in
set_option maxHeartbeats 1600000 in
theorem won_earlier_a (own : Int) (ack : Bool) (ra ba ma oo : Option Addr) (rn rc bn bc mn mc on oc : Nat) (id : ByteArray) (w : World)
    (hr : InV .u8 w ra rn rc) (hba : InV .i64 w ba bn bc) (hma : InV .i64 w ma mn mc) (hoo : InV .u8 w oo on oc)
    (l1 : rn ≤ 131072) (l2 : bn ≤ 16384) (l3 : mn ≤ 16384) (l4 : id.size ≤ 131072) (l5 : on ≤ 131072) :
    Calls Trym.prog 6 #[.int .i64 0, .bool true, .bool ack, .slice ra rn rc, .slice ba bn bc, .slice ma mn mc, .string id, .int .i64 own, .slice oo on oc] w
      fun e w' => e = .returned (.bool true) ∧ Below w.heap.size w w' := by
  have hne := fun (w : World) (a : Option Addr) (n c : Nat) => run_neq_slice_nil_any (P := Trym.prog) w 23 5 a n c 0 0 Trym.underlying23
  have heq := fun (w : World) (a : Option Addr) (l c : Nat) => Lib.run_eql_slice_nil (P := Trym.prog) w 23 5 a l c 0 0 Trym.underlying23
  have t1 : decide ((131072 : Int) < (rn : Int)) = false := by simp; omega
  have t2 : decide ((16384 : Int) < (bn : Int)) = false := by simp; omega
  have t3 : decide ((16384 : Int) < (mn : Int)) = false := by simp; omega
  have t4 : decide ((131072 : Int) < (id.size : Int)) = false := by simp; omega
  have t5 : decide ((131072 : Int) < (on : Int)) = false := by simp; omega
  have HM : Hid (mineB 0 own oo = false) := by simp [Hid, mineB]
  go_enter Trym.func6, Trym.ntmps6
  go_wp2_with (go_at_call 19; refine (bytes19 _ _ _ _ _ _ _ _ _ _ _ _ _ _ _ _ _ w).mono ?_; rintro e w' ⟨⟨b1, rfl⟩, hw⟩; subst w'; cases b1)
  · go_ret
    exact ⟨rfl, Below.refl _ _⟩
  · go_wp2_with (first
      | (go_at_call_of 13 (Value.slice ra rn rc); refine (clone13_any ra rn rc w (by omega) hr).mono ?_; rintro e w1 ⟨ra1, rc1, rfl, hrn1, hr1, hb1⟩; have HR1 : Hid (ra1.isNone = ra.isNone) := hrn1; clear hrn1)
      | (go_at_call_of 14 (Value.slice ba bn bc); refine (clone14_any ba bn bc w1 (by omega) (hba.below hb1)).mono ?_; rintro e w2 ⟨ba1, bc1, rfl, hbn1, hbl1, hb2⟩; have hb12 := hb1.trans (hb2.mono hb1.size); clear hbn1)
      | (go_at_call_of 14 (Value.slice ma mn mc); refine (clone14_any ma mn mc w2 (by omega) (hma.below hb12)).mono ?_; rintro e w3 ⟨ma1, mc1, rfl, hmn1, hml1, hb3⟩; have hb13 := hb12.trans (hb3.mono hb12.size); clear hmn1)
      | (go_at_call_of 13 (Value.slice oo on oc); refine (clone13_any oo on oc w3 (by omega) (hoo.below hb13)).mono ?_; rintro e w4 ⟨oo1, oc1, rfl, hon1, ho1, hb4⟩; have HO1 : Hid (oo1.isNone = oo.isNone) := hon1; clear hon1; have hb14 := hb13.trans (hb4.mono hb13.size))
      | (go_at_call 15; refine (zz_of 0 own true ack ra1 ba1 ma1 oo1 rn rc1 bn bc1 mn mc1 on oc1 id true ack false true ra1 rn rc1 w4 (fun w => by have h := conc_earlier 0 own ack ra1 ba1 ma1 oo1 rn rc1 bn bc1 mn mc1 on oc1 id w; rw [mine_as HO1.out, HM.out] at h; exact h)).mono ?_; rintro e w5 ⟨rfl, hb5⟩))
    go_ret
    exact ⟨rfl, hb14.trans (hb5.mono hb14.size)⟩

set_option maxRecDepth 100000 in
set_option maxHeartbeats 1600000 in
theorem won_earlier_b (commit own : Int) (ack : Bool) (ra ba ma oo : Option Addr) (rn rc bn bc mn mc on oc : Nat) (id : ByteArray) (w : World)
    (hr : InV .u8 w ra rn rc) (hba : InV .i64 w ba bn bc) (hma : InV .i64 w ma mn mc) (hoo : InV .u8 w oo on oc)
    (l1 : rn ≤ 131072) (l2 : bn ≤ 16384) (l3 : mn ≤ 16384) (l4 : id.size ≤ 131072) (l5 : on ≤ 131072) (h0 : commit ≠ 0) (h1 : commit ≠ own) :
    Calls Trym.prog 6 #[.int .i64 commit, .bool true, .bool ack, .slice ra rn rc, .slice ba bn bc, .slice ma mn mc, .string id, .int .i64 own, .slice oo on oc] w
      fun e w' => e = .returned (.bool true) ∧ Below w.heap.size w w' := by
  have hne := fun (w : World) (a : Option Addr) (n c : Nat) => run_neq_slice_nil_any (P := Trym.prog) w 23 5 a n c 0 0 Trym.underlying23
  have heq := fun (w : World) (a : Option Addr) (l c : Nat) => Lib.run_eql_slice_nil (P := Trym.prog) w 23 5 a l c 0 0 Trym.underlying23
  have t1 : decide ((131072 : Int) < (rn : Int)) = false := by simp; omega
  have t2 : decide ((16384 : Int) < (bn : Int)) = false := by simp; omega
  have t3 : decide ((16384 : Int) < (mn : Int)) = false := by simp; omega
  have t4 : decide ((131072 : Int) < (id.size : Int)) = false := by simp; omega
  have t5 : decide ((131072 : Int) < (on : Int)) = false := by simp; omega
  have HM : Hid (mineB commit own oo = false) := by simp [Hid, mineB, h1]
  have q0 : (commit != 0) = true := by simpa using h0
  have q0' : (commit == 0) = false := by simpa using h0
  have q1 : (commit == own) = false := by simpa using h1
  have q1' : (commit != own) = true := by simpa using h1
  clear h0 h1
  go_enter Trym.func6, Trym.ntmps6
  go_wp2_with (go_at_call 19; refine (bytes19 _ _ _ _ _ _ _ _ _ _ _ _ _ _ _ _ _ w).mono ?_; rintro e w' ⟨⟨b1, rfl⟩, hw⟩; subst w'; cases b1)
  · go_ret
    exact ⟨rfl, Below.refl _ _⟩
  · go_wp2_with (first
      | (go_at_call_of 13 (Value.slice ra rn rc); refine (clone13_any ra rn rc w (by omega) hr).mono ?_; rintro e w1 ⟨ra1, rc1, rfl, hrn1, hr1, hb1⟩; have HR1 : Hid (ra1.isNone = ra.isNone) := hrn1; clear hrn1)
      | (go_at_call_of 14 (Value.slice ba bn bc); refine (clone14_any ba bn bc w1 (by omega) (hba.below hb1)).mono ?_; rintro e w2 ⟨ba1, bc1, rfl, hbn1, hbl1, hb2⟩; have hb12 := hb1.trans (hb2.mono hb1.size); clear hbn1)
      | (go_at_call_of 14 (Value.slice ma mn mc); refine (clone14_any ma mn mc w2 (by omega) (hma.below hb12)).mono ?_; rintro e w3 ⟨ma1, mc1, rfl, hmn1, hml1, hb3⟩; have hb13 := hb12.trans (hb3.mono hb12.size); clear hmn1)
      | (go_at_call_of 13 (Value.slice oo on oc); refine (clone13_any oo on oc w3 (by omega) (hoo.below hb13)).mono ?_; rintro e w4 ⟨oo1, oc1, rfl, hon1, ho1, hb4⟩; have HO1 : Hid (oo1.isNone = oo.isNone) := hon1; clear hon1; have hb14 := hb13.trans (hb4.mono hb13.size))
      | (go_at_call 15; refine (zz_of commit own true ack ra1 ba1 ma1 oo1 rn rc1 bn bc1 mn mc1 on oc1 id true ack false true ra1 rn rc1 w4 (fun w => by have h := conc_earlier commit own ack ra1 ba1 ma1 oo1 rn rc1 bn bc1 mn mc1 on oc1 id w; rw [mine_as HO1.out, HM.out] at h; exact h)).mono ?_; rintro e w5 ⟨rfl, hb5⟩))
    go_ret
    exact ⟨rfl, hb14.trans (hb5.mono hb14.size)⟩

set_option maxRecDepth 100000 in
set_option maxHeartbeats 1600000 in
theorem won_earlier_c (own : Int) (ack : Bool) (ra ba ma oo : Option Addr) (rn rc bn bc mn mc on oc : Nat) (id : ByteArray) (w : World)
    (hr : InV .u8 w ra rn rc) (hba : InV .i64 w ba bn bc) (hma : InV .i64 w ma mn mc) (hoo : InV .u8 w oo on oc)
    (l1 : rn ≤ 131072) (l2 : bn ≤ 16384) (l3 : mn ≤ 16384) (l4 : id.size ≤ 131072) (l5 : on ≤ 131072) (h0 : own ≠ 0) (hn : oo.isNone = true) :
    Calls Trym.prog 6 #[.int .i64 own, .bool true, .bool ack, .slice ra rn rc, .slice ba bn bc, .slice ma mn mc, .string id, .int .i64 own, .slice oo on oc] w
      fun e w' => e = .returned (.bool true) ∧ Below w.heap.size w w' := by
  have hne := fun (w : World) (a : Option Addr) (n c : Nat) => run_neq_slice_nil_any (P := Trym.prog) w 23 5 a n c 0 0 Trym.underlying23
  have heq := fun (w : World) (a : Option Addr) (l c : Nat) => Lib.run_eql_slice_nil (P := Trym.prog) w 23 5 a l c 0 0 Trym.underlying23
  have t1 : decide ((131072 : Int) < (rn : Int)) = false := by simp; omega
  have t2 : decide ((16384 : Int) < (bn : Int)) = false := by simp; omega
  have t3 : decide ((16384 : Int) < (mn : Int)) = false := by simp; omega
  have t4 : decide ((131072 : Int) < (id.size : Int)) = false := by simp; omega
  have t5 : decide ((131072 : Int) < (on : Int)) = false := by simp; omega
  have HM : Hid (mineB own own oo = false) := by simp [Hid, mineB, hn]
  have HOO : Hid (oo.isNone = true) := hn
  have q0 : (own != 0) = true := by simpa using h0
  have q0' : (own == 0) = false := by simpa using h0
  clear h0 hn
  go_enter Trym.func6, Trym.ntmps6
  go_wp2_with (go_at_call 19; refine (bytes19 _ _ _ _ _ _ _ _ _ _ _ _ _ _ _ _ _ w).mono ?_; rintro e w' ⟨⟨b1, rfl⟩, hw⟩; subst w'; cases b1)
  · go_ret
    exact ⟨rfl, Below.refl _ _⟩
  · go_wp2_with (first
      | (go_at_call_of 13 (Value.slice ra rn rc); refine (clone13_any ra rn rc w (by omega) hr).mono ?_; rintro e w1 ⟨ra1, rc1, rfl, hrn1, hr1, hb1⟩; have HR1 : Hid (ra1.isNone = ra.isNone) := hrn1; clear hrn1)
      | (go_at_call_of 14 (Value.slice ba bn bc); refine (clone14_any ba bn bc w1 (by omega) (hba.below hb1)).mono ?_; rintro e w2 ⟨ba1, bc1, rfl, hbn1, hbl1, hb2⟩; have hb12 := hb1.trans (hb2.mono hb1.size); clear hbn1)
      | (go_at_call_of 14 (Value.slice ma mn mc); refine (clone14_any ma mn mc w2 (by omega) (hma.below hb12)).mono ?_; rintro e w3 ⟨ma1, mc1, rfl, hmn1, hml1, hb3⟩; have hb13 := hb12.trans (hb3.mono hb12.size); clear hmn1)
      | (go_at_call_of 13 (Value.slice oo on oc); refine (clone13_any oo on oc w3 (by omega) (hoo.below hb13)).mono ?_; rintro e w4 ⟨oo1, oc1, rfl, hon1, ho1, hb4⟩; have HO1 : Hid (oo1.isNone = oo.isNone) := hon1; have hq : oo1.isNone = true := hon1.trans HOO.out; clear hon1; have hb14 := hb13.trans (hb4.mono hb13.size))
      | (go_at_call 15; refine (zz_of own own true ack ra1 ba1 ma1 oo1 rn rc1 bn bc1 mn mc1 on oc1 id true ack false true ra1 rn rc1 w4 (fun w => by have h := conc_earlier own own ack ra1 ba1 ma1 oo1 rn rc1 bn bc1 mn mc1 on oc1 id w; rw [mine_as HO1.out, HM.out] at h; exact h)).mono ?_; rintro e w5 ⟨rfl, hb5⟩))
    go_ret
    exact ⟨rfl, hb14.trans (hb5.mono hb14.size)⟩

set_option maxRecDepth 100000 in
set_option maxHeartbeats 1600000 in
theorem won_earlier_d (own : Int) (ack : Bool) (ra ba ma oo : Option Addr) (rn rc bn bc mn mc on oc : Nat) (id : ByteArray) (w : World)
    (hr : InV .u8 w ra rn rc) (hba : InV .i64 w ba bn bc) (hma : InV .i64 w ma mn mc) (hoo : InV .u8 w oo on oc)
    (l1 : rn ≤ 131072) (l2 : bn ≤ 16384) (l3 : mn ≤ 16384) (l4 : id.size ≤ 131072) (l5 : on ≤ 131072) (h0 : own ≠ 0) (hn : oo.isNone = false) :
    Calls Trym.prog 6 #[.int .i64 own, .bool true, .bool ack, .slice ra rn rc, .slice ba bn bc, .slice ma mn mc, .string id, .int .i64 own, .slice oo on oc] w
      fun e w' => e = .returned (.bool true) ∧ Below w.heap.size w w' := by
  have hne := fun (w : World) (a : Option Addr) (n c : Nat) => run_neq_slice_nil_any (P := Trym.prog) w 23 5 a n c 0 0 Trym.underlying23
  have heq := fun (w : World) (a : Option Addr) (l c : Nat) => Lib.run_eql_slice_nil (P := Trym.prog) w 23 5 a l c 0 0 Trym.underlying23
  have t1 : decide ((131072 : Int) < (rn : Int)) = false := by simp; omega
  have t2 : decide ((16384 : Int) < (bn : Int)) = false := by simp; omega
  have t3 : decide ((16384 : Int) < (mn : Int)) = false := by simp; omega
  have t4 : decide ((131072 : Int) < (id.size : Int)) = false := by simp; omega
  have t5 : decide ((131072 : Int) < (on : Int)) = false := by simp; omega
  have HM : Hid (mineB own own oo = true) := by simp [Hid, mineB, hn, h0]
  have HOO : Hid (oo.isNone = false) := hn
  have q0 : (own != 0) = true := by simpa using h0
  have q0' : (own == 0) = false := by simpa using h0
  clear h0 hn
  go_enter Trym.func6, Trym.ntmps6
  go_wp2_with (go_at_call 19; refine (bytes19 _ _ _ _ _ _ _ _ _ _ _ _ _ _ _ _ _ w).mono ?_; rintro e w' ⟨⟨b1, rfl⟩, hw⟩; subst w'; cases b1)
  · go_ret
    exact ⟨rfl, Below.refl _ _⟩
  · go_wp2_with (first
      | (go_at_call_of 13 (Value.slice ra rn rc); refine (clone13_any ra rn rc w (by omega) hr).mono ?_; rintro e w1 ⟨ra1, rc1, rfl, hrn1, hr1, hb1⟩; have HR1 : Hid (ra1.isNone = ra.isNone) := hrn1; clear hrn1)
      | (go_at_call_of 14 (Value.slice ba bn bc); refine (clone14_any ba bn bc w1 (by omega) (hba.below hb1)).mono ?_; rintro e w2 ⟨ba1, bc1, rfl, hbn1, hbl1, hb2⟩; have hb12 := hb1.trans (hb2.mono hb1.size); clear hbn1)
      | (go_at_call_of 14 (Value.slice ma mn mc); refine (clone14_any ma mn mc w2 (by omega) (hma.below hb12)).mono ?_; rintro e w3 ⟨ma1, mc1, rfl, hmn1, hml1, hb3⟩; have hb13 := hb12.trans (hb3.mono hb12.size); clear hmn1)
      | (go_at_call_of 13 (Value.slice oo on oc); refine (clone13_any oo on oc w3 (by omega) (hoo.below hb13)).mono ?_; rintro e w4 ⟨oo1, oc1, rfl, hon1, ho1, hb4⟩; have HO1 : Hid (oo1.isNone = oo.isNone) := hon1; have hq : oo1.isNone = false := hon1.trans HOO.out; clear hon1; have hb14 := hb13.trans (hb4.mono hb13.size))
      | (go_at_call 15; refine (zz_of own own true ack ra1 ba1 ma1 oo1 rn rc1 bn bc1 mn mc1 on oc1 id true ack true true ra1 rn rc1 w4 (fun w => by have h := conc_earlier own own ack ra1 ba1 ma1 oo1 rn rc1 bn bc1 mn mc1 on oc1 id w; rw [mine_as HO1.out, HM.out] at h; exact h)).mono ?_; rintro e w5 ⟨rfl, hb5⟩))
    go_ret
    exact ⟨rfl, hb14.trans (hb5.mono hb14.size)⟩

set_option maxRecDepth 100000 in
set_option maxHeartbeats 1600000 in
theorem won_mine (own : Int) (ack : Bool) (ra ba ma oo : Option Addr) (rn rc bn bc mn mc on oc : Nat) (id : ByteArray) (w : World)
    (hr : InV .u8 w ra rn rc) (hba : InV .i64 w ba bn bc) (hma : InV .i64 w ma mn mc) (hoo : InV .u8 w oo on oc)
    (l1 : rn ≤ 131072) (l2 : bn ≤ 16384) (l3 : mn ≤ 16384) (l4 : id.size ≤ 131072) (l5 : on ≤ 131072) (h0 : own ≠ 0) (hn : oo.isNone = false) :
    Calls Trym.prog 6 #[.int .i64 own, .bool false, .bool ack, .slice ra rn rc, .slice ba bn bc, .slice ma mn mc, .string id, .int .i64 own, .slice oo on oc] w
      fun e w' => e = .returned (.bool true) ∧ Below w.heap.size w w' := by
  have hne := fun (w : World) (a : Option Addr) (n c : Nat) => run_neq_slice_nil_any (P := Trym.prog) w 23 5 a n c 0 0 Trym.underlying23
  have heq := fun (w : World) (a : Option Addr) (l c : Nat) => Lib.run_eql_slice_nil (P := Trym.prog) w 23 5 a l c 0 0 Trym.underlying23
  have t1 : decide ((131072 : Int) < (rn : Int)) = false := by simp; omega
  have t2 : decide ((16384 : Int) < (bn : Int)) = false := by simp; omega
  have t3 : decide ((16384 : Int) < (mn : Int)) = false := by simp; omega
  have t4 : decide ((131072 : Int) < (id.size : Int)) = false := by simp; omega
  have t5 : decide ((131072 : Int) < (on : Int)) = false := by simp; omega
  have HM : Hid (mineB own own oo = true) := by simp [Hid, mineB, hn, h0]
  have HOO : Hid (oo.isNone = false) := hn
  have q0 : (own != 0) = true := by simpa using h0
  have q0' : (own == 0) = false := by simpa using h0
  clear h0 hn
  go_enter Trym.func6, Trym.ntmps6
  go_wp2_with (go_at_call 19; refine (bytes19 _ _ _ _ _ _ _ _ _ _ _ _ _ _ _ _ _ w).mono ?_; rintro e w' ⟨⟨b1, rfl⟩, hw⟩; subst w'; cases b1)
  · go_ret
    exact ⟨rfl, Below.refl _ _⟩
  · go_wp2_with (first
      | (go_at_call_of 13 (Value.slice ra rn rc); refine (clone13_any ra rn rc w (by omega) hr).mono ?_; rintro e w1 ⟨ra1, rc1, rfl, hrn1, hr1, hb1⟩; have HR1 : Hid (ra1.isNone = ra.isNone) := hrn1; clear hrn1)
      | (go_at_call_of 14 (Value.slice ba bn bc); refine (clone14_any ba bn bc w1 (by omega) (hba.below hb1)).mono ?_; rintro e w2 ⟨ba1, bc1, rfl, hbn1, hbl1, hb2⟩; have hb12 := hb1.trans (hb2.mono hb1.size); clear hbn1)
      | (go_at_call_of 14 (Value.slice ma mn mc); refine (clone14_any ma mn mc w2 (by omega) (hma.below hb12)).mono ?_; rintro e w3 ⟨ma1, mc1, rfl, hmn1, hml1, hb3⟩; have hb13 := hb12.trans (hb3.mono hb12.size); clear hmn1)
      | (go_at_call_of 13 (Value.slice oo on oc); refine (clone13_any oo on oc w3 (by omega) (hoo.below hb13)).mono ?_; rintro e w4 ⟨oo1, oc1, rfl, hon1, ho1, hb4⟩; have HO1 : Hid (oo1.isNone = oo.isNone) := hon1; have hq : oo1.isNone = false := hon1.trans HOO.out; clear hon1; have hb14 := hb13.trans (hb4.mono hb13.size))
      | (go_at_call 15; refine (zz_of own own false ack ra1 ba1 ma1 oo1 rn rc1 bn bc1 mn mc1 on oc1 id true false true true oo1 on oc1 w4 (fun w => conc_mine own own ack ra1 ba1 ma1 oo1 rn rc1 bn bc1 mn mc1 on oc1 id w (by rw [mine_as HO1.out]; exact HM.out))).mono ?_; rintro e w5 ⟨rfl, hb5⟩)
      | (go_at_call 17; refine (same_any oo1 on oc1 w5 (by omega) (ho1.below hb5)).mono ?_; rintro e w6 ⟨rfl, hb6⟩))
    go_ret
    exact ⟨rfl, (hb14.trans (hb5.mono hb14.size)).trans (hb6.mono (Nat.le_trans hb14.size hb5.size))⟩

set_option maxRecDepth 100000 in
set_option maxHeartbeats 1600000 in
theorem won_nothing (own : Int) (ack : Bool) (ra ba ma oo : Option Addr) (rn rc bn bc mn mc on oc : Nat) (id : ByteArray) (w : World)
    (hr : InV .u8 w ra rn rc) (hba : InV .i64 w ba bn bc) (hma : InV .i64 w ma mn mc) (hoo : InV .u8 w oo on oc)
    (l1 : rn ≤ 131072) (l2 : bn ≤ 16384) (l3 : mn ≤ 16384) (l4 : id.size ≤ 131072) (l5 : on ≤ 131072) (hn : mn = 0) :
    Calls Trym.prog 6 #[.int .i64 0, .bool false, .bool ack, .slice ra rn rc, .slice ba bn bc, .slice ma mn mc, .string id, .int .i64 own, .slice oo on oc] w
      fun e w' => e = .returned (.bool true) ∧ Below w.heap.size w w' := by
  have hne := fun (w : World) (a : Option Addr) (n c : Nat) => run_neq_slice_nil_any (P := Trym.prog) w 23 5 a n c 0 0 Trym.underlying23
  have heq := fun (w : World) (a : Option Addr) (l c : Nat) => Lib.run_eql_slice_nil (P := Trym.prog) w 23 5 a l c 0 0 Trym.underlying23
  have t1 : decide ((131072 : Int) < (rn : Int)) = false := by simp; omega
  have t2 : decide ((16384 : Int) < (bn : Int)) = false := by simp; omega
  have t3 : decide ((16384 : Int) < (mn : Int)) = false := by simp; omega
  have t4 : decide ((131072 : Int) < (id.size : Int)) = false := by simp; omega
  have t5 : decide ((131072 : Int) < (on : Int)) = false := by simp; omega
  have HN : Hid (mn = 0) := hn
  clear hn
  go_enter Trym.func6, Trym.ntmps6
  go_wp2_with (go_at_call 19; refine (bytes19 _ _ _ _ _ _ _ _ _ _ _ _ _ _ _ _ _ w).mono ?_; rintro e w' ⟨⟨b1, rfl⟩, hw⟩; subst w'; cases b1)
  · go_ret
    exact ⟨rfl, Below.refl _ _⟩
  · go_wp2_with (first
      | (go_at_call_of 13 (Value.slice ra rn rc); refine (clone13_any ra rn rc w (by omega) hr).mono ?_; rintro e w1 ⟨ra1, rc1, rfl, hrn1, hr1, hb1⟩; have HR1 : Hid (ra1.isNone = ra.isNone) := hrn1; clear hrn1)
      | (go_at_call_of 14 (Value.slice ba bn bc); refine (clone14_any ba bn bc w1 (by omega) (hba.below hb1)).mono ?_; rintro e w2 ⟨ba1, bc1, rfl, hbn1, hbl1, hb2⟩; have hb12 := hb1.trans (hb2.mono hb1.size); clear hbn1)
      | (go_at_call_of 14 (Value.slice ma mn mc); refine (clone14_any ma mn mc w2 (by omega) (hma.below hb12)).mono ?_; rintro e w3 ⟨ma1, mc1, rfl, hmn1, hml1, hb3⟩; have hb13 := hb12.trans (hb3.mono hb12.size); clear hmn1)
      | (go_at_call_of 13 (Value.slice oo on oc); refine (clone13_any oo on oc w3 (by omega) (hoo.below hb13)).mono ?_; rintro e w4 ⟨oo1, oc1, rfl, hon1, ho1, hb4⟩; have HO1 : Hid (oo1.isNone = oo.isNone) := hon1; clear hon1; have hb14 := hb13.trans (hb4.mono hb13.size))
      | (go_at_call 15; refine (zz_of 0 own false ack ra1 ba1 ma1 oo1 rn rc1 bn bc1 mn mc1 on oc1 id false false false true none 0 0 w4 (fun w => conc_nothing own ack ra1 ba1 ma1 oo1 rn rc1 bn bc1 mn mc1 on oc1 id w HN.out)).mono ?_; rintro e w5 ⟨rfl, hb5⟩))
    go_ret
    exact ⟨rfl, hb14.trans (hb5.mono hb14.size)⟩

set_option maxRecDepth 100000 in
set_option maxHeartbeats 1600000 in
theorem won_again_a (own : Int) (ack : Bool) (ra ba ma oo : Option Addr) (rn rc bn bc mn mc on oc : Nat) (id : ByteArray) (w : World)
    (hr : InV .u8 w ra rn rc) (hba : InV .i64 w ba bn bc) (hma : InV .i64 w ma mn mc) (hoo : InV .u8 w oo on oc)
    (l1 : rn ≤ 131072) (l2 : bn ≤ 16384) (l3 : mn ≤ 16384) (l4 : id.size ≤ 131072) (l5 : on ≤ 131072) (hn : mn ≠ 0) :
    Calls Trym.prog 6 #[.int .i64 0, .bool false, .bool ack, .slice ra rn rc, .slice ba bn bc, .slice ma mn mc, .string id, .int .i64 own, .slice oo on oc] w
      fun e w' => e = .returned (.bool true) ∧ Below w.heap.size w w' := by
  have hne := fun (w : World) (a : Option Addr) (n c : Nat) => run_neq_slice_nil_any (P := Trym.prog) w 23 5 a n c 0 0 Trym.underlying23
  have heq := fun (w : World) (a : Option Addr) (l c : Nat) => Lib.run_eql_slice_nil (P := Trym.prog) w 23 5 a l c 0 0 Trym.underlying23
  have t1 : decide ((131072 : Int) < (rn : Int)) = false := by simp; omega
  have t2 : decide ((16384 : Int) < (bn : Int)) = false := by simp; omega
  have t3 : decide ((16384 : Int) < (mn : Int)) = false := by simp; omega
  have t4 : decide ((131072 : Int) < (id.size : Int)) = false := by simp; omega
  have t5 : decide ((131072 : Int) < (on : Int)) = false := by simp; omega
  have HM : Hid (mineB 0 own oo = false) := by simp [Hid, mineB]
  have HN : Hid (mn ≠ 0) := hn
  clear hn
  go_enter Trym.func6, Trym.ntmps6
  go_wp2_with (go_at_call 19; refine (bytes19 _ _ _ _ _ _ _ _ _ _ _ _ _ _ _ _ _ w).mono ?_; rintro e w' ⟨⟨b1, rfl⟩, hw⟩; subst w'; cases b1)
  · go_ret
    exact ⟨rfl, Below.refl _ _⟩
  · go_wp2_with (first
      | (go_at_call_of 13 (Value.slice ra rn rc); refine (clone13_any ra rn rc w (by omega) hr).mono ?_; rintro e w1 ⟨ra1, rc1, rfl, hrn1, hr1, hb1⟩; have HR1 : Hid (ra1.isNone = ra.isNone) := hrn1; clear hrn1)
      | (go_at_call_of 14 (Value.slice ba bn bc); refine (clone14_any ba bn bc w1 (by omega) (hba.below hb1)).mono ?_; rintro e w2 ⟨ba1, bc1, rfl, hbn1, hbl1, hb2⟩; have hb12 := hb1.trans (hb2.mono hb1.size); clear hbn1)
      | (go_at_call_of 14 (Value.slice ma mn mc); refine (clone14_any ma mn mc w2 (by omega) (hma.below hb12)).mono ?_; rintro e w3 ⟨ma1, mc1, rfl, hmn1, hml1, hb3⟩; have hb13 := hb12.trans (hb3.mono hb12.size); clear hmn1)
      | (go_at_call_of 13 (Value.slice oo on oc); refine (clone13_any oo on oc w3 (by omega) (hoo.below hb13)).mono ?_; rintro e w4 ⟨oo1, oc1, rfl, hon1, ho1, hb4⟩; have HO1 : Hid (oo1.isNone = oo.isNone) := hon1; clear hon1; have hb14 := hb13.trans (hb4.mono hb13.size))
      | (go_at_call 15; refine (zz_of 0 own false ack ra1 ba1 ma1 oo1 rn rc1 bn bc1 mn mc1 on oc1 id false false false false none 0 0 w4 (fun w => conc_again 0 own ack ra1 ba1 ma1 oo1 rn rc1 bn bc1 mn mc1 on oc1 id w (by rw [mine_as HO1.out]; exact HM.out) (fun h => HN.out h.2))).mono ?_; rintro e w5 ⟨rfl, hb5⟩))
    go_ret
    exact ⟨rfl, hb14.trans (hb5.mono hb14.size)⟩

set_option maxRecDepth 100000 in
set_option maxHeartbeats 1600000 in
theorem won_again_b (commit own : Int) (ack : Bool) (ra ba ma oo : Option Addr) (rn rc bn bc mn mc on oc : Nat) (id : ByteArray) (w : World)
    (hr : InV .u8 w ra rn rc) (hba : InV .i64 w ba bn bc) (hma : InV .i64 w ma mn mc) (hoo : InV .u8 w oo on oc)
    (l1 : rn ≤ 131072) (l2 : bn ≤ 16384) (l3 : mn ≤ 16384) (l4 : id.size ≤ 131072) (l5 : on ≤ 131072) (h0 : commit ≠ 0) (h1 : commit ≠ own) :
    Calls Trym.prog 6 #[.int .i64 commit, .bool false, .bool ack, .slice ra rn rc, .slice ba bn bc, .slice ma mn mc, .string id, .int .i64 own, .slice oo on oc] w
      fun e w' => e = .returned (.bool true) ∧ Below w.heap.size w w' := by
  have hne := fun (w : World) (a : Option Addr) (n c : Nat) => run_neq_slice_nil_any (P := Trym.prog) w 23 5 a n c 0 0 Trym.underlying23
  have heq := fun (w : World) (a : Option Addr) (l c : Nat) => Lib.run_eql_slice_nil (P := Trym.prog) w 23 5 a l c 0 0 Trym.underlying23
  have t1 : decide ((131072 : Int) < (rn : Int)) = false := by simp; omega
  have t2 : decide ((16384 : Int) < (bn : Int)) = false := by simp; omega
  have t3 : decide ((16384 : Int) < (mn : Int)) = false := by simp; omega
  have t4 : decide ((131072 : Int) < (id.size : Int)) = false := by simp; omega
  have t5 : decide ((131072 : Int) < (on : Int)) = false := by simp; omega
  have HM : Hid (mineB commit own oo = false) := by simp [Hid, mineB, h1]
  have HN : Hid (commit ≠ 0) := h0
  have q0 : (commit != 0) = true := by simpa using h0
  have q0' : (commit == 0) = false := by simpa using h0
  have q1 : (commit == own) = false := by simpa using h1
  have q1' : (commit != own) = true := by simpa using h1
  clear h0 h1
  go_enter Trym.func6, Trym.ntmps6
  go_wp2_with (go_at_call 19; refine (bytes19 _ _ _ _ _ _ _ _ _ _ _ _ _ _ _ _ _ w).mono ?_; rintro e w' ⟨⟨b1, rfl⟩, hw⟩; subst w'; cases b1)
  · go_ret
    exact ⟨rfl, Below.refl _ _⟩
  · go_wp2_with (first
      | (go_at_call_of 13 (Value.slice ra rn rc); refine (clone13_any ra rn rc w (by omega) hr).mono ?_; rintro e w1 ⟨ra1, rc1, rfl, hrn1, hr1, hb1⟩; have HR1 : Hid (ra1.isNone = ra.isNone) := hrn1; clear hrn1)
      | (go_at_call_of 14 (Value.slice ba bn bc); refine (clone14_any ba bn bc w1 (by omega) (hba.below hb1)).mono ?_; rintro e w2 ⟨ba1, bc1, rfl, hbn1, hbl1, hb2⟩; have hb12 := hb1.trans (hb2.mono hb1.size); clear hbn1)
      | (go_at_call_of 14 (Value.slice ma mn mc); refine (clone14_any ma mn mc w2 (by omega) (hma.below hb12)).mono ?_; rintro e w3 ⟨ma1, mc1, rfl, hmn1, hml1, hb3⟩; have hb13 := hb12.trans (hb3.mono hb12.size); clear hmn1)
      | (go_at_call_of 13 (Value.slice oo on oc); refine (clone13_any oo on oc w3 (by omega) (hoo.below hb13)).mono ?_; rintro e w4 ⟨oo1, oc1, rfl, hon1, ho1, hb4⟩; have HO1 : Hid (oo1.isNone = oo.isNone) := hon1; clear hon1; have hb14 := hb13.trans (hb4.mono hb13.size))
      | (go_at_call 15; refine (zz_of commit own false ack ra1 ba1 ma1 oo1 rn rc1 bn bc1 mn mc1 on oc1 id false false false false none 0 0 w4 (fun w => conc_again commit own ack ra1 ba1 ma1 oo1 rn rc1 bn bc1 mn mc1 on oc1 id w (by rw [mine_as HO1.out]; exact HM.out) (fun h => HN.out h.1))).mono ?_; rintro e w5 ⟨rfl, hb5⟩))
    go_ret
    exact ⟨rfl, hb14.trans (hb5.mono hb14.size)⟩

set_option maxRecDepth 100000 in
set_option maxHeartbeats 1600000 in
theorem won_again_c (own : Int) (ack : Bool) (ra ba ma oo : Option Addr) (rn rc bn bc mn mc on oc : Nat) (id : ByteArray) (w : World)
    (hr : InV .u8 w ra rn rc) (hba : InV .i64 w ba bn bc) (hma : InV .i64 w ma mn mc) (hoo : InV .u8 w oo on oc)
    (l1 : rn ≤ 131072) (l2 : bn ≤ 16384) (l3 : mn ≤ 16384) (l4 : id.size ≤ 131072) (l5 : on ≤ 131072) (h0 : own ≠ 0) (hn : oo.isNone = true) :
    Calls Trym.prog 6 #[.int .i64 own, .bool false, .bool ack, .slice ra rn rc, .slice ba bn bc, .slice ma mn mc, .string id, .int .i64 own, .slice oo on oc] w
      fun e w' => e = .returned (.bool true) ∧ Below w.heap.size w w' := by
  have hne := fun (w : World) (a : Option Addr) (n c : Nat) => run_neq_slice_nil_any (P := Trym.prog) w 23 5 a n c 0 0 Trym.underlying23
  have heq := fun (w : World) (a : Option Addr) (l c : Nat) => Lib.run_eql_slice_nil (P := Trym.prog) w 23 5 a l c 0 0 Trym.underlying23
  have t1 : decide ((131072 : Int) < (rn : Int)) = false := by simp; omega
  have t2 : decide ((16384 : Int) < (bn : Int)) = false := by simp; omega
  have t3 : decide ((16384 : Int) < (mn : Int)) = false := by simp; omega
  have t4 : decide ((131072 : Int) < (id.size : Int)) = false := by simp; omega
  have t5 : decide ((131072 : Int) < (on : Int)) = false := by simp; omega
  have HM : Hid (mineB own own oo = false) := by simp [Hid, mineB, hn]
  have HOO : Hid (oo.isNone = true) := hn
  have HN : Hid (own ≠ 0) := h0
  have q0 : (own != 0) = true := by simpa using h0
  have q0' : (own == 0) = false := by simpa using h0
  clear h0 hn
  go_enter Trym.func6, Trym.ntmps6
  go_wp2_with (go_at_call 19; refine (bytes19 _ _ _ _ _ _ _ _ _ _ _ _ _ _ _ _ _ w).mono ?_; rintro e w' ⟨⟨b1, rfl⟩, hw⟩; subst w'; cases b1)
  · go_ret
    exact ⟨rfl, Below.refl _ _⟩
  · go_wp2_with (first
      | (go_at_call_of 13 (Value.slice ra rn rc); refine (clone13_any ra rn rc w (by omega) hr).mono ?_; rintro e w1 ⟨ra1, rc1, rfl, hrn1, hr1, hb1⟩; have HR1 : Hid (ra1.isNone = ra.isNone) := hrn1; clear hrn1)
      | (go_at_call_of 14 (Value.slice ba bn bc); refine (clone14_any ba bn bc w1 (by omega) (hba.below hb1)).mono ?_; rintro e w2 ⟨ba1, bc1, rfl, hbn1, hbl1, hb2⟩; have hb12 := hb1.trans (hb2.mono hb1.size); clear hbn1)
      | (go_at_call_of 14 (Value.slice ma mn mc); refine (clone14_any ma mn mc w2 (by omega) (hma.below hb12)).mono ?_; rintro e w3 ⟨ma1, mc1, rfl, hmn1, hml1, hb3⟩; have hb13 := hb12.trans (hb3.mono hb12.size); clear hmn1)
      | (go_at_call_of 13 (Value.slice oo on oc); refine (clone13_any oo on oc w3 (by omega) (hoo.below hb13)).mono ?_; rintro e w4 ⟨oo1, oc1, rfl, hon1, ho1, hb4⟩; have HO1 : Hid (oo1.isNone = oo.isNone) := hon1; have hq : oo1.isNone = true := hon1.trans HOO.out; clear hon1; have hb14 := hb13.trans (hb4.mono hb13.size))
      | (go_at_call 15; refine (zz_of own own false ack ra1 ba1 ma1 oo1 rn rc1 bn bc1 mn mc1 on oc1 id false false false false none 0 0 w4 (fun w => conc_again own own ack ra1 ba1 ma1 oo1 rn rc1 bn bc1 mn mc1 on oc1 id w (by rw [mine_as HO1.out]; exact HM.out) (fun h => HN.out h.1))).mono ?_; rintro e w5 ⟨rfl, hb5⟩))
    go_ret
    exact ⟨rfl, hb14.trans (hb5.mono hb14.size)⟩

theorem won_short (commit own : Int) (earlier : Bool) (ack : Bool) (ra ba ma oo : Option Addr) (rn rc bn bc mn mc on oc : Nat) (id : ByteArray) (w : World)
    (hr : InV .u8 w ra rn rc) (hba : InV .i64 w ba bn bc) (hma : InV .i64 w ma mn mc) (hoo : InV .u8 w oo on oc)
    (l1 : rn ≤ 131072) (l2 : bn ≤ 16384) (l3 : mn ≤ 16384) (l4 : id.size ≤ 131072) (l5 : on ≤ 131072) :
    Calls Trym.prog 6 #[.int .i64 commit, .bool earlier, .bool ack, .slice ra rn rc, .slice ba bn bc, .slice ma mn mc, .string id, .int .i64 own, .slice oo on oc] w
      fun e w' => e = .returned (.bool true) ∧ Below w.heap.size w w' := by
  rcases mine_ways commit own oo with ⟨h0, hm⟩ | ⟨h0, h1, hm⟩ | ⟨h0, h1, h2, hm⟩ | ⟨h0, h1, a, h2, hm⟩
  · subst h0
    cases earlier with
    | true => exact won_earlier_a own ack ra ba ma oo rn rc bn bc mn mc on oc id w hr hba hma hoo l1 l2 l3 l4 l5
    | false =>
      by_cases hn : mn = 0
      · exact won_nothing own ack ra ba ma oo rn rc bn bc mn mc on oc id w hr hba hma hoo l1 l2 l3 l4 l5 hn
      · exact won_again_a own ack ra ba ma oo rn rc bn bc mn mc on oc id w hr hba hma hoo l1 l2 l3 l4 l5 hn
  · cases earlier with
    | true => exact won_earlier_b commit own ack ra ba ma oo rn rc bn bc mn mc on oc id w hr hba hma hoo l1 l2 l3 l4 l5 h0 h1
    | false => exact won_again_b commit own ack ra ba ma oo rn rc bn bc mn mc on oc id w hr hba hma hoo l1 l2 l3 l4 l5 h0 h1
  · subst h1
    cases earlier with
    | true => exact won_earlier_c commit ack ra ba ma oo rn rc bn bc mn mc on oc id w hr hba hma hoo l1 l2 l3 l4 l5 h0 (by rw [h2]; rfl)
    | false => exact won_again_c commit ack ra ba ma oo rn rc bn bc mn mc on oc id w hr hba hma hoo l1 l2 l3 l4 l5 h0 (by rw [h2]; rfl)
  · subst h1
    cases earlier with
    | true => exact won_earlier_d commit ack ra ba ma oo rn rc bn bc mn mc on oc id w hr hba hma hoo l1 l2 l3 l4 l5 h0 (by rw [h2]; rfl)
    | false => exact won_mine commit ack ra ba ma oo rn rc bn bc mn mc on oc id w hr hba hma hoo l1 l2 l3 l4 l5 h0 (by rw [h2]; rfl)

set_option maxRecDepth 100000 in
set_option maxHeartbeats 1600000 in
theorem won_any (commit own : Int) (earlier : Bool) (ack : Bool) (ra ba ma oo : Option Addr) (rn rc bn bc mn mc on oc : Nat) (id : ByteArray) (w : World)
    (hr : InV .u8 w ra rn rc) (hba : InV .i64 w ba bn bc) (hma : InV .i64 w ma mn mc) (hoo : InV .u8 w oo on oc) :
    Calls Trym.prog 6 #[.int .i64 commit, .bool earlier, .bool ack, .slice ra rn rc, .slice ba bn bc, .slice ma mn mc, .string id, .int .i64 own, .slice oo on oc] w
      fun e w' => e = .returned (.bool true) ∧ Below w.heap.size w w' := by
  by_cases l1 : rn ≤ 131072
  · by_cases l2 : bn ≤ 16384
    · by_cases l3 : mn ≤ 16384
      · by_cases l4 : id.size ≤ 131072
        · by_cases l5 : on ≤ 131072
          · exact won_short commit own earlier ack ra ba ma oo rn rc bn bc mn mc on oc id w hr hba hma hoo l1 l2 l3 l4 l5
          · have t1 : decide ((131072 : Int) < (rn : Int)) = false := by simp; omega
            have t2 : decide ((16384 : Int) < (bn : Int)) = false := by simp; omega
            have t3 : decide ((16384 : Int) < (mn : Int)) = false := by simp; omega
            have t4 : decide ((131072 : Int) < (id.size : Int)) = false := by simp; omega
            have t5 : decide ((131072 : Int) < (on : Int)) = true := by simp; omega
            clear l1 l2 l3 l4 l5
            go_enter Trym.func6, Trym.ntmps6
            go_wp2_with (go_at_call 19; refine (bytes19 _ _ _ _ _ _ _ _ _ _ _ _ _ _ _ _ _ w).mono ?_; rintro e w' ⟨⟨b1, rfl⟩, hw⟩; subst w'; cases b1)
            all_goals
              go_ret
              exact ⟨rfl, Below.refl _ _⟩
        · have t1 : decide ((131072 : Int) < (rn : Int)) = false := by simp; omega
          have t2 : decide ((16384 : Int) < (bn : Int)) = false := by simp; omega
          have t3 : decide ((16384 : Int) < (mn : Int)) = false := by simp; omega
          have t4 : decide ((131072 : Int) < (id.size : Int)) = true := by simp; omega
          clear l1 l2 l3 l4
          go_enter Trym.func6, Trym.ntmps6
          go_wp2_with (go_at_call 19; refine (bytes19 _ _ _ _ _ _ _ _ _ _ _ _ _ _ _ _ _ w).mono ?_; rintro e w' ⟨⟨b1, rfl⟩, hw⟩; subst w'; cases b1)
          all_goals
            go_ret
            exact ⟨rfl, Below.refl _ _⟩
      · have t1 : decide ((131072 : Int) < (rn : Int)) = false := by simp; omega
        have t2 : decide ((16384 : Int) < (bn : Int)) = false := by simp; omega
        have t3 : decide ((16384 : Int) < (mn : Int)) = true := by simp; omega
        clear l1 l2 l3
        go_enter Trym.func6, Trym.ntmps6
        go_wp2_with (go_at_call 19; refine (bytes19 _ _ _ _ _ _ _ _ _ _ _ _ _ _ _ _ _ w).mono ?_; rintro e w' ⟨⟨b1, rfl⟩, hw⟩; subst w'; cases b1)
        all_goals
          go_ret
          exact ⟨rfl, Below.refl _ _⟩
    · have t1 : decide ((131072 : Int) < (rn : Int)) = false := by simp; omega
      have t2 : decide ((16384 : Int) < (bn : Int)) = true := by simp; omega
      clear l1 l2
      go_enter Trym.func6, Trym.ntmps6
      go_wp2_with (go_at_call 19; refine (bytes19 _ _ _ _ _ _ _ _ _ _ _ _ _ _ _ _ _ w).mono ?_; rintro e w' ⟨⟨b1, rfl⟩, hw⟩; subst w'; cases b1)
      all_goals
        go_ret
        exact ⟨rfl, Below.refl _ _⟩
  · have t1 : decide ((131072 : Int) < (rn : Int)) = true := by simp; omega
    clear l1
    go_enter Trym.func6, Trym.ntmps6
    go_wp2_with (go_at_call 19; refine (bytes19 _ _ _ _ _ _ _ _ _ _ _ _ _ _ _ _ _ w).mono ?_; rintro e w' ⟨⟨b1, rfl⟩, hw⟩; subst w'; cases b1)
    all_goals
      go_ret
      exact ⟨rfl, Below.refl _ _⟩

end Go.Proofs.Qxb6000448aMods
