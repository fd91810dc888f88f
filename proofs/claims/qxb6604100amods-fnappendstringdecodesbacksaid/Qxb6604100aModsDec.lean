/-
  THE WALKS: hexValue (28) at a digit; decodeJSONString (23) at a JSON string.
-/
import Derived.Test.Qxb6604100aModsLawPiece
namespace Go.Proofs.Qxb6604100aMods
open Go.RowKit
set_option linter.unusedVariables false

theorem hexValue_any (d : Int) (w : World) (h0 : 0 ≤ d) (h1 : d < 16) : Calls Trym.prog 28 #[.int .u8 (hexd d)] w fun e w' => e = .returned (.tuple #[.int .i64 d, .bool true]) ∧ w' = w := by
  by_cases h : d < 10
  · have e : hexd d = 48 + d := by unfold hexd; rw [if_pos h]
    rw [e]
    have h2 : 48 ≤ 48 + d := by omega
    have h3 : 48 + d ≤ 57 := by omega
    go_enter Trym.func28, Trym.ntmps28
    go_wp2
    go_ret2
    refine ⟨?_, rfl⟩
    congr 5
    simp
    omega
  · have e : hexd d = 87 + d := by unfold hexd; rw [if_neg h]
    rw [e]
    have h2 : 48 ≤ 87 + d := by omega
    have h3 : ¬ 87 + d ≤ 57 := by omega
    have h4 : 97 ≤ 87 + d := by omega
    have h5 : 87 + d ≤ 102 := by omega
    go_enter Trym.func28, Trym.ntmps28
    go_wp2
    go_ret2
    refine ⟨?_, rfl⟩
    congr 5
    simp
    omega

/-- where the k-th byte's text begins -/
def pos (ys : List Int) (k : Nat) : Nat := 1 + (esc (ys.take k)).length

theorem pos_zero (ys : List Int) : pos ys 0 = 1 := by simp [pos, esc]

theorem pos_succ (ys : List Int) {k : Nat} (h : k < ys.length) : pos ys (k + 1) = pos ys k + (esc1 (ys.getD k 0)).length := by
  unfold pos
  rw [esc_take_succ ys h, List.length_append]
  omega

theorem js_cut (ys : List Int) {k : Nat} (h : k < ys.length) : js ys = ([34] ++ esc (ys.take k)) ++ (esc1 (ys.getD k 0) ++ (esc (ys.drop (k + 1)) ++ [34])) := by
  have e : ys = ys.take k ++ ([ys.getD k 0] ++ ys.drop (k + 1)) := by
    rw [← List.append_assoc, ← take_snoc ys h, List.take_append_drop]
  unfold js
  conv => lhs; rw [e]
  rw [esc_append, esc_append]
  simp [esc]

theorem js_at (ys : List Int) {k j : Nat} (h : k < ys.length) (hj : j < (esc1 (ys.getD k 0)).length) : (js ys).getD (pos ys k + j) 0 = (esc1 (ys.getD k 0)).getD j 0 := by
  rw [js_cut ys h]
  have e : pos ys k = ([34] ++ esc (ys.take k)).length := by simp [pos]; omega
  rw [e]
  simp only [List.getD] at hj ⊢
  rw [List.getElem?_append_right (by omega), Nat.add_sub_cancel_left, List.getElem?_append_left hj]

theorem js_fits (ys : List Int) {k : Nat} (h : k < ys.length) : pos ys k + (esc1 (ys.getD k 0)).length < (js ys).length := by
  rw [js_cut ys h]
  simp [pos]
  omega

theorem js_end (ys : List Int) : (js ys).length = pos ys ys.length + 1 := by
  simp [js, pos]
  omega

theorem js_last (ys : List Int) : (js ys).getD (pos ys ys.length) 0 = 34 := by
  have e : pos ys ys.length = ([34] ++ esc ys).length := by simp [pos]; omega
  rw [e]
  unfold js
  simp [List.getD]

theorem js_first (ys : List Int) : (js ys).getD 0 0 = 34 := by simp [js, List.getD]

/-- the number that the first m digits of 0, 0, y / 16, y % 16 make -/
def hv (y : Int) : Nat → Int
  | 0 => 0
  | 1 => 0
  | 2 => 0
  | 3 => y / 16
  | _ => y

/-- the m-th of the four digits -/
def dg (y : Int) : Nat → Int
  | 0 => 0
  | 1 => 0
  | 2 => y / 16
  | _ => y % 16

theorem hv_succ {y : Int} : ∀ {m : Nat}, m < 4 → hv y (m + 1) = hv y m * 16 + dg y m
  | 0, _ => rfl
  | 1, _ => rfl
  | 2, _ => by simp [hv, dg]
  | 3, _ => by simp only [hv, dg]; omega
  | m + 4, h => by omega

theorem dg_bd {y : Int} (h0 : 0 ≤ y) (h1 : y < 32) : ∀ m, 0 ≤ dg y m ∧ dg y m < 16
  | 0 => by simp [dg]
  | 1 => by simp [dg]
  | 2 => by simp only [dg]; omega
  | m + 3 => by simp only [dg]; omega

theorem hv_bd {y : Int} (h0 : 0 ≤ y) (h1 : y < 32) : ∀ m, 0 ≤ hv y m ∧ hv y m < 32
  | 0 => by simp [hv]
  | 1 => by simp [hv]
  | 2 => by simp [hv]
  | 3 => by simp only [hv]; omega
  | m + 4 => by simp only [hv]; omega

theorem hex_at {y : Int} (h : y < 32) (h1 : y ≠ 10) (h2 : y ≠ 9) : ∀ {m : Nat}, m < 4 → (esc1 y).getD (2 + m) 0 = hexd (dg y m)
  | 0, _ => by rw [esc1_hex h h1 h2]; simp [dg, hexd]
  | 1, _ => by rw [esc1_hex h h1 h2]; simp [dg, hexd]
  | 2, _ => by rw [esc1_hex h h1 h2]; simp [dg]
  | 3, _ => by rw [esc1_hex h h1 h2]; simp [dg]
  | m + 4, h => by omega

end Go.Proofs.Qxb6604100aMods
