/-
  THE WALK OF THE LAW: FnAppendStringMatchesEscapeTable (3).
-/
import Derived.Test.Qxb6604100aModsTab
import Derived.Test.Qxb6604100aModsLawPiece
namespace Go.Proofs.Qxb6604100aMods
open Go.RowKit
set_option linter.unusedVariables false

/-- two slices of which the second is younger lie apart -/
theorem apart_of {w0 w1 w2 : World} {v u : Value} {xs ys : List Int} (h : Own w0 none w1 v xs) (k : Own w1 none w2 u ys) : ∀ g, u.ownBlock = some g → v.ownBlock ≠ some g := by
  intro g hg e
  have h1 := (h.own.lt g e).2
  rcases k.lies g hg with h2 | h2
  · omega
  · cases h2

/-- .. and so does a third -/
theorem far {w0 w1 w2 w3 : World} {v u t : Value} {xs ys zs : List Int} (h : Own w0 none w1 v xs) (k : Own w1 none w2 u ys) (m : Own w2 none w3 t zs) : t.ownBlock = none ∨ t.ownBlock ≠ v.ownBlock := by
  cases ht : t.ownBlock with
  | none => exact Or.inl rfl
  | some g =>
    refine Or.inr (fun e => ?_)
    have h1 := (h.own.lt g e.symm).2
    have h2 := k.grown.size
    rcases m.lies g ht with h3 | h3
    · omega
    · cases h3

set_option maxRecDepth 100000 in
set_option maxHeartbeats 1600000 in
theorem tab_short (a : Option Addr) (la ca : Nat) (xs : List Int) (b : Option Addr) (lb cb : Nat) (ys : List Int) (w : World) (ea : la = xs.length) (eb : lb = ys.length) (ha : RdV w a ca xs) (hb : RdV w b cb ys)
    (h1 : la ≤ 524288) (h2 : lb ≤ 524288) (bx : ∀ y ∈ xs, 0 ≤ y ∧ y ≤ 255) (by_ : ∀ y ∈ ys, 0 ≤ y ∧ y ≤ 255) :
    Calls Trym.prog 3 #[.slice a la ca, .slice b lb cb] w fun e w' => e = .returned (.bool true) ∧ w.grownBy w' none := by
  obtain ⟨i0, hi, hz0, hz1, hz2⟩ := info_parts Trym.info5
  have t1 : decide ((524288 : Int) < (la : Int)) = false := by simp; omega
  have t2 : decide ((524288 : Int) < (lb : Int)) = false := by simp; omega
  have EA : Hid (la = xs.length ∧ la ≤ 524288) := ⟨ea, h1⟩
  have EB : Hid (lb = ys.length ∧ lb ≤ 524288) := ⟨eb, h2⟩
  have LXY : Hid (xs.length ≤ 524288 ∧ ys.length ≤ 524288) := ⟨by omega, by omega⟩
  clear ea eb h1 h2
  go_enter Trym.func3, Trym.ntmps3
  go_wp2_with (go_at_call 8; refine (bytes8 a b la lb ca cb w).mono ?_; rintro e w' ⟨⟨b1, rfl⟩, hw⟩; subst w'; cases b1)
  · go_ret
    exact ⟨rfl, World.grownBy.refl _ _⟩
  · go_wp2_with (first
      | (go_at_call_of 9 (Value.slice a la ca); refine (clone_any a la ca xs w EA.out.1 (by have := EA.out.2; omega) ha).mono ?_; rintro e w1 ⟨a1, n1, c1, rfl, hA⟩; have E1 : Hid (n1 = xs.length) := hA.len; have l1 : n1 ≤ 524288 := (by have := EA.out; have := E1.out; omega); have hb1 := rd_keep hb hA.grown)
      | (go_at_call_of 9 (Value.slice b lb cb); refine (clone_any b lb cb ys w1 EB.out.1 (by have := EB.out.2; omega) hb1).mono ?_; rintro e w2 ⟨a2, n2, c2, rfl, hB⟩; have E2 : Hid (n2 = ys.length) := hB.len; have l2 : n2 ≤ 524288 := (by have := EB.out; have := E2.out; omega); have hA2 := hA.keep hB.grown)
      | (at_make; refine wpList_make_own _ rfl (.const (.int .i64 0)) (.tmp 28) 22 rfl 0 5 i0 (.int .u8 0) 1 Trym.underlying22 hi hz0 hz1 _ _ _ (n1 + 2 + 6 * n2) rfl rfl (by omega) (by rw [hz2]; omega) (by unfold maxLen; omega) (Nat.zero_le _) ?_; intro w3 hown3 hg3; have hO3 : Own w2 none w3 (.slice (some ⟨w2.heap.size, 0, none⟩) 0 (n1 + 2 + 6 * n2)) [] := ⟨hown3, hg3, fun g hg => (by cases hg; exact Or.inl (Nat.le_refl _))⟩)
      | (at_builtin; refine wpList_append_any rfl (.tmp 30) (.tmp 31) rfl w2 none _ [] rfl hO3 _ _ _ xs rfl E1.out (own_rd (keep2 hA2 hg3)) (by have := E1.out; simp; omega) ?_; intro ao4 n4 c4 w4 hO4)
      | (at_builtin; refine wpList_append_any rfl (.tmp 33) (.tmp 34) rfl w2 none _ ([] ++ xs) rfl (hO4.alloc _) _ 1 1 [34] rfl rfl (rd_lit _ [34] 1) (by have := E1.out; simp; omega) ?_; intro ao5 n5 c5 w5 hO5))
    go_loopw [5, 6] (fun v i wr => ∃ (k : Nat) (ao : Option Addr) (n c : Nat), k ≤ n2 ∧ i = .int .i64 k ∧ v = .slice ao n c ∧ Own w2 none wr (.slice ao n c) ([] ++ xs ++ [34] ++ esc (ys.take k))) (fun _ i _ => n2 - (intOf i).toNat)
    case atStart => exact ⟨0, _, _, _, Nat.zero_le _, rfl, rfl, by simpa [esc] using hO5⟩
    case round =>
      obtain ⟨k, ao, n, c, hk, rfl, rfl, hO⟩ := hrel
      by_cases hlt : k < n2
      · have hlt' : k < ys.length := by have := E2.out; omega
        obtain ⟨g2, hg2, -, -⟩ := hB.some (by omega)
        subst hg2
        obtain ⟨y, hy⟩ : ∃ y, y = ys.getD k 0 := ⟨_, rfl⟩
        have hyb : 0 ≤ y ∧ y ≤ 255 := by rw [hy]; exact by_ _ (by simp [List.getD, hlt'])
        obtain ⟨hy0, hy1⟩ := hyb
        have hcell : wr.cell? ⟨g2, k, none⟩ = some (.int .u8 y) := by
          rw [hy]
          have h1 := (hB.keep hO.grown).cells rfl k (.int .u8 (ys.getD k 0)) (by simp [bys, List.getD, hlt'])
          rw [add_at] at h1
          simpa using h1
        have HY : Hid (y = ys.getD k 0) := hy
        clear hy
        go_wp2_with (go_at_call 10; refine (escaped_any w2 none ao n c _ y wr hO (by have := LXY.out; have := esc_len (ys.take k); simp at this; simp; omega) hy0 hy1).mono ?_; rintro e w6 ⟨ao6, n6, c6, rfl, hO6⟩)
        go_roundw
        case rel =>
          refine ⟨k + 1, _, _, _, by omega, by go_num, rfl, ?_⟩
          rw [esc_take_succ ys hlt', ← HY.out, ← List.append_assoc]
          exact hO6
        case measure => simp [intOf]; omega
      · have e : k = n2 := by omega
        subst e
        have eT : ys.take k = ys := List.take_of_length_le (by have := E2.out; omega)
        have hOt : Own w2 none wr (.slice ao n c) ([] ++ xs ++ [34] ++ esc ys) := by rw [eT] at hO; exact hO
        clear hO eT
        go_wp2_with (first
          | (at_builtin; refine wpList_append_any rfl (.tmp 48) (.tmp 49) rfl w2 none _ _ rfl (hOt.alloc _) _ 1 1 [34] rfl rfl (rd_lit _ [34] 1) (by have := LXY.out; have := esc_len ys; simp; omega) ?_; intro ao6 n6 c6 w6 hO6)
          | (go_at_call 11; refine (zzapp_any a1 n1 c1 xs a2 k c2 ys w6 (keep2 hA2 hO6.grown) (hB.keep hO6.grown) (apart_of hA hB) (by have := LXY.out; omega) by_).mono ?_; rintro e w7 ⟨ao7, n7, c7, rfl, hG⟩)
          | (go_at_call 12; refine (equal_any _ _ _ _ _ _ (xs ++ [34] ++ esc ys ++ [34]) w7 (by have := LXY.out; have := esc_len ys; simp; omega) hG.len hO6.len (own_rd hG.own) (own_rd (hO6.own.kept hG.grown (far hA hB hO6)))).mono ?_; rintro e w8 ⟨rfl, hg8⟩))
        go_ret
        exact ⟨rfl, ((((hA.grown.trans hB.grown).trans hO6.grown).andThen hG.grown (fun j hj => hA.lies j hj)).trans hg8)⟩

set_option maxHeartbeats 400000 in
theorem tab_any (a : Option Addr) (la ca : Nat) (xs : List Int) (b : Option Addr) (lb cb : Nat) (ys : List Int) (w : World) (ea : la = xs.length) (eb : lb = ys.length) (ha : RdV w a ca xs) (hb : RdV w b cb ys)
    (bx : ∀ y ∈ xs, 0 ≤ y ∧ y ≤ 255) (by_ : ∀ y ∈ ys, 0 ≤ y ∧ y ≤ 255) :
    Calls Trym.prog 3 #[.slice a la ca, .slice b lb cb] w fun e w' => e = .returned (.bool true) ∧ w.grownBy w' none := by
  by_cases h1 : la ≤ 524288
  · by_cases h2 : lb ≤ 524288
    · exact tab_short a la ca xs b lb cb ys w ea eb ha hb h1 h2 bx by_
    · have t1 : decide ((524288 : Int) < (la : Int)) = false := by simp; omega
      have t2 : decide ((524288 : Int) < (lb : Int)) = true := by simp; omega
      clear ea eb h1 h2
      go_enter Trym.func3, Trym.ntmps3
      go_wp2_with (go_at_call 8; refine (bytes8 a b la lb ca cb w).mono ?_; rintro e w' ⟨⟨b1, rfl⟩, hw⟩; subst w'; cases b1)
      all_goals
        go_ret
        exact ⟨rfl, World.grownBy.refl _ _⟩
  · have t1 : decide ((524288 : Int) < (la : Int)) = true := by simp; omega
    clear ea eb h1
    go_enter Trym.func3, Trym.ntmps3
    go_wp2_with (go_at_call 8; refine (bytes8 a b la lb ca cb w).mono ?_; rintro e w' ⟨⟨b1, rfl⟩, hw⟩; subst w'; cases b1)
    all_goals
      go_ret
      exact ⟨rfl, World.grownBy.refl _ _⟩

end Go.Proofs.Qxb6604100aMods
