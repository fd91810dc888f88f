/-
  THE WALK OF THE LAW: FnAppendStringDecodesBack (7).
-/
import Derived.Test.Qxb6604100aModsDecode
import Derived.Test.Qxb6604100aModsLawTab
namespace Go.Proofs.Qxb6604100aMods
open Go.RowKit
set_option linter.unusedVariables false

theorem zzapp_on (oa : Option Addr) (on oc : Nat) (xs : List Int) (so : Option Addr) (sn sc : Nat) (ys : List Int) (w : World) (hO : w.ownsRow 0 5 1 (.slice oa on oc) xs.length (bys xs)) (hS : w.ownsRow 0 5 1 (.slice so sn sc) ys.length (bys ys))
    (hne : ∀ g, Value.ownBlock (.slice so sn sc) = some g → Value.ownBlock (.slice oa on oc) ≠ some g) (hsz : xs.length + 6 * ys.length ≤ 1000000000) (hby : ∀ y ∈ ys, 0 ≤ y ∧ y ≤ 255) :
    Calls Trym.prog 11 #[.slice oa on oc, .slice so sn sc] w fun e w' => ResP w (Value.ownBlock (.slice oa on oc)) w' (xs ++ js ys) e := by
  refine (zzapp_any oa on oc xs so sn sc ys w hO hS hne hsz hby).mono ?_
  intro e w' h
  have e1 : xs ++ [34] ++ esc ys ++ [34] = xs ++ js ys := by simp [js]
  rw [e1] at h
  exact h.pos (by have := js_len ys; simp; omega)

theorem apart2 {w0 w1 w2 : World} {v u : Value} {xs ys : List Int} (h : Own w0 none w1 v xs) (k : Own w1 none w2 u ys) : u.ownBlock = none ∨ u.ownBlock ≠ v.ownBlock := by
  cases hu : u.ownBlock with
  | none => exact Or.inl rfl
  | some g => exact Or.inr (fun e => apart_of h k g hu e.symm)

theorem front_seg (xs zs : List Int) {n : Nat} (h : n = xs.length) : seg (xs ++ zs) 0 n = xs := by
  subst h
  simp [seg]

theorem back_seg (xs zs : List Int) {n m : Nat} (h : n = xs.length) (hm : m = (xs ++ zs).length) : seg (xs ++ zs) n m = zs := by
  subst h hm
  simp [seg]

theorem back_len {xs zs : List Int} {n m : Nat} (h : n = xs.length) (hm : m = (xs ++ zs).length) : m - n = zs.length := by
  subst h hm
  simp

/-- the cells behind the part that was kept -/
theorem back_cells {w : World} {g n m c : Nat} {xs zs : List Int} (h : w.ownsRow 0 5 1 (.slice (some ⟨g, 0, none⟩) m c) (xs ++ zs).length (bys (xs ++ zs))) (hn : n = xs.length) : ∀ j, j < zs.length → w.cell? ⟨g, n + j, none⟩ = some (.int .u8 (zs.getD j 0)) := by
  intro j hj
  subst hn
  have h1 := h.cells rfl (xs.length + j) (.int .u8 (zs.getD j 0)) (by simp [bys, List.getD, hj])
  rw [add_at] at h1
  simpa using h1

set_option maxRecDepth 100000 in
set_option maxHeartbeats 1600000 in
theorem back_short (a : Option Addr) (la ca : Nat) (xs : List Int) (b : Option Addr) (lb cb : Nat) (ys : List Int) (w : World) (ea : la = xs.length) (eb : lb = ys.length) (ha : RdV w a ca xs) (hb : RdV w b cb ys)
    (h1 : la ≤ 524288) (h2 : lb ≤ 524288) (bx : ∀ y ∈ xs, 0 ≤ y ∧ y ≤ 255) (by_ : ∀ y ∈ ys, 0 ≤ y ∧ y ≤ 255) :
    Calls Trym.prog 7 #[.slice a la ca, .slice b lb cb] w fun e w' => e = .returned (.bool true) ∧ w.grownBy w' none := by
  have t1 : decide ((524288 : Int) < (la : Int)) = false := by simp; omega
  have t2 : decide ((524288 : Int) < (lb : Int)) = false := by simp; omega
  have EA : Hid (la = xs.length ∧ la ≤ 524288) := ⟨ea, h1⟩
  have EB : Hid (lb = ys.length ∧ lb ≤ 524288) := ⟨eb, h2⟩
  have LXY : Hid (xs.length ≤ 524288 ∧ ys.length ≤ 524288) := ⟨by omega, by omega⟩
  clear ea eb h1 h2
  go_enter Trym.func7, Trym.ntmps7
  go_wp2_with (go_at_call 22; refine (bytes22 a b la lb ca cb w).mono ?_; rintro e w' ⟨⟨b1, rfl⟩, hw⟩; subst w'; cases b1)
  · go_ret
    exact ⟨rfl, World.grownBy.refl _ _⟩
  · go_wp2_with (first
      | (go_at_call_of 9 (Value.slice a la ca); refine (clone_any a la ca xs w EA.out.1 (by have := EA.out.2; omega) ha).mono ?_; rintro e w1 ⟨a1, n1, c1, rfl, hA⟩; have E1 : Hid (n1 = xs.length) := hA.len; have l1 : n1 ≤ 524288 := (by have := EA.out; have := E1.out; omega); have hb1 := rd_keep hb hA.grown)
      | (go_at_call_of 9 (Value.slice b lb cb); refine (clone_any b lb cb ys w1 EB.out.1 (by have := EB.out.2; omega) hb1).mono ?_; rintro e w2 ⟨a2, n2, c2, rfl, hB⟩; have E2 : Hid (n2 = ys.length) := hB.len; have l2 : n2 ≤ 524288 := (by have := EB.out; have := E2.out; omega); have hA2 := hA.keep hB.grown)
      | (go_at_call_of 9 (Value.slice a1 n1 c1); refine (clone_any a1 n1 c1 xs w2 E1.out (by omega) (own_rd hA2)).mono ?_; rintro e w3 ⟨a3, n3, c3, rfl, hK⟩; have E3 : Hid (n3 = xs.length) := hK.len; have l3 : n3 ≤ 524288 := (by have := LXY.out; have := E3.out; omega); have hA3 := keep2 hA2 hK.grown; have hB3 := hB.keep hK.grown)
      | (go_at_call 11; refine (zzapp_on a1 n1 c1 xs a2 n2 c2 ys w3 hA3 hB3 (apart_of hA hB) (by have := LXY.out; omega) by_).mono ?_; rintro e w4 ⟨gg, ng, cg, rfl, hG⟩; obtain ⟨G1, G2, G3⟩ : Hid (ng = (xs ++ js ys).length) ∧ ng ≤ cg ∧ (n3 + 2 ≤ ng ∧ ng ≤ 10000000) := (by have hj := js_len ys; have hx := LXY.out; have h3 := E3.out; obtain ⟨_, _, q1, q2⟩ := hG.some (by simp; omega); refine ⟨q1, q2, ?_⟩; rw [q1]; simp; omega); obtain ⟨G3, G4⟩ := G3; have hcg : ¬ cg = 0 := (by omega); have hcn : ¬ cg = n3 := (by omega))
      | (go_at_call_of 12 (Value.slice a3 n3 c3); refine (equal_any _ _ _ _ _ _ xs w4 (by have := LXY.out; omega) E3.out E3.out (by have h := rd_seg hG.own (t := 0) (k := n3) (by omega) (by rw [← G1.out]; omega) cg; rw [front_seg xs (js ys) E3.out] at h; exact h) (own_rd (hK.own.kept hG.grown (far hA hB hK)))).mono ?_; rintro e w5 ⟨rfl, hg5⟩)
      | (go_at_call 23; refine (decode_some gg n3 (ng - n3) (cg - n3) ys w5 (back_len E3.out G1.out) (by have := LXY.out; omega) by_ (fun j hj => back_cells (keep2 hG.own hg5) E3.out j (by rw [← back_len E3.out G1.out]; exact hj))).mono ?_; rintro e w6 ⟨ao6, n6, c6, rfl, hD⟩)
      | (go_at_call_of 12 (Value.slice a2 n2 c2); refine (equal_any _ _ _ _ _ _ ys w6 (by have := LXY.out; omega) hD.len E2.out (own_rd hD.own) (own_rd (keep2 (keep2 (hB3.kept hG.grown (apart2 hA hB)) hg5) hD.grown))).mono ?_; rintro e w7 ⟨rfl, hg7⟩))
    go_ret
    exact ⟨rfl, ((((((hA.grown.trans hB.grown).trans hK.grown).andThen hG.grown (fun j hj => hA.lies j hj)).trans hg5).trans hD.grown).trans hg7)⟩

set_option maxHeartbeats 400000 in
theorem back_any (a : Option Addr) (la ca : Nat) (xs : List Int) (b : Option Addr) (lb cb : Nat) (ys : List Int) (w : World) (ea : la = xs.length) (eb : lb = ys.length) (ha : RdV w a ca xs) (hb : RdV w b cb ys)
    (bx : ∀ y ∈ xs, 0 ≤ y ∧ y ≤ 255) (by_ : ∀ y ∈ ys, 0 ≤ y ∧ y ≤ 255) :
    Calls Trym.prog 7 #[.slice a la ca, .slice b lb cb] w fun e w' => e = .returned (.bool true) ∧ w.grownBy w' none := by
  by_cases h1 : la ≤ 524288
  · by_cases h2 : lb ≤ 524288
    · exact back_short a la ca xs b lb cb ys w ea eb ha hb h1 h2 bx by_
    · have t1 : decide ((524288 : Int) < (la : Int)) = false := by simp; omega
      have t2 : decide ((524288 : Int) < (lb : Int)) = true := by simp; omega
      clear ea eb h1 h2
      go_enter Trym.func7, Trym.ntmps7
      go_wp2_with (go_at_call 22; refine (bytes22 a b la lb ca cb w).mono ?_; rintro e w' ⟨⟨b1, rfl⟩, hw⟩; subst w'; cases b1)
      all_goals
        go_ret
        exact ⟨rfl, World.grownBy.refl _ _⟩
  · have t1 : decide ((524288 : Int) < (la : Int)) = true := by simp; omega
    clear ea eb h1
    go_enter Trym.func7, Trym.ntmps7
    go_wp2_with (go_at_call 22; refine (bytes22 a b la lb ca cb w).mono ?_; rintro e w' ⟨⟨b1, rfl⟩, hw⟩; subst w'; cases b1)
    all_goals
      go_ret
      exact ⟨rfl, World.grownBy.refl _ _⟩

end Go.Proofs.Qxb6604100aMods
