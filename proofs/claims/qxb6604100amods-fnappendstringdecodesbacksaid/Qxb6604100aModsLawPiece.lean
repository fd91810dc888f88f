/-
  THE WALK OF THE LAW: FnAppendStringEscapesPiecewise (4).
-/
import Derived.Test.Qxb6604100aModsApp2
namespace Go.Proofs.Qxb6604100aMods
open Go.RowKit
set_option linter.unusedVariables false

theorem Own.keep {w0 w w' : World} {row0 : Option Nat} {v : Value} {xs : List Int} (h : Own w0 row0 w v xs) (hg : w.grownBy w' none) : w'.ownsRow 0 5 1 v xs.length (bys xs) := by
  refine h.own.kept hg ?_
  cases v.ownBlock with
  | none => exact Or.inl rfl
  | some g => exact Or.inr (by simp)

theorem keep2 {w w' : World} {v : Value} {n : Nat} {xs : List Value} (h : w.ownsRow 0 5 1 v n xs) (hg : w.grownBy w' none) : w'.ownsRow 0 5 1 v n xs := by
  refine h.kept hg ?_
  cases v.ownBlock with
  | none => exact Or.inl rfl
  | some g => exact Or.inr (by simp)

theorem rd_keep {w w' : World} {ao : Option Addr} {c : Nat} {ys : List Int} (h : RdV w ao c ys) (hg : w.grownBy w' none) : RdV w' ao c ys := h.grown hg (fun ad _ => by simp)

/-- a slice that is not empty: where it lies -/
theorem Own.some {w0 w : World} {row0 : Option Nat} {ao : Option Addr} {n c : Nat} {xs : List Int} (h : Own w0 row0 w (.slice ao n c) xs) (h0 : 0 < xs.length) : ∃ g, ao = some ⟨g, 0, none⟩ ∧ n = xs.length ∧ n ≤ c := by
  rcases h.own.2 with ⟨_, h2⟩ | ⟨g, cap, cur, h1, _, _, h4, _⟩
  · omega
  · cases h1
    exact ⟨g, rfl, rfl, h4⟩

/-- .. came back -/
def ResP (w0 : World) (row0 : Option Nat) (w' : World) (xs : List Int) (e : Ending) : Prop :=
  ∃ g n c, e = .returned (.slice (some ⟨g, 0, none⟩) n c) ∧ Own w0 row0 w' (.slice (some ⟨g, 0, none⟩) n c) xs

theorem Res.pos {w0 : World} {row0 : Option Nat} {w' : World} {xs : List Int} {e : Ending} (h : Res w0 row0 w' xs e) (h0 : 0 < xs.length) : ResP w0 row0 w' xs e := by
  obtain ⟨ao, n, c, rfl, hO⟩ := h
  obtain ⟨g, rfl, _, _⟩ := hO.some h0
  exact ⟨g, n, c, rfl, hO⟩

/-- appendString onto nothing -/
theorem zzapp_fresh (so : Option Addr) (sn sc : Nat) (ys : List Int) (w : World) (hS : w.ownsRow 0 5 1 (.slice so sn sc) ys.length (bys ys)) (hsz : 6 * ys.length ≤ 1000000000) (hby : ∀ y ∈ ys, 0 ≤ y ∧ y ≤ 255) :
    Calls Trym.prog 11 #[.slice none 0 0, .slice so sn sc] w fun e w' => ResP w none w' ([34] ++ esc ys ++ [34]) e := by
  refine (zzapp_any none 0 0 [] so sn sc ys w (World.ownsRow_nil _ _ _ _) hS (fun g hg h => by cases h) (by simpa using hsz) hby).mono ?_
  intro e w' h
  exact Res.pos (show Res w none w' ([34] ++ esc ys ++ [34]) e from h) (by simp)

/-- a JSON string -/
def js (ys : List Int) : List Int := [34] ++ esc ys ++ [34]

theorem js_len (ys : List Int) : 2 ≤ (js ys).length ∧ (js ys).length ≤ 2 + 6 * ys.length := by
  have := esc_len ys
  simp [js]
  omega

theorem js_front (ys : List Int) {n : Nat} (h : n = (js ys).length) : seg (js ys) 0 (n - 1) = [34] ++ esc ys := by
  subst h
  have e : (js ys).length - 1 = ([34] ++ esc ys).length := by simp [js]
  unfold seg
  rw [e, List.drop_zero, Nat.sub_zero]
  exact List.take_left' rfl

theorem js_back (ys : List Int) {n : Nat} (h : n = (js ys).length) : seg (js ys) 1 n = esc ys ++ [34] := by
  subst h
  unfold seg
  have e : (js ys).drop 1 = esc ys ++ [34] := by simp [js]
  rw [e]
  refine List.take_of_length_le ?_
  simp [js]

theorem js_split (xs ys : List Int) : js (xs ++ ys) = ([] ++ ([34] ++ esc xs)) ++ (esc ys ++ [34]) := by
  simp [js, esc_append]

theorem js_byte {xs ys : List Int} (hx : ∀ y ∈ xs, 0 ≤ y ∧ y ≤ 255) (hy : ∀ y ∈ ys, 0 ≤ y ∧ y ≤ 255) : ∀ y ∈ [] ++ xs ++ ys, 0 ≤ y ∧ y ≤ 255 := by
  intro y h
  simp at h
  rcases h with h | h
  · exact hx y h
  · exact hy y h

theorem zzapp_js (so : Option Addr) (sn sc : Nat) (ys : List Int) (w : World) (hS : w.ownsRow 0 5 1 (.slice so sn sc) ys.length (bys ys)) (hsz : 6 * ys.length ≤ 1000000000) (hby : ∀ y ∈ ys, 0 ≤ y ∧ y ≤ 255) :
    Calls Trym.prog 11 #[.slice none 0 0, .slice so sn sc] w fun e w' => ResP w none w' (js ys) e := zzapp_fresh so sn sc ys w hS hsz hby

/-- its length, as the walk wants it -/
theorem js_bounds {w0 w : World} {g n c : Nat} {ys : List Int} (h : Own w0 none w (.slice (some ⟨g, 0, none⟩) n c) (js ys)) (hy : ys.length ≤ 1048576) : 2 ≤ n ∧ n ≤ 10000000 ∧ n ≤ c ∧ n = (js ys).length := by
  have h1 := js_len ys
  obtain ⟨_, _, h2, h3⟩ := h.some (by omega)
  omega

set_option maxRecDepth 100000 in
set_option maxHeartbeats 1600000 in
theorem piece_short (a : Option Addr) (la ca : Nat) (xs : List Int) (b : Option Addr) (lb cb : Nat) (ys : List Int) (w : World) (ea : la = xs.length) (eb : lb = ys.length) (ha : RdV w a ca xs) (hb : RdV w b cb ys)
    (h1 : la ≤ 524288) (h2 : lb ≤ 524288) (bx : ∀ y ∈ xs, 0 ≤ y ∧ y ≤ 255) (by_ : ∀ y ∈ ys, 0 ≤ y ∧ y ≤ 255) :
    Calls Trym.prog 4 #[.slice a la ca, .slice b lb cb] w fun e w' => e = .returned (.bool true) ∧ w.grownBy w' none := by
  obtain ⟨i0, hi, hz0, hz1, hz2⟩ := info_parts Trym.info5
  have t1 : decide ((524288 : Int) < (la : Int)) = false := by simp; omega
  have t2 : decide ((524288 : Int) < (lb : Int)) = false := by simp; omega
  have EA : Hid (la = xs.length ∧ la ≤ 524288) := ⟨ea, h1⟩
  have EB : Hid (lb = ys.length ∧ lb ≤ 524288) := ⟨eb, h2⟩
  clear ea eb h1 h2
  go_enter Trym.func4, Trym.ntmps4
  go_wp2_with (go_at_call 13; refine (bytes13 a b la lb ca cb w).mono ?_; rintro e w' ⟨⟨b1, rfl⟩, hw⟩; subst w'; cases b1)
  · go_ret
    exact ⟨rfl, World.grownBy.refl _ _⟩
  · go_wp2_with (first
      | (go_at_call_of 9 (Value.slice a la ca); refine (clone_any a la ca xs w EA.out.1 (by have := EA.out.2; omega) ha).mono ?_; rintro e w1 ⟨a1, n1, c1, rfl, hA⟩; have E1 : Hid (n1 = xs.length) := hA.len; have l1 : n1 ≤ 524288 := (by have := EA.out; have := E1.out; omega); have hb1 := rd_keep hb hA.grown)
      | (go_at_call_of 9 (Value.slice b lb cb); refine (clone_any b lb cb ys w1 EB.out.1 (by have := EB.out.2; omega) hb1).mono ?_; rintro e w2 ⟨a2, n2, c2, rfl, hB⟩; have E2 : Hid (n2 = ys.length) := hB.len; have l2 : n2 ≤ 524288 := (by have := EB.out; have := E2.out; omega); have hA2 := hA.keep hB.grown)
      | (at_make; refine wpList_make_own _ rfl (.const (.int .i64 0)) (.tmp 28) 22 rfl 0 5 i0 (.int .u8 0) 1 Trym.underlying22 hi hz0 hz1 _ _ _ (n1 + n2) rfl rfl (by omega) (by rw [hz2]; omega) (by unfold maxLen; omega) (Nat.zero_le _) ?_; intro w3 hown3 hg3; have hO3 : Own w2 none w3 (.slice (some ⟨w2.heap.size, 0, none⟩) 0 (n1 + n2)) [] := ⟨hown3, hg3, fun g hg => (by cases hg; exact Or.inl (Nat.le_refl _))⟩)
      | (at_builtin; refine wpList_append_any rfl (.tmp 30) (.tmp 31) rfl w2 none _ [] rfl hO3 _ _ _ xs rfl E1.out (own_rd (keep2 hA2 hg3)) (by have := E1.out; simp; omega) ?_; intro ao4 n4 c4 w4 hO4)
      | (at_builtin; refine wpList_append_any rfl (.tmp 33) (.tmp 34) rfl w2 none _ ([] ++ xs) rfl hO4 _ _ _ ys rfl E2.out (own_rd (hB.keep hO4.grown)) (by have := E1.out; have := E2.out; simp; omega) ?_; intro ao5 n5 c5 w5 hO5))
    have lx : xs.length ≤ 524288 := by have := EA.out; omega
    have ly : ys.length ≤ 524288 := by have := EB.out; omega
    have LXY : Hid (xs.length ≤ 524288 ∧ ys.length ≤ 524288) := ⟨lx, ly⟩
    clear lx ly t1 t2
    go_wp2_with (first
      | (go_at_call_of 11 (Value.slice ao5 n5 c5); refine (zzapp_js ao5 n5 c5 ([] ++ xs ++ ys) w5 hO5.own (by have := LXY.out; simp; omega) (js_byte bx by_)).mono ?_; rintro e w6 ⟨gw, nw, cw, rfl, hW⟩; have hA6 := keep2 (keep2 hA2 hO5.grown) hW.grown; have hB6 := keep2 (hB.keep hO5.grown) hW.grown)
      | (go_at_call_of 11 (Value.slice a1 n1 c1); refine (zzapp_js a1 n1 c1 xs w6 hA6 (by have := LXY.out; omega) bx).mono ?_; rintro e w7 ⟨gl, nl, cl, rfl, hL⟩; have hB7 := keep2 hB6 hL.grown; obtain ⟨l2, l3, l4, l5⟩ := js_bounds hL (by have := LXY.out; omega); have L5 : Hid (nl = (js xs).length) := l5; clear l5)
      | (go_at_call_of 11 (Value.slice a2 n2 c2); refine (zzapp_js a2 n2 c2 ys w7 hB7 (by have := LXY.out; omega) by_).mono ?_; rintro e w8 ⟨gr, nr, cr, rfl, hR⟩; obtain ⟨r2, r3, r4, r5⟩ := js_bounds hR (by have := LXY.out; omega); have R5 : Hid (nr = (js ys).length) := r5; clear r5; have hcl : ¬ cl = 0 := (by omega); have hcr : ¬ cr = 1 := (by omega))
      | (at_make; refine wpList_make_own _ rfl (.const (.int .i64 0)) (.tmp 54) 22 rfl 0 5 i0 (.int .u8 0) 1 Trym.underlying22 hi hz0 hz1 _ _ _ (nl + nr) rfl rfl (by omega) (by rw [hz2]; omega) (by unfold maxLen; omega) (Nat.zero_le _) ?_; intro w9 hown9 hg9; have hO9 : Own w8 none w9 (.slice (some ⟨w8.heap.size, 0, none⟩) 0 (nl + nr)) [] := ⟨hown9, hg9, fun g hg => (by cases hg; exact Or.inl (Nat.le_refl _))⟩)
      | (at_builtin; refine wpList_append_any rfl (.tmp 56) (.tmp 61) rfl w8 none _ [] rfl hO9 _ _ _ ([34] ++ esc xs) rfl (by rw [← js_front xs L5.out, seg_len _ (by omega) (by rw [← L5.out]; omega)]; omega) (by rw [← js_front xs L5.out]; exact rd_seg (keep2 (hL.keep hR.grown) hg9) (by omega) (by rw [← L5.out]; omega) _) (by have := LXY.out; have := esc_len xs; simp; omega) ?_; intro ao10 n10 c10 w10 hO10)
      | (at_builtin; refine wpList_append_any rfl (.tmp 63) (.tmp 65) rfl w8 none _ ([] ++ ([34] ++ esc xs)) rfl hO10 _ _ _ (esc ys ++ [34]) rfl (by rw [← js_back ys R5.out, seg_len _ (by omega) (by rw [← R5.out]; omega)]) (by rw [← js_back ys R5.out]; exact rd_seg (hR.keep hO10.grown) (by omega) (by rw [← R5.out]; omega) _) (by have := LXY.out; have := esc_len xs; have := esc_len ys; simp; omega) ?_; intro ao11 n11 c11 w11 hO11)
      | (go_at_call 12; refine (equal_any _ _ _ _ _ _ (js ([] ++ xs ++ ys)) w11 (by have := LXY.out; have := js_len ([] ++ xs ++ ys); simp at this; simp; omega) hW.len (by rw [hO11.len, ← js_split]; rfl) (own_rd (keep2 (keep2 (hW.keep hL.grown) hR.grown) hO11.grown)) (by have h := own_rd hO11.own; rw [← js_split] at h; exact h)).mono ?_; rintro e w12 ⟨rfl, hg12⟩))
    go_ret
    exact ⟨rfl, (((((((hA.grown.trans hB.grown).trans hO5.grown).trans hW.grown).trans hL.grown).trans hR.grown).trans hO11.grown).trans hg12)⟩

set_option maxHeartbeats 400000 in
theorem piece_any (a : Option Addr) (la ca : Nat) (xs : List Int) (b : Option Addr) (lb cb : Nat) (ys : List Int) (w : World) (ea : la = xs.length) (eb : lb = ys.length) (ha : RdV w a ca xs) (hb : RdV w b cb ys)
    (bx : ∀ y ∈ xs, 0 ≤ y ∧ y ≤ 255) (by_ : ∀ y ∈ ys, 0 ≤ y ∧ y ≤ 255) :
    Calls Trym.prog 4 #[.slice a la ca, .slice b lb cb] w fun e w' => e = .returned (.bool true) ∧ w.grownBy w' none := by
  by_cases h1 : la ≤ 524288
  · by_cases h2 : lb ≤ 524288
    · exact piece_short a la ca xs b lb cb ys w ea eb ha hb h1 h2 bx by_
    · have t1 : decide ((524288 : Int) < (la : Int)) = false := by simp; omega
      have t2 : decide ((524288 : Int) < (lb : Int)) = true := by simp; omega
      clear ea eb h1 h2
      go_enter Trym.func4, Trym.ntmps4
      go_wp2_with (go_at_call 13; refine (bytes13 a b la lb ca cb w).mono ?_; rintro e w' ⟨⟨b1, rfl⟩, hw⟩; subst w'; cases b1)
      all_goals
        go_ret
        exact ⟨rfl, World.grownBy.refl _ _⟩
  · have t1 : decide ((524288 : Int) < (la : Int)) = true := by simp; omega
    clear ea eb h1
    go_enter Trym.func4, Trym.ntmps4
    go_wp2_with (go_at_call 13; refine (bytes13 a b la lb ca cb w).mono ?_; rintro e w' ⟨⟨b1, rfl⟩, hw⟩; subst w'; cases b1)
    all_goals
      go_ret
      exact ⟨rfl, World.grownBy.refl _ _⟩

end Go.Proofs.Qxb6604100aMods
