/-
  THE WALK: decodeJSONString (23) at a JSON string.
-/
import Derived.Test.Qxb6604100aModsDec
namespace Go.Proofs.Qxb6604100aMods
open Go.RowKit
set_option linter.unusedVariables false

/-- a slice of the call's own and 'true' came back -/
def ResOk (w0 : World) (w' : World) (xs : List Int) (e : Ending) : Prop :=
  ∃ ao n c, e = .returned (.tuple #[.slice ao n c, .bool true]) ∧ Own w0 none w' (.slice ao n c) xs

set_option maxRecDepth 100000 in
set_option maxHeartbeats 3200000 in
theorem decode_some (g off n cp : Nat) (ys : List Int) (w : World) (hn : n = (js ys).length) (hsz : ys.length ≤ 1048576) (hby : ∀ y ∈ ys, 0 ≤ y ∧ y ≤ 255)
    (hc : ∀ j, j < n → w.cell? ⟨g, off + j, none⟩ = some (.int .u8 ((js ys).getD j 0))) :
    Calls Trym.prog 23 #[.slice (some ⟨g, off, none⟩) n cp] w fun e w' => ResOk w w' ys e := by
  obtain ⟨i0, hi, hz0, hz1, hz2⟩ := info_parts Trym.info5
  have hjl := js_len ys
  have hn2 : 2 ≤ n := by omega
  have hn7 : n ≤ 10000000 := by omega
  have hg : g < w.heap.size := World.block_lt_of_cell? _ _ (hc 0 (by omega))
  have hc0 : w.cell? ⟨g, off, none⟩ = some (.int .u8 34) := by have h := hc 0 (by omega); rw [js_first] at h; exact h
  have HC : Hid (∀ j, j < n → w.cell? ⟨g, off + j, none⟩ = some (.int .u8 ((js ys).getD j 0))) := hc
  have HN : Hid (n = (js ys).length) := hn
  have t0 : decide ((n : Int) < 2) = false := by simp; omega
  clear hc hn hjl
  go_enter Trym.func23, Trym.ntmps23
  go_wp2_with (at_make; refine wpList_make_own _ rfl (.const (.int .i64 0)) (.tmp 22) 22 rfl 0 5 i0 (.int .u8 0) 1 Trym.underlying22 hi hz0 hz1 _ _ _ n rfl rfl rfl (by rw [hz2]; omega) (by unfold maxLen; omega) (Nat.zero_le _) ?_; intro w1 hown1 hg1; have hO1 : Own w none w1 (.slice (some ⟨w.heap.size, 0, none⟩) 0 n) [] := ⟨hown1, hg1, fun g hg => (by cases hg; exact Or.inl (Nat.le_refl _))⟩)
  go_loopw [4, 5] (fun v i wr => ∃ (k p : Nat) (ao : Option Addr) (m c : Nat), k ≤ ys.length ∧ Hid (p = pos ys k) ∧ i = .int .i64 p ∧ v = .slice ao m c ∧ Own w none wr (.slice ao m c) (ys.take k)) (fun _ i _ => n - (intOf i).toNat)
  case atStart => exact ⟨0, 1, _, _, _, Nat.zero_le _, (pos_zero ys).symm, rfl, rfl, hO1⟩
  case round =>
    obtain ⟨k, p, ao, m, c, hk, HP, rfl, rfl, hO⟩ := hrel
    have hcr : ∀ j, j < n → wr.cell? ⟨g, off + j, none⟩ = some (.int .u8 ((js ys).getD j 0)) := fun j hj => hO.grown.cell (HC.out j hj) (by simp)
    have HCR : Hid (∀ j, j < n → wr.cell? ⟨g, off + j, none⟩ = some (.int .u8 ((js ys).getD j 0))) := hcr
    clear hcr
    by_cases hlt : k < ys.length
    · have hfit := js_fits ys hlt
      obtain ⟨y, hy⟩ : ∃ y, y = ys.getD k 0 := ⟨_, rfl⟩
      have hyb : 0 ≤ y ∧ y ≤ 255 := by rw [hy]; exact hby _ (by simp [List.getD, hlt])
      obtain ⟨hy0, hy1⟩ := hyb
      have HY : Hid (y = ys.getD k 0) := hy
      have hnext : Hid (pos ys (k + 1) = p + (esc1 y).length) := by rw [HP.out, hy]; exact pos_succ ys hlt
      have hroom : p + (esc1 y).length < n := by rw [HP.out, HN.out, hy]; exact hfit
      have hat : Hid (∀ j, j < (esc1 y).length → wr.cell? ⟨g, off + (p + j), none⟩ = some (.int .u8 ((esc1 y).getD j 0))) := by
        intro j hj
        rw [HCR.out (p + j) (by omega), HP.out, hy, js_at ys hlt (by rw [← hy]; exact hj)]
      clear hy hfit
      have hel := esc1_len y
      by_cases hp : 32 ≤ y ∧ y ≠ 34 ∧ y ≠ 92
      · obtain ⟨p0, p1, p2⟩ := hp
        have hE := esc1_plain p0 p1 p2
        have HE : Hid (esc1 y = [y]) := hE
        have hc1 : wr.cell? ⟨g, off + p, none⟩ = some (.int .u8 y) := by have h := hat.out 0 (by rw [HE.out]; simp); rw [HE.out] at h; exact h
        have hp1 : p + 1 < n := by rw [HE.out] at hroom; exact hroom
        clear hE hroom hel
        have q1 : (y == 34) = false := by simpa using p1
        have q2 : (y != 92) = true := by simpa using p2
        go_wp2_with (at_builtin; refine wpList_append_any rfl (.tmp 44) (.tmp 46) rfl w none _ (ys.take k) rfl (hO.alloc _) _ 1 1 [y] rfl rfl (rd_lit _ [y] 1) (by simp; omega) ?_; intro ao2 n2 c2 w2 hO2)
        go_roundw
        case rel => exact ⟨k + 1, p + 1, _, _, _, by omega, (by have h := hnext.out; rw [HE.out] at h; exact h.symm), by go_num, rfl, by rw [take_snoc ys hlt, ← HY.out]; exact hO2⟩
        case measure => simp [intOf]; omega
      · by_cases hq : y = 34
        · subst hq
          have HE : Hid (esc1 34 = [92, 34]) := esc1_two (Or.inl rfl)
          have hc1 : wr.cell? ⟨g, off + p, none⟩ = some (.int .u8 92) := by have h := hat.out 0 (by rw [HE.out]; simp); rw [HE.out] at h; exact h
          have hc2 : wr.cell? ⟨g, off + (p + 1), none⟩ = some (.int .u8 34) := by have h := hat.out 1 (by rw [HE.out]; simp); rw [HE.out] at h; exact h
          have hp1 : p + 2 < n := by rw [HE.out] at hroom; exact hroom
          clear hroom hel
          go_wp2_with (at_builtin; refine wpList_append_any rfl (.tmp 65) (.tmp 67) rfl w none _ (ys.take k) rfl (hO.alloc _) _ 1 1 [34] rfl rfl (rd_lit _ [34] 1) (by simp; omega) ?_; intro ao2 n2 c2 w2 hO2)
          go_roundw
          case rel => exact ⟨k + 1, p + 2, _, _, _, by omega, (by have h := hnext.out; rw [HE.out] at h; exact h.symm), by go_num, rfl, by rw [take_snoc ys hlt, ← HY.out]; exact hO2⟩
          case measure => simp [intOf]; omega
        · by_cases hq2 : y = 92
          · subst hq2
            have HE : Hid (esc1 92 = [92, 92]) := esc1_two (Or.inr rfl)
            have hc1 : wr.cell? ⟨g, off + p, none⟩ = some (.int .u8 92) := by have h := hat.out 0 (by rw [HE.out]; simp); rw [HE.out] at h; exact h
            have hc2 : wr.cell? ⟨g, off + (p + 1), none⟩ = some (.int .u8 92) := by have h := hat.out 1 (by rw [HE.out]; simp); rw [HE.out] at h; exact h
            have hp1 : p + 2 < n := by rw [HE.out] at hroom; exact hroom
            clear hroom hel
            go_wp2_with (at_builtin; refine wpList_append_any rfl (.tmp 65) (.tmp 67) rfl w none _ (ys.take k) rfl (hO.alloc _) _ 1 1 [92] rfl rfl (rd_lit _ [92] 1) (by simp; omega) ?_; intro ao2 n2 c2 w2 hO2)
            go_roundw
            case rel => exact ⟨k + 1, p + 2, _, _, _, by omega, (by have h := hnext.out; rw [HE.out] at h; exact h.symm), by go_num, rfl, by rw [take_snoc ys hlt, ← HY.out]; exact hO2⟩
            case measure => simp [intOf]; omega
          · by_cases hq3 : y = 10
            · subst hq3
              have HE : Hid (esc1 10 = [92, 110]) := esc1_nl
              have hc1 : wr.cell? ⟨g, off + p, none⟩ = some (.int .u8 92) := by have h := hat.out 0 (by rw [HE.out]; simp); rw [HE.out] at h; exact h
              have hc2 : wr.cell? ⟨g, off + (p + 1), none⟩ = some (.int .u8 110) := by have h := hat.out 1 (by rw [HE.out]; simp); rw [HE.out] at h; exact h
              have hp1 : p + 2 < n := by rw [HE.out] at hroom; exact hroom
              clear hroom hel
              go_wp2_with (at_builtin; refine wpList_append_any rfl (.tmp 81) (.tmp 82) rfl w none _ (ys.take k) rfl (hO.alloc _) _ 1 1 [10] rfl rfl (rd_lit _ [10] 1) (by simp; omega) ?_; intro ao2 n2 c2 w2 hO2)
              go_roundw
              case rel => exact ⟨k + 1, p + 2, _, _, _, by omega, (by have h := hnext.out; rw [HE.out] at h; exact h.symm), by go_num, rfl, by rw [take_snoc ys hlt, ← HY.out]; exact hO2⟩
              case measure => simp [intOf]; omega
            · by_cases hq4 : y = 9
              · subst hq4
                have HE : Hid (esc1 9 = [92, 116]) := esc1_tab
                have hc1 : wr.cell? ⟨g, off + p, none⟩ = some (.int .u8 92) := by have h := hat.out 0 (by rw [HE.out]; simp); rw [HE.out] at h; exact h
                have hc2 : wr.cell? ⟨g, off + (p + 1), none⟩ = some (.int .u8 116) := by have h := hat.out 1 (by rw [HE.out]; simp); rw [HE.out] at h; exact h
                have hp1 : p + 2 < n := by rw [HE.out] at hroom; exact hroom
                clear hroom hel
                go_wp2_with (at_builtin; refine wpList_append_any rfl (.tmp 91) (.tmp 92) rfl w none _ (ys.take k) rfl (hO.alloc _) _ 1 1 [9] rfl rfl (rd_lit _ [9] 1) (by simp; omega) ?_; intro ao2 n2 c2 w2 hO2)
                go_roundw
                case rel => exact ⟨k + 1, p + 2, _, _, _, by omega, (by have h := hnext.out; rw [HE.out] at h; exact h.symm), by go_num, rfl, by rw [take_snoc ys hlt, ← HY.out]; exact hO2⟩
                case measure => simp [intOf]; omega
              · have hq5 : y < 32 := by omega
                have HE : Hid (esc1 y = [92, 117, 48, 48, hexd (y / 16), hexd (y % 16)]) := esc1_hex hq5 hq3 hq4
                have hc1 : wr.cell? ⟨g, off + p, none⟩ = some (.int .u8 92) := by have h := hat.out 0 (by rw [HE.out]; simp); rw [HE.out] at h; exact h
                have hc2 : wr.cell? ⟨g, off + (p + 1), none⟩ = some (.int .u8 117) := by have h := hat.out 1 (by rw [HE.out]; simp); rw [HE.out] at h; exact h
                have hp1 : p + 6 < n := by rw [HE.out] at hroom; exact hroom
                have hcx : Hid (∀ m, m < 4 → wr.cell? ⟨g, off + (p + 2 + m), none⟩ = some (.int .u8 (hexd (dg y m)))) := by
                  intro m hm
                  have h := hat.out (2 + m) (by rw [HE.out]; simp; omega)
                  rw [hex_at hq5 hq3 hq4 hm] at h
                  rw [show p + 2 + m = p + (2 + m) by omega]
                  exact h
                clear hroom hel
                have hpn : p < n := by omega
                go_wp2
                go_loop [8, 9] (fun v i => ∃ m : Nat, m ≤ 4 ∧ i = .int .i64 ((p : Int) + 2 + m) ∧ v = .int .i64 (hv y m)) (fun _ i => p + 6 - (intOf i).toNat)
                case atStart => exact ⟨0, by omega, by simp, rfl⟩
                case round =>
                  obtain ⟨m, hm, rfl, rfl⟩ := hrel
                  by_cases hm4 : m < 4
                  · have hc3 := hcx.out m hm4
                    obtain ⟨hd0, hd1⟩ := dg_bd hy0 hq5 m
                    obtain ⟨hv0, hv1⟩ := hv_bd hy0 hq5 m
                    have hs : Hid (hv y (m + 1) = hv y m * 16 + dg y m) := hv_succ hm4
                    go_wp2_with (go_at_call 28; refine (hexValue_any (dg y m) _ hd0 hd1).mono ?_; rintro e w' ⟨rfl, hw⟩; subst w')
                    go_round
                    case rel => exact ⟨m + 1, by omega, by go_num, by rw [hs.out]⟩
                    case measure => simp [intOf]; omega
                  · have e : m = 4 := by omega
                    subst e
                    have hv4 : hv y 4 = y := rfl
                    rw [hv4]
                    clear hv4
                    go_wp2_with (at_builtin; refine wpList_append_any rfl (.tmp 125) (.tmp 128) rfl w none _ (ys.take k) rfl (hO.alloc _) _ 1 1 [y] rfl rfl (rd_lit _ [y] 1) (by simp; omega) ?_; intro ao2 n2 c2 w2 hO2)
                    go_roundw
                    case rel => exact ⟨k + 1, p + 6, _, _, _, by omega, (by have h := hnext.out; rw [HE.out] at h; exact h.symm), by go_num, rfl, by rw [take_snoc ys hlt, ← HY.out]; exact hO2⟩
                    case measure => simp [intOf]; omega
    · have e : k = ys.length := by omega
      subst e
      have hc1 : wr.cell? ⟨g, off + p, none⟩ = some (.int .u8 34) := by
        have h := HCR.out p (by rw [HN.out, js_end, HP.out]; omega)
        rw [HP.out, js_last, ← HP.out] at h
        exact h
      have hpn : (p : Int) + 1 = (n : Int) := by have := HN.out; rw [js_end, ← HP.out] at this; omega
      have hpn' : p < n := by omega
      have hpb : (((p : Int) + 1) == (n : Int)) = true := by simpa using hpn
      clear hpn
      go_wp2
      go_ret2
      refine ⟨_, _, _, rfl, ?_⟩
      rw [List.take_length] at hO
      exact hO

end Go.Proofs.Qxb6604100aMods
