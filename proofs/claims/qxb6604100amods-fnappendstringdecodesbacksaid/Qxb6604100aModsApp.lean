/-
  THE WALK: appendString (25).
-/
import Derived.Test.Qxb6604100aModsLeaf
import Derived.Deep.RegionLaw
namespace Go.Proofs.Qxb6604100aMods
open Go.RowKit
set_option linter.unusedVariables false

theorem esc1_plain {c : Int} (h0 : 32 ≤ c) (h1 : c ≠ 34) (h2 : c ≠ 92) : esc1 c = [c] := by
  unfold esc1
  rw [if_neg (by omega), if_neg (by omega), if_neg (by omega), if_neg (by omega)]
theorem esc1_two {c : Int} (h : c = 34 ∨ c = 92) : esc1 c = [92, c] := by
  unfold esc1
  rw [if_pos h]
theorem esc1_nl : esc1 10 = [92, 110] := by decide
theorem esc1_tab : esc1 9 = [92, 116] := by decide
theorem esc1_hex {c : Int} (h : c < 32) (h1 : c ≠ 10) (h2 : c ≠ 9) : esc1 c = [92, 117, 48, 48, hexd (c / 16), hexd (c % 16)] := by
  unfold esc1
  rw [if_neg (by omega), if_neg (by omega), if_neg (by omega), if_pos h]

theorem small_cases {y : Int} (h0 : 0 ≤ y) (h1 : y < 32) : ∃ n : Nat, n < 32 ∧ y = n := ⟨y.toNat, by omega, by omega⟩

theorem and15 {y : Int} (h0 : 0 ≤ y) (h1 : y < 32) : bits BinOp.and IntKind.u8 y 15 = y % 16 := by
  obtain ⟨n, hn, rfl⟩ := small_cases h0 h1
  have h : ∀ n : Fin 32, bits BinOp.and IntKind.u8 ((n.val : Nat) : Int) 15 = ((n.val : Nat) : Int) % 16 := by decide
  exact h ⟨n, hn⟩

/-- the table of digits -/
theorem digit_at {d : Int} (h0 : 0 ≤ d) (h1 : d < 16) (hp : d.toNat < ByteArray.size ⟨#[48, 49, 50, 51, 52, 53, 54, 55, 56, 57, 97, 98, 99, 100, 101, 102]⟩) :
    (((⟨#[48, 49, 50, 51, 52, 53, 54, 55, 56, 57, 97, 98, 99, 100, 101, 102]⟩ : ByteArray)[d.toNat]'hp).toNat : Int) = hexd d := by
  obtain ⟨n, hn, rfl⟩ : ∃ n : Nat, n < 16 ∧ d = n := ⟨d.toNat, by omega, by omega⟩
  have h : ∀ n : Fin 16, (((⟨#[48, 49, 50, 51, 52, 53, 54, 55, 56, 57, 97, 98, 99, 100, 101, 102]⟩ : ByteArray)[n.val]'(n.isLt)).toNat : Int) = hexd ((n.val : Nat) : Int) := by decide
  exact h ⟨n, hn⟩

/-- a part of a slice of the call's own -/
theorem rd_seg {w : World} {g len cap t k : Nat} {ys : List Int} (h : w.ownsRow 0 5 1 (.slice (some ⟨g, 0, none⟩) len cap) ys.length (bys ys)) (htk : t ≤ k) (hk : k ≤ ys.length) (c : Nat) : RdV w (some ⟨g, t, none⟩) c (seg ys t k) := by
  refine Or.inr ⟨_, rfl, fun j u hu => ?_⟩
  have hj : j < k - t := by
    have := (List.getElem?_eq_some_iff.1 hu).1
    simp [seg_len ys htk hk] at this
    exact this
  have hu' : u = .int .u8 (ys.getD (t + j) 0) := by
    rw [← seg_at ys hj]
    have e : (bys (seg ys t k))[j]? = some (.int .u8 ((seg ys t k).getD j 0)) := by
      have : j < (seg ys t k).length := by rw [seg_len ys htk hk]; exact hj
      simp [bys, List.getD, this]
    rw [e] at hu
    exact (Option.some.inj hu).symm
  rw [add_at, hu']
  have := h.cells rfl (t + j) (.int .u8 (ys.getD (t + j) 0)) (by
    have : t + j < ys.length := by omega
    simp [bys, List.getD, this])
  rw [add_at] at this
  simpa using this

set_option maxRecDepth 100000 in
set_option maxHeartbeats 1600000 in
theorem app_some (oa : Option Addr) (on oc : Nat) (xs : List Int) (sb len cap : Nat) (ys : List Int) (w : World) (hO : w.ownsRow 0 5 1 (.slice oa on oc) xs.length (bys xs)) (hS : w.ownsRow 0 5 1 (.slice (some ⟨sb, 0, none⟩) len cap) ys.length (bys ys))
    (hl : len = ys.length) (hlc : len ≤ cap) (hne : Value.ownBlock (.slice oa on oc) ≠ some sb) (hsz : xs.length + 6 * ys.length ≤ 1000000000) (hby : ∀ y ∈ ys, 0 ≤ y ∧ y ≤ 255) :
    Calls Trym.prog 25 #[.slice oa on oc, .slice (some ⟨sb, 0, none⟩) len cap] w fun e w' => Res w (Value.ownBlock (.slice oa on oc)) w' (xs ++ [34] ++ esc ys ++ [34]) e := by
  obtain ⟨row0, hrow⟩ : ∃ row0, row0 = Value.ownBlock (.slice oa on oc) := ⟨_, rfl⟩
  rw [← hrow]
  have hO0 : Own w row0 w (.slice oa on oc) xs := ⟨hO, World.grownBy.refl _ _, fun g hg => Or.inr (by rw [hrow]; exact hg)⟩
  have hsb : sb < w.heap.size := (hS.lt sb rfl).2
  have HN : Hid (row0 ≠ some sb) := by rw [hrow]; exact hne
  have HL : Hid (len = ys.length) := hl
  have hlen : len ≤ 1000000000 := by omega
  have HS : Hid (w.ownsRow 0 5 1 (.slice (some ⟨sb, 0, none⟩) len cap) ys.length (bys ys)) := hS
  clear hrow hO hne hl hS
  go_enter Trym.func25, Trym.ntmps25
  go_wp2_with (at_builtin; refine wpList_append_any rfl (.tmp 8) (.tmp 9) rfl w row0 _ xs rfl (hO0.alloc _) _ 1 1 [34] rfl rfl (rd_lit _ [34] 1) (by simp; omega) ?_; intro oa1 n1 c1 w1 hO1)
  go_loopw [0, 5, 13] (fun out st ix wr => ∃ (k t : Nat) (ao : Option Addr) (n c : Nat) (cur : List Int), k ≤ len ∧ t ≤ k ∧ ix = .int .i64 k ∧ st = .int .i64 t ∧ out = .slice ao n c ∧ Own w row0 wr (.slice ao n c) cur ∧ Sofar (xs ++ [34]) ys cur t k) (fun _ _ i _ => len - (intOf i).toNat)
  case atStart => exact ⟨0, 0, _, _, _, _, Nat.zero_le _, Nat.le_refl _, rfl, rfl, rfl, hO1, sofar_zero _ _⟩
  case round =>
    obtain ⟨k, t, ao, n, c, cur, hk, htk, rfl, rfl, rfl, hOr, hsf⟩ := hrel
    have hSr := HS.out.kept hOr.grown (Or.inr (fun e => HN.out e.symm))
    have HSr : Hid (wr.ownsRow 0 5 1 (.slice (some ⟨sb, 0, none⟩) len cap) ys.length (bys ys)) := hSr
    have hcl : cur.length + (seg ys t k).length ≤ xs.length + 1 + 6 * ys.length := by have := sofar_len hsf (by rw [← HL.out]; exact hk); simpa using this
    have hsl : (seg ys t k).length = k - t := seg_len ys htk (by rw [← HL.out]; exact hk)
    have HSG : Hid ((seg ys t k).length = k - t ∧ cur.length + (seg ys t k).length ≤ xs.length + 1 + 6 * ys.length) := ⟨hsl, hcl⟩
    clear hSr hsl hcl
    by_cases hlt : k < len
    · have hlt' : k < ys.length := by rw [← HL.out]; exact hlt
      obtain ⟨y, hy⟩ : ∃ y, y = ys.getD k 0 := ⟨_, rfl⟩
      have hyb : 0 ≤ y ∧ y ≤ 255 := by rw [hy]; exact hby _ (by simp [List.getD, hlt'])
      obtain ⟨hy0, hy1⟩ := hyb
      have hcell : wr.cell? ⟨sb, k, none⟩ = some (.int .u8 y) := by
        rw [hy]
        have h1 := HSr.out.cells rfl k (.int .u8 (ys.getD k 0)) (by simp [bys, List.getD, hlt'])
        rw [add_at] at h1
        simpa using h1
      have HY : Hid (y = ys.getD k 0) := hy
      clear hy
      have hct : ¬ cap = t := by omega
      have hbig : 140737488355328 < 9223372036854775807 := by omega
      by_cases hp : 32 ≤ y ∧ y ≠ 34 ∧ y ≠ 92
      · obtain ⟨p0, p1, p2⟩ := hp
        have q1 : (y != 34) = true := by simpa using p1
        have q2 : (y != 92) = true := by simpa using p2
        go_wp2
        go_roundw
        case rel => exact ⟨k + 1, t, _, _, _, cur, by omega, by omega, by go_num, rfl, rfl, hOr, sofar_plain hsf htk hlt' (by rw [← HY.out]; exact esc1_plain p0 p1 p2)⟩
        case measure => simp [intOf]; omega
      · have hk' : k ≤ ys.length := by omega
        by_cases hq : y = 34
        · subst hq
          go_wp2_with (first
            | (at_builtin; refine wpList_append_any rfl (.tmp 28) (.tmp 32) rfl w row0 _ cur rfl hOr _ _ _ (seg ys t k) rfl HSG.out.1.symm (rd_seg HSr.out htk hk' _) (by have := HSG.out.2; omega) ?_; intro ao1 n1 c1 w1 hO1)
            | (at_builtin; refine wpList_append_any rfl (.tmp 47) (.tmp 49) rfl w row0 _ (cur ++ seg ys t k) rfl (hO1.alloc _) _ 2 2 [92, 34] rfl rfl (rd_lit _ [92, 34] 2) (by have := HSG.out.2; simp only [List.length_append, List.length_cons, List.length_nil]; omega) ?_; intro ao2 n2 c2 w2 hO2))
          go_roundw
          case rel => exact ⟨k + 1, k + 1, _, _, _, _, by omega, by omega, by go_num, by go_num, rfl, hO2, by have h := sofar_special hsf hlt'; rw [← HY.out, esc1_two (Or.inl rfl)] at h; exact h⟩
          case measure => simp [intOf]; omega
        · by_cases hq2 : y = 92
          · subst hq2
            go_wp2_with (first
              | (at_builtin; refine wpList_append_any rfl (.tmp 28) (.tmp 32) rfl w row0 _ cur rfl hOr _ _ _ (seg ys t k) rfl HSG.out.1.symm (rd_seg HSr.out htk hk' _) (by have := HSG.out.2; omega) ?_; intro ao1 n1 c1 w1 hO1)
              | (at_builtin; refine wpList_append_any rfl (.tmp 47) (.tmp 49) rfl w row0 _ (cur ++ seg ys t k) rfl (hO1.alloc _) _ 2 2 [92, 92] rfl rfl (rd_lit _ [92, 92] 2) (by have := HSG.out.2; simp only [List.length_append, List.length_cons, List.length_nil]; omega) ?_; intro ao2 n2 c2 w2 hO2))
            go_roundw
            case rel => exact ⟨k + 1, k + 1, _, _, _, _, by omega, by omega, by go_num, by go_num, rfl, hO2, by have h := sofar_special hsf hlt'; rw [← HY.out, esc1_two (Or.inr rfl)] at h; exact h⟩
            case measure => simp [intOf]; omega
          · by_cases hq3 : y = 10
            · subst hq3
              go_wp2_with (first
                | (at_builtin; refine wpList_append_any rfl (.tmp 28) (.tmp 32) rfl w row0 _ cur rfl hOr _ _ _ (seg ys t k) rfl HSG.out.1.symm (rd_seg HSr.out htk hk' _) (by have := HSG.out.2; omega) ?_; intro ao1 n1 c1 w1 hO1)
                | (at_builtin; refine wpList_append_any rfl (.tmp 53) (.tmp 54) rfl w row0 _ (cur ++ seg ys t k) rfl (hO1.alloc _) _ 2 2 [92, 110] rfl rfl (rd_lit _ [92, 110] 2) (by have := HSG.out.2; simp only [List.length_append, List.length_cons, List.length_nil]; omega) ?_; intro ao2 n2 c2 w2 hO2))
              go_roundw
              case rel => exact ⟨k + 1, k + 1, _, _, _, _, by omega, by omega, by go_num, by go_num, rfl, hO2, by have h := sofar_special hsf hlt'; rw [← HY.out, esc1_nl] at h; exact h⟩
              case measure => simp [intOf]; omega
            · by_cases hq4 : y = 9
              · subst hq4
                go_wp2_with (first
                  | (at_builtin; refine wpList_append_any rfl (.tmp 28) (.tmp 32) rfl w row0 _ cur rfl hOr _ _ _ (seg ys t k) rfl HSG.out.1.symm (rd_seg HSr.out htk hk' _) (by have := HSG.out.2; omega) ?_; intro ao1 n1 c1 w1 hO1)
                  | (at_builtin; refine wpList_append_any rfl (.tmp 58) (.tmp 59) rfl w row0 _ (cur ++ seg ys t k) rfl (hO1.alloc _) _ 2 2 [92, 116] rfl rfl (rd_lit _ [92, 116] 2) (by have := HSG.out.2; simp only [List.length_append, List.length_cons, List.length_nil]; omega) ?_; intro ao2 n2 c2 w2 hO2))
                go_roundw
                case rel => exact ⟨k + 1, k + 1, _, _, _, _, by omega, by omega, by go_num, by go_num, rfl, hO2, by have h := sofar_special hsf hlt'; rw [← HY.out, esc1_tab] at h; exact h⟩
                case measure => simp [intOf]; omega
              · have hq5 : y < 32 := by omega
                have b1 : (y == 34) = false := by simpa using hq
                have b2 : (y == 92) = false := by simpa using hq2
                have b3 : (y == 10) = false := by simpa using hq3
                have b4 : (y == 9) = false := by simpa using hq4
                go_wp2_with (at_builtin; refine wpList_append_any rfl (.tmp 28) (.tmp 32) rfl w row0 _ cur rfl hOr _ _ _ (seg ys t k) rfl HSG.out.1.symm (rd_seg HSr.out htk hk' _) (by have := HSG.out.2; omega) ?_; intro ao1 n1 c1 w1 hO1)
                have d0 : 0 ≤ y / 16 := by omega
                have d1 : y / 16 < 16 := by omega
                have e0 : 0 ≤ y % 16 := by omega
                have e1 : y % 16 < 16 := by omega
                have hand : bits BinOp.and IntKind.u8 y 15 = y % 16 := and15 hy0 hq5
                go_region_law ((refine step_append_any rfl (.tmp 35) (.tmp 42) rfl w row0 _ (cur ++ seg ys t k) (by rfl) (hO1.drew.alloc _) _ 6 6 [92, 117, 48, 48, _, _] (by rfl) (by rfl) (rd_lit _ _ 6) (by have := HSG.out.2; simp only [List.length_append, List.length_cons, List.length_nil]; omega) ?_; intro ao2 n2 c2 w2 hO2))
                all_goals
                  go_wp2
                  go_roundw
                  case rel =>
                    rw [digit_at d0 d1, digit_at e0 e1] at hO2
                    exact ⟨k + 1, k + 1, _, _, _, _, by omega, by omega, by go_num, by go_num, rfl, hO2, by have h := sofar_special hsf hlt'; rw [← HY.out, esc1_hex hq5 hq3 hq4] at h; exact h⟩
                  case measure => simp [intOf]; omega
    · have e : k = len := by omega
      subst e
      by_cases hct : cap = t
      · subst hct
        go_wp2_with (first
          | (at_builtin; refine wpList_append_any rfl (.tmp 64) (.tmp 67) rfl w row0 _ cur rfl hOr _ _ _ (seg ys cap k) rfl (by have := HSG.out.1; omega) (Or.inr ⟨_, rfl, fun j u hu => absurd (List.getElem?_eq_some_iff.1 hu).1 (by simp [seg]; omega)⟩) (by have := HSG.out.2; omega) ?_; intro ao1 n1 c1 w1 hO1)
          | (at_builtin; refine wpList_append_any rfl (.tmp 69) (.tmp 70) rfl w row0 _ (cur ++ seg ys cap k) rfl (hO1.alloc _) _ 1 1 [34] rfl rfl (rd_lit _ [34] 1) (by have := HSG.out.2; simp only [List.length_append, List.length_cons, List.length_nil]; omega) ?_; intro ao2 n2 c2 w2 hO2))
        go_ret
        have e2 := HL.out
        subst e2
        rw [sofar_end hsf] at hO2
        exact ⟨_, _, _, rfl, hO2⟩
      · go_wp2_with (first
          | (at_builtin; refine wpList_append_any rfl (.tmp 64) (.tmp 67) rfl w row0 _ cur rfl hOr _ _ _ (seg ys t k) rfl (by have := HSG.out.1; omega) (rd_seg HSr.out htk (by rw [← HL.out]; exact Nat.le_refl _) _) (by have := HSG.out.2; omega) ?_; intro ao1 n1 c1 w1 hO1)
          | (at_builtin; refine wpList_append_any rfl (.tmp 69) (.tmp 70) rfl w row0 _ (cur ++ seg ys t k) rfl (hO1.alloc _) _ 1 1 [34] rfl rfl (rd_lit _ [34] 1) (by have := HSG.out.2; simp only [List.length_append, List.length_cons, List.length_nil]; omega) ?_; intro ao2 n2 c2 w2 hO2))
        go_ret
        have e2 := HL.out
        subst e2
        rw [sofar_end hsf] at hO2
        exact ⟨_, _, _, rfl, hO2⟩

end Go.Proofs.Qxb6604100aMods
