/-
  THE WALK OF THE THIRD LAW: FnEndingsAddRemembersEveryEndingBelowItsBound (5).
-/
import Derived.Test.Qxb6603990aModsEnds2
import Derived.Test.Qxb6603990aModsFolds
import Derived.Deep.QuietTactic
import Derived.Deep.RegionWith
import Derived.BigQuiet
namespace Go.Proofs.Qxb6603990aMods
open Go.RowKit Go.WideMaps Go.Maps
set_option linter.unusedVariables false

theorem Ends.drew {w : World} {B k : Nat} {v : Value} {ids : List Value} {D : DataW Unit} (h : Ends w B k v ids D) : Ends w.drew B k v ids D := ⟨h.blk, h.row, h.map⟩

theorem hid_of {p : Prop} (h : p) : Hid p := h

theorem oneOn_next {w' : World} {B k : Nat} {sc : Script} (h : OneOn w' B k (idsTo sc k) (stD sc k) (idAt sc k) (stAt sc k)) : ∃ v, Ends w' B (k + 1) v (idsTo sc (k + 1)) (stD sc (k + 1)) := h

set_option maxRecDepth 100000 in
set_option maxHeartbeats 1600000 in
theorem lawends_some (b off len cap : Nat) (sc : Script) (w : World) (hl : len ≤ 65536) (hb : b < w.heap.size) (h0 : 0 < len)
    (hc : ∀ j, j < len → w.cell? ⟨b, off + j * 2, none⟩ = some (.string (idAt sc j)) ∧ w.cell? ⟨b, off + j * 2 + 1, none⟩ = some (.int .i64 (stAt sc j)))
    (hid : ∀ j, j < len → (idAt sc j).size ≤ maxLen) (hst : ∀ j, j < len → (Lit.int .i64 (stAt sc j)).wf = true) :
    Calls Trym.prog 5 #[.slice (some ⟨b, off, none⟩) len cap] w fun e w' => e = .returned (.bool true) ∧ Below w.heap.size w w' := by
  have hmm := @run_makeMap Trym.prog
  have hsv : ScrV w (some ⟨b, off, none⟩) len sc := Or.inr ⟨b, off, rfl, hb, hc⟩
  have HC : Hid (∀ j, j < len → w.cell? ⟨b, off + j * 2, none⟩ = some (.string (idAt sc j)) ∧ w.cell? ⟨b, off + j * 2 + 1, none⟩ = some (.int .i64 (stAt sc j))) := hc
  clear hc
  go_enter Trym.func5, Trym.ntmps5
  go_wp2_with (first
    | (go_at_call 9; refine (bytes_any _ len cap sc w (by omega) hsv).mono ?_; rintro e w' ⟨⟨b1, rfl⟩, hw⟩; subst w'; cases b1)
    | (go_at_call 10; refine (okends_any _ len cap sc _ (by omega) hsv).mono ?_; rintro e w' ⟨⟨b2, rfl⟩, hw⟩; subst w'; cases b2)
    | (go_at_call 11; refine (new_any _).mono ?_; rintro e w1 ⟨rfl, hE0, hB0⟩))
  · go_ret
    exact ⟨rfl, Below.refl _ _⟩
  · go_ret
    exact ⟨rfl, Below.refl _ _⟩
  · clear hsv
    go_loopw [4] (fun i wr => ∃ (k : Nat) (v : Value), k ≤ len ∧ i = .int .i64 k ∧ Ends wr w.heap.size k v (idsTo sc k) (stD sc k) ∧ Below w.heap.size w wr) (fun i _ => len - (intOf i).toNat)
    case atStart => exact ⟨0, _, Nat.zero_le _, rfl, hE0, hB0⟩
    case round =>
      obtain ⟨k, v, hk, rfl, hE, hnx⟩ := hrel
      by_cases hlt : k < len
      · obtain ⟨s, hs⟩ : ∃ s, s = idAt sc k := ⟨_, rfl⟩
        obtain ⟨st, ht⟩ : ∃ st, st = stAt sc k := ⟨_, rfl⟩
        have hc0 : wr.cell? ⟨b, off + k * 2, none⟩ = some (.string s) := by rw [hs]; exact (hnx.cell (by exact hb)).trans (HC.out k hlt).1
        have hc1 : wr.cell? ⟨b, off + k * 2 + 1, none⟩ = some (.int .i64 st) := by rw [ht]; exact (hnx.cell (by exact hb)).trans (HC.out k hlt).2
        have hsz : s.size ≤ maxLen := by rw [hs]; exact hid k hlt
        have hwf : (Lit.int .i64 st).wf = true := by rw [ht]; exact hst k hlt
        have HS : Hid (s = idAt sc k ∧ st = stAt sc k) := ⟨hs, ht⟩
        have HE : Hid (Ends wr w.heap.size k v (idsTo sc k) (stD sc k)) := hE
        clear hs ht hE
        have hk0 : (0 : Int) ≤ (k : Int) := by omega
        have hk1 : (k : Int) < (len : Int) := by omega
        go_wp2
        go_region_with (go_at_call 12; refine (zzadd_any w.heap.size k v (idsTo sc k) (stD sc k) s st _ HE.out.drew (by omega) hsz hwf).mono ?_; rintro e w2 ⟨rfl, hon, hb2⟩)
        all_goals
          go_wp2
          go_roundw
          case rel =>
            obtain ⟨hs, ht⟩ := HS.out
            rw [hs, ht] at hon
            obtain ⟨v2, hE2⟩ := oneOn_next hon
            exact ⟨k + 1, v2, by omega, by go_num, hE2, hnx.drew.trans hb2⟩
          case measure => simp [intOf]; omega
      · have e : k = len := by omega
        subst e
        rename World => wa
        have HE : Hid (Ends wa w.heap.size k v (idsTo sc k) (stD sc k)) := hE
        have hnxH : Hid (Below w.heap.size w wa) := hnx
        clear hE hE0 hB0
        go_wp2
        go_loopw [6] (fun i wr => ∃ (m : Nat), m ≤ k ∧ i = .int .i64 m ∧ wr.ownsMap Trym.prog 9 (plainElem Trym.prog 3) wa.heap.size m (lastD sc m) ∧ Below wa.heap.size wa wr) (fun i _ => k - (intOf i).toNat)
        case atStart => exact ⟨0, Nat.zero_le _, rfl, World.ownsMap_made _ _ _ _, (Below.refl _ _).alloc (Nat.le_refl _) _⟩
        case round =>
          obtain ⟨m, hm, rfl, hown, hnq⟩ := hrel
          by_cases hlt2 : m < k
          · obtain ⟨s, hs⟩ : ∃ s, s = idAt sc m := ⟨_, rfl⟩
            have hc0 : wa.cell? ⟨b, off + m * 2, none⟩ = some (.string s) := by rw [hs]; exact (hnx.cell (by exact hb)).trans (HC.out m hlt2).1
            have hc1 := (hnq.cell (p := ⟨b, off + m * 2, none⟩) (Nat.lt_of_lt_of_le hb hnx.size)).trans hc0
            have hkey : keyOf Trym.prog 9 (.string s) = some (idKey sc m) := by rw [hs]; exact keyOf_string_mk Trym.underlying9 (hid m hlt2)
            clear hs hc0
            go_wp2_with (at_mapUpdate; refine wpList_mapUpdate_own _ rfl _ _ _ 22 rfl 9 3 law9 Trym.underlying22 _ wa.heap.size m _ rfl hown (by unfold maxLen; omega) _ _ _ rfl rfl hkey _ [] (plainElem_int Trym.underlying3 (WalkArith.wf_i64 (by omega))) ?_; intro w2 hown2 hgr2)
            go_roundw
            case rel => exact ⟨m + 1, by omega, by go_num, hown2, hnq.grown hgr2 hnq.size (fun j hj => by cases hj; exact Nat.le_refl _)⟩
            case measure => simp [intOf]; omega
          · have e : m = k := by omega
            subst e
            rename World => wb
            have hEb := HE.out.below hnq
            have hBb : Below w.heap.size w wb := hnx.trans (hnq.mono hnx.size)
            obtain ⟨g, cv, rfl⟩ : ∃ g cv, v = .slice (some ⟨g, 0, none⟩) m cv := by
              rcases hEb.row.2 with ⟨_, h⟩ | ⟨g, cv, cur, h, _⟩
              · omega
              · exact ⟨g, cv, h⟩
            have hlen := hown.len Trym.underlying22
            rw [last_size] at hlen
            have HEb : Hid (Ends wb w.heap.size m (.slice (some ⟨g, 0, none⟩) m cv) (idsTo sc m) (stD sc m)) := hEb
            have HOW : Hid (wb.ownsMap Trym.prog 9 (plainElem Trym.prog 3) wa.heap.size m (lastD sc m)) := hown
            have HBb : Hid (Below w.heap.size w wb) := hBb
            clear hEb hown hBb hnq hnx hnxH HE
            go_wp2_with (first
              | (go_at_call 13; refine (len_any _ m _ _ _ _ HEb.out).mono ?_; rintro e w' ⟨rfl, hw⟩; subst w')
              | (go_at_call 14; refine (oldest_any _ m _ _ _ _ HEb.out).mono ?_; rintro e w' ⟨rfl, hw⟩; subst w')
              | (go_at_call 15; refine (ids_any _ m cv _ _ _ _ HEb.out).mono ?_; rintro e w' ⟨rfl, hw⟩; subst w'))
            clear hlen
            go_loopw [8] (fun i wr => ∃ (j : Nat), j ≤ m ∧ i = .int .i64 j ∧ Ends wr w.heap.size m (.slice (some ⟨g, 0, none⟩) m cv) (idsTo sc m) (stD sc m) ∧ wr.ownsMap Trym.prog 9 (plainElem Trym.prog 3) wa.heap.size m (lastD sc m) ∧ Below w.heap.size w wr) (fun i _ => m - (intOf i).toNat)
            case atStart => exact ⟨0, Nat.zero_le _, rfl, HEb.out, HOW.out, HBb.out⟩
            case round =>
              obtain ⟨j, hj, rfl, hE, hown, hnx⟩ := hrel
              by_cases hlt3 : j < m
              · obtain ⟨hhas, jl, hjl, hv1, hv2⟩ := last_found sc hlt3
                obtain ⟨s, hs⟩ : ∃ s, s = idAt sc j := ⟨_, rfl⟩
                obtain ⟨x, hx⟩ : ∃ x, x = stAt sc jl := ⟨_, rfl⟩
                have hc0 : wr.cell? ⟨b, off + j * 2, none⟩ = some (.string s) := by rw [hs]; exact (hnx.cell (by exact hb)).trans (HC.out j hlt3).1
                have hc1 : wr.cell? ⟨b, off + jl * 2 + 1, none⟩ = some (.int .i64 x) := by rw [hx]; exact (hnx.cell (by exact hb)).trans (HC.out jl hjl).2
                have hc2 : wr.cell? ⟨g, j, none⟩ = some (.string s) := by rw [hs, hE.row.cellAt j (by omega)]; exact idsTo_at sc hlt3
                have hsz : s.size ≤ maxLen := by rw [hs]; exact hid j hlt3
                have hkey : keyOf Trym.prog 9 (.string s) = some (idKey sc j) := by rw [hs]; exact keyOf_string_mk Trym.underlying9 (hid j hlt3)
                have hmv : MapV wr.drew (some wa.heap.size) m (lastD sc m) := Or.inr ⟨_, rfl, hown⟩
                have hlook := (hmv.look hkey).1
                rw [hv2] at hlook
                have hstate := state_any w.heap.size m _ _ _ s wr.drew hE.drew hsz
                rw [show (Lit.string s.data.toList) = idKey sc j by rw [hs]; rfl, hv1, hhas, ← hx] at hstate
                have HST := hid_of hstate
                have HF : Hid (Ends wr w.heap.size m (.slice (some ⟨g, 0, none⟩) m cv) (idsTo sc m) (stD sc m) ∧ wr.ownsMap Trym.prog 9 (plainElem Trym.prog 3) wa.heap.size m (lastD sc m) ∧ Below w.heap.size w wr) := ⟨hE, hown, hnx⟩
                clear hs hx hstate hE hown hnx hmv hkey hhas hv1 hv2 HEb HOW HBb
                have hj0 : (0 : Int) ≤ (j : Int) := by omega
                have hj1 : (j : Int) < (m : Int) := by omega
                have hl0 : (0 : Int) ≤ (jl : Int) := by omega
                have hl1 : (jl : Int) < (m : Int) := by omega
                go_wp2
                go_region
                go_wp2_with (go_at_call 16; refine HST.out.mono ?_; rintro e w' ⟨rfl, hw⟩; subst w')
                go_roundw
                case rel => exact ⟨j + 1, by omega, by go_num, HF.out.1.drew, HF.out.2.1, HF.out.2.2.drew⟩
                case measure => simp [intOf]; omega
              · go_wp2
                go_ret
                exact ⟨rfl, hnx⟩

set_option maxRecDepth 100000 in
set_option maxHeartbeats 800000 in
theorem lawends_none (a : Option Addr) (cap : Nat) (w : World) :
    Calls Trym.prog 5 #[.slice a 0 cap] w fun e w' => e = .returned (.bool true) ∧ Below w.heap.size w w' := by
  have hmm := @run_makeMap Trym.prog
  have hsv : ScrV w a 0 [] := Or.inl rfl
  go_enter Trym.func5, Trym.ntmps5
  go_wp2_with (first
    | (go_at_call 9; refine (bytes_any _ 0 cap [] w (by omega) hsv).mono ?_; rintro e w' ⟨⟨b1, rfl⟩, hw⟩; subst w'; cases b1)
    | (go_at_call 10; refine (okends_any _ 0 cap [] _ (by omega) hsv).mono ?_; rintro e w' ⟨⟨b2, rfl⟩, hw⟩; subst w'; cases b2)
    | (go_at_call 11; refine (new_any _).mono ?_; rintro e w1 ⟨rfl, hE0, hB0⟩))
  · go_ret
    exact ⟨rfl, Below.refl _ _⟩
  · go_ret
    exact ⟨rfl, Below.refl _ _⟩
  · have HE : Hid (Ends w1 w.heap.size 0 (.slice none 0 0) [] (.map [])) := hE0
    have hE1 := hE0.below ((Below.refl _ _).alloc (Nat.le_refl _) (.map #[] 0))
    have hlen := (World.ownsMap_made (H := Unit) w1 Trym.prog 9 (plainElem Trym.prog 3)).len Trym.underlying22
    clear hE0 hsv
    refine wp_loop_rounds 1 ?_
    rw [rounds_succ]
    go_wp2
    refine wp_loop_rounds 1 ?_
    rw [rounds_succ]
    go_wp2_with (first
      | (go_at_call 13; refine (len_any _ 0 _ _ _ _ hE1).mono ?_; rintro e w' ⟨rfl, hw⟩; subst w')
      | (go_at_call 14; refine (oldest_any _ 0 _ _ _ _ hE1).mono ?_; rintro e w' ⟨rfl, hw⟩; subst w')
      | (go_at_call 15; refine (ids_any _ 0 0 _ _ _ _ hE1).mono ?_; rintro e w' ⟨rfl, hw⟩; subst w'))
    refine wp_loop_rounds 1 ?_
    rw [rounds_succ]
    go_wp2
    go_ret
    exact ⟨rfl, hB0.alloc hB0.size _⟩

set_option maxHeartbeats 400000 in
theorem lawends_any (a : Option Addr) (len cap : Nat) (sc : Script) (w : World) (hm : len ≤ 9223372036854775807) (hs : ScrV w a len sc)
    (hid : ∀ j, j < len → (idAt sc j).size ≤ maxLen) (hst : ∀ j, j < len → (Lit.int .i64 (stAt sc j)).wf = true) :
    Calls Trym.prog 5 #[.slice a len cap] w fun e w' => e = .returned (.bool true) ∧ Below w.heap.size w w' := by
  by_cases hl : len ≤ 65536
  · rcases hs with rfl | ⟨b, off, rfl, hb, hc⟩
    · exact lawends_none a cap w
    · by_cases h0 : 0 < len
      · exact lawends_some b off len cap sc w hl hb h0 hc hid hst
      · obtain rfl : len = 0 := by omega
        exact lawends_none _ cap w
  · have hl' : decide ((65536 : Int) < (len : Int)) = true := by simp; omega
    go_enter Trym.func5, Trym.ntmps5
    go_wp2_with (go_at_call 9; refine (bytes_any _ len cap sc w hm hs).mono ?_; rintro e w' ⟨⟨b1, rfl⟩, hw⟩; subst w'; cases b1)
    · go_ret
      exact ⟨rfl, Below.refl _ _⟩
    · go_ret
      exact ⟨rfl, Below.refl _ _⟩

end Go.Proofs.Qxb6603990aMods
