/-
  THE WALK OF THE SECOND LAW: FnGroupVotesSettingOneSiteShiftsTheTotal (4).
-/
import Derived.Test.Qxb6603990aModsLawSum
namespace Go.Proofs.Qxb6603990aMods
open Go.RowKit Go.WideMaps Go.Maps
set_option linter.unusedVariables false

/-- the copy under way: it sums up as the first k keys do, and holds no other -/
structure Filled {H : Type} (Dm D : DataW H) (ss : List ByteArray) (k : Nat) : Prop where
  sum : sumOf Dm = overKeys D (keysTo ss k)
  has : ∀ kl, Maps.has Dm kl = true → ∃ j, j < k ∧ kl = keyAt ss j

theorem filled_zero {H : Type} (D : DataW H) (ss : List ByteArray) : Filled (.map []) D ss 0 := ⟨rfl, fun kl h => by cases h⟩

theorem filled_step {H : Type} {Dm D : DataW H} {ss : List ByteArray} {k len : Nat} (h : Filled Dm D ss k) (ht : Tidy Dm) (hL : Listed D ss len) (hk : k < len) : Filled (Dm.put (keyAt ss k) (.lit (.int .i64 (valAt D (keyAt ss k))))) D ss (k + 1) := by
  have hno : Maps.has Dm (keyAt ss k) = false := by
    cases hh : Maps.has Dm (keyAt ss k)
    · rfl
    · obtain ⟨j, hj, e⟩ := h.has _ hh
      exact absurd e.symm (hL.apart j k hj hk)
  refine ⟨?_, fun kl hkl => ?_⟩
  · rw [sum_put ht, valAt_not_has hno, h.sum]
    show _ = overKeys D (keysTo ss k ++ [keyAt ss k])
    rw [overKeys_snoc]
    show _ - 0 + valAt D (keyAt ss k) = _
    omega
  · by_cases e : kl = keyAt ss k
    · exact ⟨k, by omega, e⟩
    · rw [has_put_other e] at hkl
      obtain ⟨j, hj, e'⟩ := h.has kl hkl
      exact ⟨j, by omega, e'⟩

theorem wrap64_shift (a o v : Int) : wrap64 (a - o + v) = wrap64 (wrap64 (wrap64 a - o) + v) := by unfold wrap64; omega

theorem set_done {H : Type} {Dm D : DataW H} {ss : List ByteArray} {len : Nat} (h : Filled Dm D ss len) (ht : Tidy Dm) (hD : Tidy D) (hL : Listed D ss len) (kl : Lit) (v : Int) :
    wrap64 (sumOf (Dm.put kl (.lit (.int .i64 v)))) = wrap64 (wrap64 (wrap64 (sumOf D) - valAt Dm kl) + v) := by
  rw [sum_put ht, h.sum, ← sum_of_listed hD hL, ← wrap64_shift]
  rfl

theorem MapV.drew {H : Type} {w : World} {r : Option Nat} {n : Nat} {D : DataW H} (h : MapV w r n D) : MapV w.drew r n D := h

set_option maxRecDepth 100000 in
set_option maxHeartbeats 800000 in
theorem lawset_short {H : Type} (p : ByteArray) (v : Int) (r : Option Nat) (n : Nat) (D : DataW H) (a : Option Addr) (len cap : Nat) (ss : List ByteArray) (w : World) (hmv : MapV w r n D) (hs : StrV w a len ss) (hsz : ∀ s ∈ ss, s.size ≤ maxLen)
    (hp : p.size ≤ 65536) (hd : Maps.size D ≤ 65536) (hl : len ≤ 65536) (hv : (Lit.int .i64 v).wf = true) :
    Calls Trym.prog 4 #[.map r, .slice a len cap, .string p, .int .i64 v] w fun e w' => e = .returned (.bool true) ∧ Below w.heap.size w w' := by
  have hlen := hmv.len
  have htidy := hmv.tidy
  have hmm := @run_makeMap Trym.prog
  rcases hs with rfl | ⟨b, off, rfl, hb, hc⟩
  · go_enter Trym.func4, Trym.ntmps4
    go_wp2_with (first
      | (go_at_call 8; refine (okset_any p r n D a 0 cap ss _ (by omega) hmv (Or.inl rfl) hsz).mono ?_; rintro e w1 ⟨⟨b1, rfl, hans⟩, hb1⟩; have hmv1 := hmv.below hb1; clear hmv hlen; cases b1)
      | (go_at_call 7; refine (zzvotes_any _ _ _ r n D _ hmv1).mono ?_; rintro e w2 ⟨rfl, hb2⟩))
    · go_ret
      exact ⟨rfl, hb1⟩
    · have hb12 : Below w.heap.size w w2 := hb1.trans (hb2.mono hb1.size)
      have hL : Listed D ss 0 := hans trivial
      clear hmv1 hb1 hb2 hans
      have hown : (w2.alloc (.map #[] 0)).ownsMap (H := H) Trym.prog 9 (plainElem Trym.prog 3) w2.heap.size 0 (.map []) := World.ownsMap_made _ _ _ _
      have hkp : keyOf Trym.prog 9 (.string p) = some (.string p.data.toList) := keyOf_string_mk Trym.underlying9 (by unfold maxLen; omega)
      have hmvm : MapV (H := H) (w2.alloc (.map #[] 0)) (some w2.heap.size) 0 (.map []) := Or.inr ⟨_, rfl, hown⟩
      obtain ⟨hrun, hwo⟩ := hmvm.look hkp
      obtain ⟨w3, hup, hown3, hgr3⟩ := hown.update law9 Trym.underlying22 (by unfold maxLen; omega) hkp (plainElem_int Trym.underlying3 hv)
      have hmv3 : MapV (H := H) w3 (some w2.heap.size) 1 ((DataW.map []).put (.string p.data.toList) (.lit (.int .i64 v))) := Or.inr ⟨_, rfl, hown3⟩
      have hb3 : Below w.heap.size w w3 := (hb12.alloc hb12.size _).grown hgr3 (by have := hb12.size; simp; omega) (fun j hj => by cases hj; exact hb12.size)
      clear hown hown3 hmvm hgr3
      refine wp_loop_rounds 1 ?_
      rw [rounds_succ]
      go_wp2_with (go_at_call 7; refine (zzvotes_any _ _ _ (some w2.heap.size) 1 _ _ hmv3).mono ?_; rintro e w4 ⟨rfl, hb4⟩)
      go_ret
      refine ⟨ret_bool ?_, hb3.trans (hb4.mono hb3.size)⟩
      rw [set_done (filled_zero D ss) tidy_empty htidy hL]
      simp
  · go_enter Trym.func4, Trym.ntmps4
    go_wp2_with (first
      | (go_at_call 8; refine (okset_any p r n D (some ⟨b, off, none⟩) len cap ss _ (by omega) hmv (Or.inr ⟨b, off, rfl, hb, hc⟩) hsz).mono ?_; rintro e w1 ⟨⟨b1, rfl, hans⟩, hb1⟩; have hmv1 := hmv.below hb1; clear hmv hlen; cases b1)
      | (go_at_call 7; refine (zzvotes_any _ _ _ r n D _ hmv1).mono ?_; rintro e w2 ⟨rfl, hb2⟩))
    · go_ret
      exact ⟨rfl, hb1⟩
    · have hmv2 := hmv1.below hb2
      have hb12 : Below w.heap.size w w2 := hb1.trans (hb2.mono hb1.size)
      have hc2 : ∀ j, j < len → w2.cell? ⟨b, off + j, none⟩ = some (.string (ss.getD j ByteArray.empty)) := fun j hj => (hb12.cell (p := ⟨b, off + j, none⟩) hb).trans (hc j hj)
      have hb2lt : b < w2.heap.size := Nat.lt_of_lt_of_le hb hb12.size
      have HL : Hid (Listed D ss len) := hans trivial
      clear hmv1 hc hb1 hb2 hans
      go_loopw [11] (fun i wr => ∃ (k : Nat) (Dm : DataW H), k ≤ len ∧ i = .int .i64 k ∧ wr.ownsMap Trym.prog 9 (plainElem Trym.prog 3) w2.heap.size k Dm ∧ Filled Dm D ss k ∧ Below w2.heap.size w2 wr) (fun i _ => len - (intOf i).toNat)
      case atStart => exact ⟨0, .map [], Nat.zero_le _, rfl, World.ownsMap_made _ _ _ _, filled_zero D ss, (Below.refl _ _).alloc (Nat.le_refl _) _⟩
      case round =>
        obtain ⟨k, Dm, hk, rfl, hown, hfil, hnx⟩ := hrel
        by_cases hlt : k < len
        · obtain ⟨s, hs⟩ : ∃ s, s = ss.getD k ByteArray.empty := ⟨_, rfl⟩
          have hcx : wr.cell? ⟨b, off + k, none⟩ = some (.string s) := by rw [hs]; exact (hnx.cell (by exact hb2lt)).trans (hc2 k hlt)
          have hkey : keyOf Trym.prog 9 (.string s) = some (keyAt ss k) := by rw [hs]; exact key_ok hsz k
          clear hs hc2
          obtain ⟨hrun, hwc⟩ := (hmv2.below hnx).drew.look hkey
          obtain ⟨w3, hup, hown3, hgr3⟩ := hown.drew.update law9 Trym.underlying22 (by unfold maxLen; omega) hkey (plainElem_int Trym.underlying3 hwc)
          have hk0 : (0 : Int) ≤ (k : Int) := by omega
          have hk1 : (k : Int) < (len : Int) := by omega
          go_wp2
          go_region
          all_goals
            go_wp2
            go_roundw
            case rel => exact ⟨k + 1, _, by omega, by go_num, hown3, filled_step hfil (hown.tidy law9) HL.out hlt, hnx.drew.grown hgr3 hnx.size (fun j hj => by cases hj; exact Nat.le_refl _)⟩
            case measure => simp [intOf]; omega
        · have e : k = len := by omega
          subst e
          have hL := HL.out
          have hkp : keyOf Trym.prog 9 (.string p) = some (.string p.data.toList) := keyOf_string_mk Trym.underlying9 (by unfold maxLen; omega)
          have hmvm : MapV wr (some w2.heap.size) k Dm := Or.inr ⟨_, rfl, hown⟩
          obtain ⟨hrun, hwo⟩ := hmvm.look hkp
          obtain ⟨w3, hup, hown3, hgr3⟩ := hown.update law9 Trym.underlying22 (by unfold maxLen; omega) hkp (plainElem_int Trym.underlying3 hv)
          have hmv3 : MapV w3 (some w2.heap.size) (k + 1) (Dm.put (.string p.data.toList) (.lit (.int .i64 v))) := Or.inr ⟨_, rfl, hown3⟩
          have hb3 : Below w.heap.size w w3 := (hb12.trans (hnx.mono hb12.size)).grown hgr3 (by have := hb12.size; have := hnx.size; omega) (fun j hj => by cases hj; exact hb12.size)
          have hmt : Tidy Dm := hown.tidy law9
          clear hown hown3 hmvm hgr3 hnx
          go_wp2_with (go_at_call 7; refine (zzvotes_any _ _ _ (some w2.heap.size) (k + 1) _ _ hmv3).mono ?_; rintro e w4 ⟨rfl, hb4⟩)
          go_ret
          refine ⟨ret_bool ?_, hb3.trans (hb4.mono hb3.size)⟩
          rw [set_done hfil hmt htidy hL]
          simp

theorem lawset_any {H : Type} (p : ByteArray) (v : Int) (r : Option Nat) (n : Nat) (D : DataW H) (a : Option Addr) (len cap : Nat) (ss : List ByteArray) (w : World) (hmv : MapV w r n D) (hs : StrV w a len ss) (hsz : ∀ s ∈ ss, s.size ≤ maxLen) (hv : (Lit.int .i64 v).wf = true) :
    Calls Trym.prog 4 #[.map r, .slice a len cap, .string p, .int .i64 v] w fun e w' => e = .returned (.bool true) ∧ Below w.heap.size w w' := by
  have hlen := hmv.len
  by_cases hp : p.size ≤ 65536
  · by_cases hd : Maps.size D ≤ 65536
    · by_cases hl : len ≤ 65536
      · exact lawset_short p v r n D a len cap ss w hmv hs hsz hp hd hl hv
      · have hl' : (65536 : Int) < (len : Int) := by omega
        go_enter Trym.func4, Trym.ntmps4
        go_wp2
        go_ret
        exact ⟨rfl, Below.refl _ _⟩
    · have hd' : (65536 : Int) < (Maps.size D : Int) := by omega
      go_enter Trym.func4, Trym.ntmps4
      go_wp2
      go_ret
      exact ⟨rfl, Below.refl _ _⟩
  · have hp' : (65536 : Int) < (p.size : Int) := by omega
    go_enter Trym.func4, Trym.ntmps4
    go_wp2
    all_goals
      go_ret
      exact ⟨rfl, Below.refl _ _⟩

end Go.Proofs.Qxb6603990aMods
