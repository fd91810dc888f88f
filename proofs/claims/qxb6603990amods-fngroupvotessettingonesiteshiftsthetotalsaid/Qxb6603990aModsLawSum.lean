/-
  THE WALK OF THE FIRST LAW: FnGroupVotesIsSumOverItsSites (3).
-/
import Derived.Test.Qxb6603990aModsOks
namespace Go.Proofs.Qxb6603990aMods
open Go.RowKit Go.WideMaps Go.Maps
set_option linter.unusedVariables false

/-- the first k keys -/
def keysTo (ss : List ByteArray) : Nat → List Lit
  | 0 => []
  | k + 1 => keysTo ss k ++ [keyAt ss k]

theorem keysTo_len (ss : List ByteArray) : ∀ k, (keysTo ss k).length = k
  | 0 => rfl
  | k + 1 => by simp [keysTo, keysTo_len ss k]

theorem mem_keysTo {ss : List ByteArray} {x : Lit} : ∀ {k}, x ∈ keysTo ss k → ∃ j, j < k ∧ x = keyAt ss j
  | 0, h => by simp [keysTo] at h
  | k + 1, h => by
    rcases List.mem_append.1 h with h1 | h1
    · obtain ⟨j, hj, e⟩ := mem_keysTo h1
      exact ⟨j, by omega, e⟩
    · exact ⟨k, by omega, by simpa using h1⟩

theorem keysTo_apart {ss : List ByteArray} : ∀ {k}, (∀ i j, i < j → j < k → keyAt ss i ≠ keyAt ss j) → (keysTo ss k).Pairwise (fun a b => a ≠ b)
  | 0, _ => List.Pairwise.nil
  | k + 1, h => by
    refine List.pairwise_append.2 ⟨keysTo_apart (fun i j hij hj => h i j hij (by omega)), List.pairwise_singleton _ _, ?_⟩
    intro a ha b hb
    obtain ⟨j, hj, rfl⟩ := mem_keysTo ha
    rw [List.mem_singleton.1 hb]
    exact h j k hj (by omega)

theorem sum_of_listed {H : Type} {D : DataW H} {ss : List ByteArray} {len : Nat} (ht : Tidy D) (h : Listed D ss len) : sumOf D = overKeys D (keysTo ss len) :=
  sum_listed ht (by rw [keysTo_len]; exact h.size) (fun x hx => by obtain ⟨j, hj, rfl⟩ := mem_keysTo hx; exact h.has j hj) (keysTo_apart h.apart)

/-- the sum so far, as int wraps it -/
def wantTo {H : Type} (D : DataW H) (ss : List ByteArray) (k : Nat) : Int := wrap64 (overKeys D (keysTo ss k))

theorem wantTo_zero {H : Type} (D : DataW H) (ss : List ByteArray) : wantTo D ss 0 = 0 := wrap64_zero

theorem wantTo_succ {H : Type} (D : DataW H) (ss : List ByteArray) (k : Nat) : wantTo D ss (k + 1) = wrap64 (wantTo D ss k + valAt D (keyAt ss k)) := by
  unfold wantTo
  rw [wrap64_add]
  show wrap64 (overKeys D (keysTo ss k ++ [keyAt ss k])) = _
  rw [overKeys_snoc]

theorem want_done {H : Type} {D : DataW H} {ss : List ByteArray} {len : Nat} (ht : Tidy D) (h : Listed D ss len) : wrap64 (sumOf D) = wantTo D ss len := by
  unfold wantTo
  rw [sum_of_listed ht h]

theorem ret_bool {a b : Bool} (h : a = b) : Ending.returned (.bool a) = .returned (.bool b) := by rw [h]

set_option maxHeartbeats 800000 in
theorem lawsum_short {H : Type} (p : ByteArray) (x y : Int) (r : Option Nat) (n : Nat) (D : DataW H) (a : Option Addr) (len cap : Nat) (ss : List ByteArray) (w : World) (hmv : MapV w r n D) (hs : StrV w a len ss) (hsz : ∀ s ∈ ss, s.size ≤ maxLen)
    (hp : p.size ≤ 65536) (hd : Maps.size D ≤ 65536) (hl : len ≤ 65536) :
    Calls Trym.prog 3 #[.string p, .map r, .int .i64 x, .int .i64 y, .slice a len cap] w fun e w' => e = .returned (.bool true) ∧ Below w.heap.size w w' := by
  have hlen := hmv.len
  have htidy := hmv.tidy
  rcases hs with rfl | ⟨b, off, rfl, hb, hc⟩
  · go_enter Trym.func3, Trym.ntmps3
    go_wp2_with (first
      | (go_at_call 6; refine (oksum_any p r n D a 0 cap ss _ (by omega) hmv (Or.inl rfl) hsz).mono ?_; rintro e w1 ⟨⟨b1, rfl, hans⟩, hb1⟩; have hmv1 := hmv.below hb1; clear hmv hlen; cases b1)
      | (go_at_call 7; refine (zzvotes_any p x y r n D _ hmv1).mono ?_; rintro e w2 ⟨rfl, hb2⟩))
    · go_ret
      exact ⟨rfl, hb1⟩
    · refine wp_loop_rounds 1 ?_
      rw [rounds_succ]
      go_wp2
      go_ret
      refine ⟨ret_bool ?_, hb1.trans (hb2.mono hb1.size)⟩
      rw [want_done htidy (hans trivial), wantTo_zero]
      rfl
  · go_enter Trym.func3, Trym.ntmps3
    go_wp2_with (first
      | (go_at_call 6; refine (oksum_any p r n D (some ⟨b, off, none⟩) len cap ss _ (by omega) hmv (Or.inr ⟨b, off, rfl, hb, hc⟩) hsz).mono ?_; rintro e w1 ⟨⟨b1, rfl, hans⟩, hb1⟩; have hmv1 := hmv.below hb1; clear hmv hlen; cases b1)
      | (go_at_call 7; refine (zzvotes_any p x y r n D _ hmv1).mono ?_; rintro e w2 ⟨rfl, hb2⟩))
    · go_ret
      exact ⟨rfl, hb1⟩
    · have hmv2 := hmv1.below hb2
      have hb12 : Below w.heap.size w w2 := hb1.trans (hb2.mono hb1.size)
      have hc2 : ∀ j, j < len → w2.cell? ⟨b, off + j, none⟩ = some (.string (ss.getD j ByteArray.empty)) := fun j hj => (hb12.cell (p := ⟨b, off + j, none⟩) hb).trans (hc j hj)
      clear hmv1 hc hb1 hb2
      go_loop [12, 13] (fun t i => ∃ k : Nat, k ≤ len ∧ i = .int .i64 k ∧ t = .int .i64 (wantTo D ss k)) (fun _ i => len - (intOf i).toNat)
      case atStart => exact ⟨0, Nat.zero_le _, rfl, by rw [wantTo_zero]⟩
      case round =>
        obtain ⟨k, hk, rfl, rfl⟩ := hrel
        by_cases hlt : k < len
        · obtain ⟨s, hs⟩ : ∃ s, s = ss.getD k ByteArray.empty := ⟨_, rfl⟩
          have hcx : w2.cell? ⟨b, off + k, none⟩ = some (.string s) := by rw [hs]; exact hc2 k hlt
          have hkey : keyOf Trym.prog 9 (.string s) = some (keyAt ss k) := by rw [hs]; exact key_ok hsz k
          clear hs hc2
          have hrun := (hmv2.look hkey).1
          go_wp2
          go_round
          case rel => exact ⟨k + 1, by omega, by go_num, by rw [wantTo_succ]⟩
          case measure => simp [intOf]; omega
        · have e : k = len := by omega
          subst e
          go_wp2
          go_ret
          refine ⟨ret_bool ?_, hb12⟩
          rw [want_done htidy (hans trivial)]
          simp

theorem lawsum_any {H : Type} (p : ByteArray) (x y : Int) (r : Option Nat) (n : Nat) (D : DataW H) (a : Option Addr) (len cap : Nat) (ss : List ByteArray) (w : World) (hmv : MapV w r n D) (hs : StrV w a len ss) (hsz : ∀ s ∈ ss, s.size ≤ maxLen) :
    Calls Trym.prog 3 #[.string p, .map r, .int .i64 x, .int .i64 y, .slice a len cap] w fun e w' => e = .returned (.bool true) ∧ Below w.heap.size w w' := by
  have hlen := hmv.len
  by_cases hp : p.size ≤ 65536
  · by_cases hd : Maps.size D ≤ 65536
    · by_cases hl : len ≤ 65536
      · exact lawsum_short p x y r n D a len cap ss w hmv hs hsz hp hd hl
      · have hl' : (65536 : Int) < (len : Int) := by omega
        go_enter Trym.func3, Trym.ntmps3
        go_wp2
        go_ret
        exact ⟨rfl, Below.refl _ _⟩
    · have hd' : (65536 : Int) < (Maps.size D : Int) := by omega
      go_enter Trym.func3, Trym.ntmps3
      go_wp2
      go_ret
      exact ⟨rfl, Below.refl _ _⟩
  · have hp' : (65536 : Int) < (p.size : Int) := by omega
    go_enter Trym.func3, Trym.ntmps3
    go_wp2
    go_ret
    exact ⟨rfl, Below.refl _ _⟩

end Go.Proofs.Qxb6603990aMods
