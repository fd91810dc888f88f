/-
  THE WALKS: groupVotes (20), ZZB1GroupVotes (7).
-/
import Derived.Test.Qxb6603990aModsKeys
namespace Go.Proofs.Qxb6603990aMods
open Go.RowKit Go.WideMaps Go.Maps
set_option linter.unusedVariables false

theorem wrap64_add (a c : Int) : wrap64 (wrap64 a + c) = wrap64 (a + c) := by unfold wrap64; omega

theorem wrap64_zero : wrap64 0 = 0 := by unfold wrap64; omega

theorem keyOf_string_inv {kl : Lit} {key : Value} (h : keyOf Trym.prog 9 key = some kl) : ∃ s, key = .string s := by
  cases key <;> simp [keyOf, Trym.underlying9, mapKey] at h
  exact ⟨_, rfl⟩

/-- the block into which the group is boxed -/
def gbox (p : ByteArray) (r : Option Nat) (x y : Int) : Obj := .cells #[.string p, .map r, .int .i64 x, .int .i64 y] 27

set_option maxRecDepth 100000 in
set_option maxHeartbeats 400000 in
theorem votes_nil (p : ByteArray) (x y : Int) (w : World) :
    Calls Trym.prog 20 #[.agg #[.string p, .map none, .int .i64 x, .int .i64 y]] w fun e w' => e = .returned (.int .i64 0) ∧ Below w.heap.size w w' := by
  have hrg := run_range_nilMap (P := Trym.prog) (w.alloc (gbox p none x y)) 22 9 3 Trym.underlying22
  have hnx : ∀ ty, (Instr.next (.pointer (some ⟨(w.alloc (gbox p none x y)).heap.size, 0, none⟩)) false ty).run Trym.prog ((w.alloc (gbox p none x y)).alloc (.mapIter none 0 #[] 0)) = _ := fun ty => run_next_nilMap _ ty 0 0 #[]
  have e1 : (w.alloc (gbox p none x y)).heap.size = w.heap.size + 1 := by simp
  rw [e1] at hrg hnx
  unfold gbox at hrg hnx
  go_enter Trym.func20, Trym.ntmps20
  go_wp2
  refine wp_loop_rounds 1 ?_
  rw [rounds_succ]
  go_wp2
  go_ret
  exact ⟨rfl, ((Below.refl _ _).alloc (Nat.le_refl _) _).alloc (by simp) _⟩

set_option maxRecDepth 100000 in
set_option maxHeartbeats 400000 in
theorem votes_some {H : Type} (p : ByteArray) (x y : Int) (b n : Nat) (D : DataW H) (w : World) (hown : w.ownsMap Trym.prog 9 (plainElem Trym.prog 3) b n D) :
    Calls Trym.prog 20 #[.agg #[.string p, .map (some b), .int .i64 x, .int .i64 y]] w fun e w' => e = .returned (.int .i64 (wrap64 (sumOf D))) ∧ Below w.heap.size w w' := by
  have hbl := hown.lt
  have e1 : (w.alloc (.cells #[.string p, .map (some b), .int .i64 x, .int .i64 y] 27)).heap.size = w.heap.size + 1 := by simp
  obtain ⟨es, rfl, hap, hkeys⟩ := hown.entries law9
  go_enter Trym.func20, Trym.ntmps20
  go_wp2_with (first
    | (at_range; refine wpList_range_own _ rfl _ 22 rfl 9 3 law9 Trym.underlying22 _ b n _ rfl (hown.alloc _) ?_; intro w0 hrg0 hg0 hs0)
    | go_in)
  go_frame
  rw [e1] at hrg0 hs0 ⊢
  go_loopw [3] (fun t wr => ∃ (left : Lit → Bool) (cnt : Nat), wr.ranges Trym.prog 9 (plainElem Trym.prog 3) b (w.heap.size + 1) n (.map es) left cnt ∧ t = .int .i64 (wrap64 (gone left es)) ∧ Below w.heap.size w wr)
    (fun _ wr => wr.rangeLeft b (w.heap.size + 1))
  case atStart =>
    refine ⟨_, _, hrg0, ?_, ((Below.refl _ _).alloc (Nat.le_refl _) _).grown hg0 (by simp) (fun j hj => by cases hj)⟩
    rw [gone_start hkeys, wrap64_zero]
  case round =>
    obtain ⟨left, cnt, hrg, rfl, hnx⟩ := hrel
    go_wp2_with (first
      | (at_next; refine wpList_next_ranges _ rfl _ rfl 9 law9 (plainElem Trym.prog 3) Value.string (Value.int .i64) (fun key kl hkey => keyOf_string_inv hkey) (fun v y hv => by obtain ⟨c, rfl, _⟩ := plainElem_int_inv Trym.underlying3 hv; exact ⟨c, rfl⟩) b (w.heap.size + 1) n _ _ _ rfl hrg ?_ ?_)
      | go_in)
    · intro _ hl0
      go_wp2
      go_ret
      refine ⟨?_, hnx⟩
      have e2 : gone left es = sumOf (.map es) := by rw [gone_end hl0]; rfl
      rw [e2]
      rfl
    · intro s c kl yd yp w1 cnt1 hks hlk hRv hat hrg1 hlt hg1 hs1 hen
      have hcv : ∀ z, (DataW.map es).atKey kl z = .lit (.int .i64 c) := by
        intro z
        rw [hat z]
        obtain ⟨c', h1, h2, _⟩ := plainElem_int_inv Trym.underlying3 hRv
        cases h1
        exact congrArg Prod.fst h2
      have hgn := gone_strike hlk hap hcv
      clear hcv hat
      go_wp2
      go_roundw
      case rel => exact ⟨_, cnt1, hrg1, by rw [hgn, wrap64_add], hnx.grown hg1 hnx.size (fun j hj => by cases hj; exact Nat.le_succ _)⟩
      case measure => rw [hrg1.left_eq, hrg.left_eq]; exact hlt

theorem votes_any {H : Type} (p : ByteArray) (x y : Int) (r : Option Nat) (n : Nat) (D : DataW H) (w : World) (hmv : MapV w r n D) :
    Calls Trym.prog 20 #[.agg #[.string p, .map r, .int .i64 x, .int .i64 y]] w fun e w' => e = .returned (.int .i64 (wrap64 (sumOf D))) ∧ Below w.heap.size w w' := by
  rcases hmv with ⟨rfl, rfl⟩ | ⟨b, rfl, ho⟩
  · refine (votes_nil p x y w).mono ?_
    rintro e w' ⟨rfl, hb⟩
    exact ⟨by show _ = Ending.returned (.int .i64 (wrap64 0)); rw [wrap64_zero], hb⟩
  · exact votes_some p x y b n D w ho

theorem MapV.alloc {H : Type} {w : World} {r : Option Nat} {n : Nat} {D : DataW H} (h : MapV w r n D) (o : Obj) : MapV (w.alloc o) r n D := h.below ((Below.refl _ _).alloc (Nat.le_refl _) _)

set_option maxHeartbeats 400000 in
theorem zzvotes_any {H : Type} (p : ByteArray) (x y : Int) (r : Option Nat) (n : Nat) (D : DataW H) (w : World) (hmv : MapV w r n D) :
    Calls Trym.prog 7 #[.agg #[.string p, .map r, .int .i64 x, .int .i64 y]] w fun e w' => e = .returned (.int .i64 (wrap64 (sumOf D))) ∧ Below w.heap.size w w' := by
  go_enter Trym.func7, Trym.ntmps7
  go_wp2_with (go_at_call 20; refine (votes_any p x y r n D _ (hmv.alloc _)).mono ?_; rintro e w' ⟨rfl, hb⟩)
  go_ret
  exact ⟨rfl, ((Below.refl _ _).alloc (Nat.le_refl _) _).trans (hb.mono (by simp))⟩

end Go.Proofs.Qxb6603990aMods
