/-
  WHAT A SLICE OF BYTES OF THE CALL's OWN IS GOOD FOR, and append onto it from whatever source: over this program.
-/
import Derived.Test.Qxb6604100aModsRows
import Derived.Test.Qxb6604100aModsEsc
import Derived.WalkKit
import Derived.WalkSpells
import Derived.Maps.AppendAt
import Derived.Maps.Range
import Derived.Deep.AppendLies
import Derived.Laws.CopyOwn
namespace Go.Proofs.Qxb6604100aMods
open Go.RowKit
set_option linter.unusedVariables false

theorem Trym.info5 : (Trym.prog.info? 5).map (fun i => (i.zero, i.size, i.bytes)) = some (some (.int .u8 0), 1, 1) := by kernel_rfl

/-- numbers as cells -/
abbrev bys (xs : List Int) : List Value := xs.map (Value.int .u8)

theorem bys_one (xs : List Int) : ∀ u ∈ bys xs, u.oneCell' = true := ints_oneCell .u8 xs

/-- SINCE w0, OF WHAT WAS THERE ONLY BLOCK row0 MAY HAVE TURNED; the slice v owns the bytes xs, in that block or in a new one. -/
structure Own (w0 : World) (row0 : Option Nat) (w : World) (v : Value) (xs : List Int) : Prop where
  own : w.ownsRow 0 5 1 v xs.length (bys xs)
  grown : w0.grownBy w row0
  lies : ∀ g, v.ownBlock = some g → w0.heap.size ≤ g ∨ row0 = some g

theorem grown_drew (w : World) (row : Option Nat) : w.grownBy w.drew row := ⟨rfl, rfl, rfl, Nat.le_refl _, fun _ _ _ => rfl⟩

theorem Own.alloc {w0 w : World} {row0 : Option Nat} {v : Value} {xs : List Int} (h : Own w0 row0 w v xs) (o : Obj) : Own w0 row0 (w.alloc o) v xs :=
  ⟨h.own.alloc o, h.grown.trans (World.grownBy_alloc w o row0), h.lies⟩

theorem Own.drew {w0 w : World} {row0 : Option Nat} {v : Value} {xs : List Int} (h : Own w0 row0 w v xs) : Own w0 row0 w.drew v xs :=
  ⟨h.own.drew, h.grown.trans (grown_drew w row0), h.lies⟩

/-- how long it is -/
theorem Own.len {w0 w : World} {row0 : Option Nat} {ao : Option Addr} {n c : Nat} {xs : List Int} (h : Own w0 row0 w (.slice ao n c) xs) : n = xs.length := by
  rcases h.own.2 with ⟨h1, h2⟩ | ⟨g, cap, cur, h1, _⟩
  · cases h1; exact h2.symm
  · cases h1; rfl

/-- what it looks like -/
theorem Own.form {w0 w : World} {row0 : Option Nat} {v : Value} {xs : List Int} (h : Own w0 row0 w v xs) : ∃ ao n c, v = .slice ao n c := by
  rcases h.own.2 with ⟨h1, h2⟩ | ⟨g, cap, cur, h1, _⟩
  · exact ⟨_, _, _, h1⟩
  · exact ⟨_, _, _, h1⟩

/-- A SLICE THAT READS AS ys, wherever it lies -/
def RdV (w : World) (ao : Option Addr) (c : Nat) (ys : List Int) : Prop :=
  (ao = none ∧ ys = [] ∧ c = 0) ∨ ∃ ad, ao = some ad ∧ ∀ j u, (bys ys)[j]? = some u → w.cell? (ad.add j) = some u

theorem rd_lit (w : World) (ys : List Int) (c : Nat) : RdV (w.alloc (.cells (bys ys).toArray 5)) (some ⟨w.heap.size, 0, none⟩) c ys :=
  Or.inr ⟨_, rfl, fun j u hu => World.news_of_block (heap_alloc_new w _) j u (by simpa using hu)⟩

theorem RdV.grown {w w' : World} {ao : Option Addr} {c : Nat} {ys : List Int} {row : Option Nat} (h : RdV w ao c ys) (hg : w.grownBy w' row) (hne : ∀ ad, ao = some ad → some ad.block ≠ row) : RdV w' ao c ys := by
  rcases h with h | ⟨ad, rfl, hc⟩
  · exact Or.inl h
  · refine Or.inr ⟨ad, rfl, fun j u hu => ?_⟩
    have e : (ad.add j).block = ad.block := by unfold Addr.add; split <;> rfl
    exact hg.cell (hc j u hu) (by rw [e]; exact hne ad rfl)

theorem own_rd {w : World} {ao : Option Addr} {n c : Nat} {ys : List Int} (h : w.ownsRow 0 5 1 (.slice ao n c) ys.length (bys ys)) : RdV w ao c ys := by
  rcases h.2 with ⟨h1, h2⟩ | ⟨g, cap, cur, h1, _⟩
  · cases h1
    exact Or.inl ⟨rfl, List.eq_nil_of_length_eq_zero h2, rfl⟩
  · cases h1
    exact Or.inr ⟨_, rfl, h.cells rfl⟩

section
variable {w : World} {ops : Array Oper} {rest : List Oper} {o : Oper} {a : Act} {Q : Exit → Act → World → Prop}

/-- 'append(s, x...)': s of the call's own, x whatever reads: the run. -/
theorem run_append_any (ty : TypeId) (w0 : World) (row0 : Option Nat) (v : Value) (xs : List Int) (h : Own w0 row0 w v xs)
    (ao : Option Addr) (m c : Nat) (ys : List Int) (hm : m = ys.length) (hr : RdV w ao c ys) (hb : xs.length + ys.length ≤ 70000000000000) :
    ∃ ao' n' c' w', (Builtin.append_ #[22, 22] ty #[v, .slice ao m c]).run Trym.prog w = .ok (.slice ao' n' c') w' ∧ Own w0 row0 w' (.slice ao' n' c') (xs ++ ys) := by
  obtain ⟨i0, hi, hz0, hz1, hz2⟩ := info_parts Trym.info5
  have fin : ∀ v' w', (Builtin.append_ #[22, 22] ty #[v, .slice ao m c]).run Trym.prog w = .ok v' w' → w'.ownsRow 0 5 1 v' (xs ++ ys).length (bys (xs ++ ys)) → w.grownBy w' v.ownBlock → (v'.ownBlock = v.ownBlock ∨ v'.ownBlock = some w.heap.size) →
      ∃ ao' n' c' w', (Builtin.append_ #[22, 22] ty #[v, .slice ao m c]).run Trym.prog w = .ok (.slice ao' n' c') w' ∧ Own w0 row0 w' (.slice ao' n' c') (xs ++ ys) := by
    intro v' w' hrun hown' hg hloc
    have hO : Own w0 row0 w' v' (xs ++ ys) := by
      refine ⟨hown', h.grown.andThen hg (fun j hj => h.lies j hj), fun g hgv => ?_⟩
      rcases hloc with e | e
      · exact h.lies g (e ▸ hgv)
      · rw [e] at hgv
        cases hgv
        exact Or.inl h.grown.size
    obtain ⟨ao', n', c', rfl⟩ := hO.form
    exact ⟨ao', n', c', w', hrun, hO⟩
  rcases hr with ⟨rfl, rfl, rfl⟩ | ⟨ad, rfl, hc⟩
  · subst hm
    refine fin v w (run_append_owned_none w 0 22 ty 5 i0 1 Trym.underlying22 hi v _ _ h.own) (by simpa using h.own) (World.grownBy.refl _ _) (Or.inl rfl)
  · subst hm
    obtain ⟨v', w', hrun, hown', hg, _, hloc⟩ := run_append_own_at (P := Trym.prog) w 0 22 ty 5 i0 (.int .u8 0) 1 1 Trym.underlying22 hi hz0 hz1 hz2 rfl (by decide) v xs.length (bys xs) h.own ad ys.length c (bys ys) (by simp) hc (bys_one ys) (by unfold maxLen; omega) (by omega) (Nat.zero_le _)
    exact fin v' w' hrun (by simpa using hown') hg hloc

theorem wp_append_any {K : Act → World → Prop} (s x : Operand) (ho : o.op = .call { callee := .builtin .append, args := #[s, x], argTypes := #[22, 22] })
    (w0 : World) (row0 : Option Nat) (v : Value) (xs : List Int) (hs : a.eval s = v) (h : Own w0 row0 w v xs)
    (ao : Option Addr) (m c : Nat) (ys : List Int) (hx : a.eval x = .slice ao m c) (hm : m = ys.length) (hr : RdV w ao c ys) (hb : xs.length + ys.length ≤ 70000000000000)
    (hK : ∀ ao' n' c' w', Own w0 row0 w' (.slice ao' n' c') (xs ++ ys) → K (a.put o.dst (.slice ao' n' c')) w') : o.wp Trym.prog a w K Q := by
  obtain ⟨ao', n', c', w', hrun, hO⟩ := run_append_any o.type w0 row0 v xs h ao m c ys hm hr hb
  unfold Oper.wp execOp
  simp only [ho, resolve, invoke, builtin, Sem.run_bind, Sem.run_pure, Result.andThen_ok, List.map_toArray, List.map_cons, List.map_nil, hs, hx, hrun]
  exact hK ao' n' c' w' hO

/-- .. at the list of a plain region's operations -/
theorem wpList_append_any (hgd : o.guard = none) (s x : Operand) (ho : o.op = .call { callee := .builtin .append, args := #[s, x], argTypes := #[22, 22] })
    (w0 : World) (row0 : Option Nat) (v : Value) (xs : List Int) (hs : a.eval s = v) (h : Own w0 row0 w v xs)
    (ao : Option Addr) (m c : Nat) (ys : List Int) (hx : a.eval x = .slice ao m c) (hm : m = ys.length) (hr : RdV w ao c ys) (hb : xs.length + ys.length ≤ 70000000000000)
    (hK : ∀ ao' n' c' w', Own w0 row0 w' (.slice ao' n' c') (xs ++ ys) → wpList Trym.prog ops Q rest (a.put o.dst (.slice ao' n' c')) w') :
    wpList Trym.prog ops Q (o :: rest) a w :=
  wpList_plain hgd fun _ hK' => wp_append_any s x ho w0 row0 v xs hs h ao m c ys hx hm hr hb fun ao' n' c' w' hO => hK' _ _ (hK ao' n' c' w' hO)

/-- .. at a step of a region that draws its order -/
theorem step_append_any {K : Act → World → Prop} {E : Prop} (hgd : o.guard = none) (s x : Operand) (ho : o.op = .call { callee := .builtin .append, args := #[s, x], argTypes := #[22, 22] })
    (w0 : World) (row0 : Option Nat) (v : Value) (xs : List Int) (hs : a.eval s = v) (h : Own w0 row0 w v xs)
    (ao : Option Addr) (m c : Nat) (ys : List Int) (hx : a.eval x = .slice ao m c) (hm : m = ys.length) (hr : RdV w ao c ys) (hb : xs.length + ys.length ≤ 70000000000000)
    (hK : ∀ ao' n' c' w', Own w0 row0 w' (.slice ao' n' c') (xs ++ ys) → K (a.put o.dst (.slice ao' n' c')) w') :
    if Region.wanted o (yielded ops a.tmps) = true then Oper.wp Trym.prog o a w K Q else E := by
  have hw : Region.wanted o (yielded ops a.tmps) = true := by simp [Region.wanted, hgd]
  rw [if_pos hw]
  exact wp_append_any s x ho w0 row0 v xs hs h ao m c ys hx hm hr hb hK
end

end Go.Proofs.Qxb6604100aMods
