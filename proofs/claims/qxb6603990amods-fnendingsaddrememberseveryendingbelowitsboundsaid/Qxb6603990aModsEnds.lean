/-
  THE WALKS OVER THE RECORD OF ENDINGS: (*endings).add (22), ZZB1EndingsAdd (12), ZZB1NewEndings (11), the readers (13 to 16).
-/
import Derived.Test.Qxb6603990aModsKeys
import Derived.Maps.AppendAt
import Derived.Deep.AppendLies
namespace Go.Proofs.Qxb6603990aMods
open Go.RowKit Go.WideMaps Go.Maps
set_option linter.unusedVariables false

theorem Trym.info9 : (Trym.prog.info? 9).map (fun i => (i.zero, i.size, i.bytes)) = some (some (.string ByteArray.empty), 1, 16) := by kernel_rfl
theorem zero50 (w : World) : (zeroValue 50).run Trym.prog w = .ok (.int .i64 0) w := by kernel_rfl

/-- THE RECORD: block B + 1 holds the struct, block B its map, a row from B + 2 on its list of ids. -/
structure Ends (w : World) (B k : Nat) (v : Value) (ids : List Value) (D : DataW Unit) : Prop where
  blk : w.heap[B + 1]? = some (.cells #[.map (some B), v, .int .i64 0] 48 (0, 0))
  row : w.ownsRow (B + 2) 9 1 v k ids
  map : w.ownsMap Trym.prog 9 (plainElem Trym.prog 50) B k D

theorem three_cell {w : World} {b : Nat} {x y z : Value} {t : TypeId} (h : w.heap[b]? = some (.cells #[x, y, z] t (0, 0))) : w.cell? ⟨b, 0, none⟩ = some x ∧ w.cell? ⟨b, 1, none⟩ = some y ∧ w.cell? ⟨b, 2, none⟩ = some z := by
  simp [World.cell?, h]
theorem three_free {w : World} {b : Nat} {x y z : Value} {t : TypeId} (h : w.heap[b]? = some (.cells #[x, y, z] t (0, 0))) (j : Nat) : w.frozen? ⟨b, j, none⟩ = false := by
  simp [World.frozen?, h]
theorem three_set {w : World} {b : Nat} {x y z u : Value} {t : TypeId} (h : w.heap[b]? = some (.cells #[x, y, z] t (0, 0))) : (w.setCell ⟨b, 1, none⟩ u).heap[b]? = some (.cells #[x, u, z] t (0, 0)) := by
  have hlt := lt_of_block h
  have h' : w.heap[b] = .cells #[x, y, z] t (0, 0) := by simpa [Array.getElem?_eq_getElem hlt] using h
  show (w.heap.modify b _)[b]? = _
  rw [Array.getElem?_eq_getElem (by simpa using hlt), Array.getElem_modify_self, h']
  rfl

theorem Ends.grown {w w' : World} {B k : Nat} {v : Value} {ids : List Value} {D : DataW Unit} (h : Ends w B k v ids D) {row : Option Nat} (hg : w.grownBy w' row) (hr : ∀ j, row = some j → w.heap.size ≤ j) : Ends w' B k v ids D := by
  have hne : ∀ i, i < w.heap.size → some i ≠ row := fun i hi e => by have := hr i e.symm; omega
  refine ⟨(hg.block (B + 1) (lt_of_block h.blk) (hne _ (lt_of_block h.blk))).trans h.blk, h.row.kept hg ?_, h.map.kept hg (hne _ h.map.lt)⟩
  cases hv : v.ownBlock with
  | none => exact Or.inl rfl
  | some g => exact Or.inr (hne g (h.row.lt g hv).2)

theorem Ends.below {w w' : World} {B k : Nat} {v : Value} {ids : List Value} {D : DataW Unit} (h : Ends w B k v ids D) (hb : Below w.heap.size w w') : Ends w' B k v ids D :=
  h.grown (row := none) ⟨hb.os, hb.tape, hb.output, hb.size, fun i hi _ => hb.block i hi⟩ (fun j hj => by cases hj)

/-- what the ids' value looks like -/
theorem Ends.form {w : World} {B k : Nat} {v : Value} {ids : List Value} {D : DataW Unit} (h : Ends w B k v ids D) : ∃ ao cap, v = .slice ao k cap := by
  rcases h.row.2 with ⟨h1, h2⟩ | ⟨g, cap, cur, h1, _⟩
  · exact ⟨none, 0, by rw [h1, h2]⟩
  · exact ⟨_, cap, h1⟩

/-- the record one ending on -/
def OneOn (w' : World) (B k : Nat) (ids : List Value) (D : DataW Unit) (s : ByteArray) (st : Int) : Prop :=
  ∃ v', Ends w' B (k + 1) v' (ids ++ [.string s]) (D.put (.string s.data.toList) (.lit (.int .i64 st)))

set_option maxRecDepth 100000 in
set_option maxHeartbeats 800000 in
theorem add_at (B k cap : Nat) (ao : Option Addr) (ids : List Value) (D : DataW Unit) (s : ByteArray) (st : Int) (w : World) (h : Ends w B k (.slice ao k cap) ids D) (hk : k ≤ 65536) (hs : s.size ≤ maxLen) (hst : (Lit.int .i64 st).wf = true) :
    Calls Trym.prog 22 #[.pointer (some ⟨B + 1, 0, none⟩), .string s, .int .i64 st] w fun e w' => e = .returned (.tuple #[]) ∧ OneOn w' B k ids D s st ∧ Below B w w' := by
  obtain ⟨i0, hi, hz0, hz1, hz2⟩ := info_parts Trym.info9
  obtain ⟨c0, c1, c2⟩ := three_cell h.blk
  have f1 := three_free h.blk 1
  have hkey : keyOf Trym.prog 9 (.string s) = some (.string s.data.toList) := keyOf_string_mk Trym.underlying9 hs
  have hlt := lt_of_block h.blk
  have hk' : decide ((k : Int) < 100000) = true := by simp; omega
  have H : Hid (Ends w B k (.slice ao k cap) ids D) := h
  clear h
  go_enter Trym.func22, Trym.ntmps22
  go_wp2_with (at_builtin; refine wpList_append_lies _ rfl _ _ 23 rfl (B + 2) 9 i0 (.string ByteArray.empty) 1 16 Trym.underlying23 hi hz0 hz1 hz2 rfl (by decide) _ k _ rfl (H.out.row.alloc _) ⟨w.heap.size, 0, none⟩ 1 1 [.string s] rfl rfl (cell_one_new _ _ _) ?c2 (by decide) (by unfold maxLen; omega) (by omega) ?cb (w.heap.size + 1) (by simp) ?_)
  case c2 => intro u hu; simp at hu; subst hu; rfl
  case cb => simp; omega
  · intro g cap1 w1 hown1 hgrow hat hlt1
    have h := H.out
    have hbel : Below (B + 2) w w1 := ((Below.refl _ _).alloc (by omega) _).grown hgrow (by simp; omega) (fun j hj => (h.row.lt j hj).1)
    have blk1 := (hbel.block (B + 1) (by omega)).trans h.blk
    obtain ⟨d0, d1, d2⟩ := three_cell blk1
    have g1 := three_free blk1 1
    have hmap1 := (h.map.alloc (.cells #[.string s] 9)).kept hgrow (fun e => by have := (h.row.lt B e.symm).1; omega)
    have hw1 : B + 1 < w1.heap.size := lt_of_block blk1
    clear c0 c1 c2 f1 hat
    go_wp2_with (at_mapUpdate; refine wpList_mapUpdate_own _ rfl _ _ _ 46 rfl 9 50 law9 Trym.underlying46 _ B k _ rfl (hmap1.setCell (by simp) _) (by unfold maxLen; omega) _ _ _ rfl rfl hkey _ [] (plainElem_int Trym.underlying50 hst) ?_; intro w2 hmap2 hgr2)
    go_end0
    refine ⟨rfl, ⟨.slice (some ⟨g, 0, none⟩) (k + 1) cap1, ?_, ?_, hmap2⟩, ?_⟩
    · exact (hgr2.block (B + 1) (by simp [World.setCell]; omega) (by simp)).trans (three_set blk1)
    · exact (ownsRow_setCell_below hown1 (by simp) _).kept hgr2 (Or.inr (by have := (hown1.lt g rfl).1; simp [Value.ownBlock]; omega))
    · exact ((hbel.mono (by omega)).setCell (by simp) _).grown hgr2 (by simp [World.setCell]; omega) (fun j hj => by cases hj; exact Nat.le_refl _)

end Go.Proofs.Qxb6603990aMods
