/-
  PLAIN: the maps and the list that a script makes; no Go in sight.
-/
import Derived.Test.Qxb6603990aModsSums
namespace Go.Proofs.Qxb6603990aMods
open Go.Maps

abbrev Script := List (ByteArray × Int)

def idAt (sc : Script) (j : Nat) : ByteArray := (sc.getD j (ByteArray.empty, 0)).1
def stAt (sc : Script) (j : Nat) : Int := (sc.getD j (ByteArray.empty, 0)).2
def idKey (sc : Script) (j : Nat) : Lit := .string (idAt sc j).data.toList

theorem idKey_lit (sc : Script) (j : Nat) : WideAt.IsKeyLit (idKey sc j) := trivial

/-- the ids, in order -/
def idsTo (sc : Script) : Nat → List Value
  | 0 => []
  | k + 1 => idsTo sc k ++ [.string (idAt sc k)]

theorem idsTo_len (sc : Script) : ∀ k, (idsTo sc k).length = k
  | 0 => rfl
  | k + 1 => by simp [idsTo, idsTo_len sc k]

theorem idsTo_at (sc : Script) : ∀ {k j}, j < k → (idsTo sc k)[j]? = some (.string (idAt sc j))
  | 0, _, h => absurd h (Nat.not_lt_zero _)
  | k + 1, j, h => by
    unfold idsTo
    rcases Nat.lt_or_ge j k with h1 | h1
    · rw [List.getElem?_append_left (by rw [idsTo_len]; exact h1)]
      exact idsTo_at sc h1
    · have e : j = k := by omega
      subst e
      rw [List.getElem?_append_right (by rw [idsTo_len]; exact Nat.le_refl _), idsTo_len]
      simp

/-- the map that puts f j at the j-th id, in order -/
def foldD (f : Nat → Int) (sc : Script) : Nat → DataW Unit
  | 0 => .map []
  | k + 1 => (foldD f sc k).put (idKey sc k) (.lit (.int .i64 (f k)))

theorem foldD_tidy (f : Nat → Int) (sc : Script) : ∀ k, Tidy (foldD f sc k)
  | 0 => tidy_empty
  | k + 1 => (foldD_tidy f sc k).put (idKey_lit sc k) _

theorem foldD_has (f g : Nat → Int) (sc : Script) (kl : Lit) : ∀ k, Maps.has (foldD f sc k) kl = Maps.has (foldD g sc k) kl
  | 0 => rfl
  | k + 1 => by
    unfold foldD
    by_cases e : kl = idKey sc k
    · subst e
      rw [has_put_same (foldD_tidy f sc k).isMap (idKey_lit sc k), has_put_same (foldD_tidy g sc k).isMap (idKey_lit sc k)]
    · rw [has_put_other e, has_put_other e, foldD_has f g sc kl k]

theorem foldD_size (f g : Nat → Int) (sc : Script) : ∀ k, Maps.size (foldD f sc k) = Maps.size (foldD g sc k)
  | 0 => rfl
  | k + 1 => by
    unfold foldD
    rw [size_put (foldD_tidy f sc k), size_put (foldD_tidy g sc k), foldD_has f g, foldD_size f g sc k]

theorem valAt_put_other {D : DataW Unit} {k k' : Lit} (h : k' ≠ k) (d : DataW Unit) : valAt (D.put k d) k' = valAt D k' := by
  unfold valAt
  rw [atKey_put_other h]

/-- each id that was added is there, and what stands at it is what its LAST add left -/
theorem foldD_last (f g : Nat → Int) (sc : Script) {i : Nat} : ∀ {k}, i < k → Maps.has (foldD f sc k) (idKey sc i) = true ∧ ∃ j, j < k ∧ valAt (foldD f sc k) (idKey sc i) = f j ∧ valAt (foldD g sc k) (idKey sc i) = g j
  | 0, h => absurd h (Nat.not_lt_zero _)
  | k + 1, h => by
    unfold foldD
    by_cases e : idKey sc i = idKey sc k
    · rw [e]
      refine ⟨has_put_same (foldD_tidy f sc k).isMap (idKey_lit sc k) _, k, by omega, ?_, ?_⟩
      · rw [valAt_put_same (foldD_tidy f sc k).isMap (idKey_lit sc k)]; rfl
      · rw [valAt_put_same (foldD_tidy g sc k).isMap (idKey_lit sc k)]; rfl
    · have hi : i < k := by
        rcases Nat.lt_or_ge i k with h1 | h1
        · exact h1
        · exact absurd (by rw [show i = k by omega]) e
      obtain ⟨h1, j, hj, h2, h3⟩ := foldD_last f g sc hi
      rw [has_put_other e, valAt_put_other e, valAt_put_other e]
      exact ⟨h1, j, by omega, h2, h3⟩

/-- the record's map; the map of last places -/
def stD (sc : Script) (k : Nat) : DataW Unit := foldD (stAt sc) sc k
def lastD (sc : Script) (k : Nat) : DataW Unit := foldD (fun j => (j : Int)) sc k

theorem stD_succ (sc : Script) (k : Nat) : stD sc (k + 1) = (stD sc k).put (idKey sc k) (.lit (.int .i64 (stAt sc k))) := rfl
theorem lastD_succ (sc : Script) (k : Nat) : lastD sc (k + 1) = (lastD sc k).put (idKey sc k) (.lit (.int .i64 (k : Int))) := rfl
theorem last_size (sc : Script) (k : Nat) : Maps.size (lastD sc k) = Maps.size (stD sc k) := foldD_size _ _ sc k
theorem last_found (sc : Script) {i k : Nat} (h : i < k) : Maps.has (stD sc k) (idKey sc i) = true ∧ ∃ j, j < k ∧ valAt (stD sc k) (idKey sc i) = stAt sc j ∧ valAt (lastD sc k) (idKey sc i) = (j : Int) :=
  foldD_last _ _ sc h

end Go.Proofs.Qxb6603990aMods
