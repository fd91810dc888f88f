/-
  PLAIN: the JSON escape table on numbers; no Go in sight.
-/
import Derived.WalkKit
namespace Go.Proofs.Qxb6604100aMods

/-- a hexadecimal digit, lower case -/
def hexd (d : Int) : Int := if d < 10 then 48 + d else 87 + d

/-- one byte's JSON text -/
def esc1 (c : Int) : List Int :=
  if c = 34 ∨ c = 92 then [92, c] else if c = 10 then [92, 110] else if c = 9 then [92, 116] else if c < 32 then [92, 117, 48, 48, hexd (c / 16), hexd (c % 16)] else [c]

def esc : List Int → List Int
  | [] => []
  | c :: r => esc1 c ++ esc r

theorem esc_append : ∀ a b : List Int, esc (a ++ b) = esc a ++ esc b
  | [], _ => rfl
  | c :: r, b => by
    show esc1 c ++ esc (r ++ b) = esc1 c ++ esc r ++ esc b
    rw [esc_append r b, List.append_assoc]

theorem esc_snoc (a : List Int) (c : Int) : esc (a ++ [c]) = esc a ++ esc1 c := by
  rw [esc_append]
  show esc a ++ (esc1 c ++ []) = _
  rw [List.append_nil]

theorem esc1_len (c : Int) : 1 ≤ (esc1 c).length ∧ (esc1 c).length ≤ 6 := by
  unfold esc1
  split
  · simp
  · split
    · simp
    · split
      · simp
      · split <;> simp

theorem esc_len : ∀ a : List Int, a.length ≤ (esc a).length ∧ (esc a).length ≤ 6 * a.length
  | [] => by simp [esc]
  | c :: r => by
    have h1 := esc1_len c
    have h2 := esc_len r
    simp only [esc, List.length_append, List.length_cons]
    omega

theorem take_snoc (ys : List Int) {k : Nat} (h : k < ys.length) : ys.take (k + 1) = ys.take k ++ [ys.getD k 0] := by
  rw [List.take_succ_eq_append_getElem h]
  simp [List.getD, h]

theorem esc_take_succ (ys : List Int) {k : Nat} (h : k < ys.length) : esc (ys.take (k + 1)) = esc (ys.take k) ++ esc1 (ys.getD k 0) := by
  rw [take_snoc ys h, esc_snoc]

/-- the bytes from st up to k -/
def seg (ys : List Int) (st k : Nat) : List Int := (ys.drop st).take (k - st)

theorem seg_self (ys : List Int) (k : Nat) : seg ys k k = [] := by simp [seg]

theorem seg_len (ys : List Int) {st k : Nat} (h1 : st ≤ k) (h2 : k ≤ ys.length) : (seg ys st k).length = k - st := by
  simp [seg]
  omega

theorem seg_at (ys : List Int) {st k j : Nat} (h : j < k - st) : (seg ys st k).getD j 0 = ys.getD (st + j) 0 := by
  simp [seg, List.getD, h]

theorem seg_succ (ys : List Int) {st k : Nat} (h1 : st ≤ k) (h2 : k < ys.length) : seg ys st (k + 1) = seg ys st k ++ [ys.getD k 0] := by
  unfold seg
  rw [show k + 1 - st = (k - st) + 1 by omega, take_snoc _ (by simp; omega)]
  congr 2
  simp [List.getD]
  congr 2
  omega

/-- WHAT HAS BEEN WRITTEN AND WHAT IS STILL TO BE COPIED make up the text so far -/
def Sofar (pre ys cur : List Int) (st k : Nat) : Prop := cur ++ seg ys st k = pre ++ esc (ys.take k)

theorem sofar_zero (pre ys : List Int) : Sofar pre ys pre 0 0 := by simp [Sofar, seg, esc]

theorem sofar_plain {pre ys cur : List Int} {st k : Nat} (h : Sofar pre ys cur st k) (h1 : st ≤ k) (h2 : k < ys.length) (hp : esc1 (ys.getD k 0) = [ys.getD k 0]) : Sofar pre ys cur st (k + 1) := by
  unfold Sofar at *
  rw [seg_succ ys h1 h2, ← List.append_assoc, h, esc_take_succ ys h2, hp, List.append_assoc]

theorem sofar_special {pre ys cur : List Int} {st k : Nat} (h : Sofar pre ys cur st k) (h2 : k < ys.length) : Sofar pre ys (cur ++ seg ys st k ++ esc1 (ys.getD k 0)) (k + 1) (k + 1) := by
  unfold Sofar at *
  rw [seg_self, List.append_nil, h, esc_take_succ ys h2, List.append_assoc]

theorem sofar_end {pre ys cur : List Int} {st : Nat} (h : Sofar pre ys cur st ys.length) : cur ++ seg ys st ys.length = pre ++ esc ys := by
  unfold Sofar at h
  rw [h, List.take_length]

theorem sofar_len {pre ys cur : List Int} {st k : Nat} (h : Sofar pre ys cur st k) (hk : k ≤ ys.length) : cur.length + (seg ys st k).length ≤ pre.length + 6 * ys.length := by
  have e := congrArg List.length h
  have h1 := esc_len (ys.take k)
  simp only [List.length_append] at e
  have h2 : (ys.take k).length ≤ ys.length := by simp; omega
  omega

end Go.Proofs.Qxb6604100aMods
