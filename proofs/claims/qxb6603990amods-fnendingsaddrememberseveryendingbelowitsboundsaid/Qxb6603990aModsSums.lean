/-
  PLAIN: sums over a map as read; no Go in sight.
-/
import Derived.Maps.OwnSet
namespace Go.Proofs.Qxb6603990aMods
open Go.Maps

section
variable {H : Type}

/-- the number that a datum holds (0 where it is none) -/
def numOf : DataW H → Int
  | .lit (.int _ n) => n
  | _ => 0

/-- the sum of all entries -/
def sumL : List (Lit × DataW H) → Int
  | [] => 0
  | p :: r => numOf p.2 + sumL r

def sumOf : DataW H → Int
  | .map es => sumL es
  | _ => 0

/-- the sum of those entries that are no longer to come -/
def gone (left : Lit → Bool) : List (Lit × DataW H) → Int
  | [] => 0
  | p :: r => (if left p.1 = true then 0 else numOf p.2) + gone left r

/-- what a map as read holds at a key, 0 if none -/
def valAt (D : DataW H) (k : Lit) : Int := numOf (D.atKey k (.lit (.int .i64 0)))

theorem gone_of_all {left : Lit → Bool} : ∀ {es : List (Lit × DataW H)}, (∀ p ∈ es, left p.1 = true) → gone left es = 0
  | [], _ => rfl
  | p :: r, h => by
    unfold gone
    rw [if_pos (h p (by simp)), gone_of_all (fun q hq => h q (by simp [hq]))]
    rfl

theorem gone_start {es : List (Lit × DataW H)} (hk : ∀ p ∈ es, WideAt.IsKeyLit p.1) : gone (Maps.has (.map es)) es = 0 :=
  gone_of_all (fun p hp => List.any_eq_true.2 ⟨p, hp, WideAt.sameKey_self (hk p hp)⟩)

theorem gone_end {left : Lit → Bool} (hl : ∀ k, left k = false) : ∀ es : List (Lit × DataW H), gone left es = sumL es
  | [] => rfl
  | p :: r => by
    unfold gone sumL
    rw [gone_end hl r, hl p.1]
    simp

/-- a key that stands nowhere: striking it turns nothing -/
theorem gone_strike_none {left : Lit → Bool} {kl : Lit} : ∀ {es : List (Lit × DataW H)}, (∀ p ∈ es, p.1.sameKey kl = false) → gone (fun z => left z && !z.sameKey kl) es = gone left es
  | [], _ => rfl
  | p :: r, h => by
    unfold gone
    rw [gone_strike_none (fun q hq => h q (by simp [hq])), h p (by simp)]
    simp

theorem gone_strike {left : Lit → Bool} {kl : Lit} {c : Int} (hlk : left kl = true) : ∀ {es : List (Lit × DataW H)}, es.Pairwise (fun p q => p.1 ≠ q.1) →
    (∀ z, (DataW.map es).atKey kl z = .lit (.int .i64 c)) → gone (fun z => left z && !z.sameKey kl) es = gone left es + c
  | [], _, hat => by
    have h := hat .nil
    simp [DataW.atKey] at h
  | p :: r, hp, hat => by
    obtain ⟨h1, h2⟩ := List.pairwise_cons.1 hp
    cases hs : p.1.sameKey kl
    · have ih := gone_strike hlk h2 (c := c) (fun z => by
        have h := hat z
        simp only [DataW.atKey, List.find?_cons, hs] at h
        simpa only [DataW.atKey] using h)
      unfold gone
      rw [ih, hs]
      simp
      omega
    · have e : p.1 = kl := WideAt.sameKey_eq hs
      have hv : numOf p.2 = c := by
        have h := hat .nil
        simp only [DataW.atKey, List.find?_cons, hs] at h
        rw [h]
        rfl
      have hn : ∀ q ∈ r, q.1.sameKey kl = false := fun q hq => sameKey_ne (fun e' => h1 q hq (e.trans e'.symm))
      unfold gone
      rw [gone_strike_none hn, hs, e, hlk, hv]
      simp
      omega

/-! ### put, del -/
theorem sumL_insert (x : Lit × DataW H) : ∀ l : List (Lit × DataW H), sumL (DataW.insert x l) = numOf x.2 + sumL l
  | [] => rfl
  | y :: r => by
    unfold DataW.insert
    split
    · rfl
    · simp only [sumL, sumL_insert x r]
      omega

theorem sumL_strike_none {k : Lit} {es : List (Lit × DataW H)} (h : ∀ p ∈ es, p.1.sameKey k = false) : (es.filter fun p => !p.1.sameKey k) = es :=
  List.filter_eq_self.2 (fun p hp => by simp [h p hp])

theorem sumL_del {k : Lit} : ∀ {es : List (Lit × DataW H)}, es.Pairwise (fun p q => p.1 ≠ q.1) → sumL es = valAt (.map es) k + sumL (es.filter fun p => !p.1.sameKey k)
  | [], _ => by simp [sumL, valAt, numOf, DataW.atKey]
  | p :: r, hp => by
    obtain ⟨h1, h2⟩ := List.pairwise_cons.1 hp
    have ih := sumL_del (k := k) h2
    cases hs : p.1.sameKey k
    · have e : valAt (.map (p :: r)) k = valAt (.map r) k := by simp [valAt, DataW.atKey, hs]
      rw [e]
      simp only [List.filter_cons, hs, Bool.not_false, if_true, sumL]
      omega
    · have e : p.1 = k := WideAt.sameKey_eq hs
      have hn : ∀ q ∈ r, q.1.sameKey k = false := fun q hq => sameKey_ne (fun e' => h1 q hq (e.trans e'.symm))
      have ev : valAt (.map (p :: r)) k = numOf p.2 := by simp [valAt, DataW.atKey, hs]
      rw [ev]
      simp only [List.filter_cons, hs, Bool.not_true, Bool.false_eq_true, if_false, sumL]
      rw [sumL_strike_none hn]

theorem sum_del {D : DataW H} (h : Tidy D) (k : Lit) : sumOf D = valAt D k + sumOf (D.del k) := by
  obtain ⟨es, rfl, hp⟩ := h
  exact sumL_del hp

theorem sum_put {D : DataW H} (h : Tidy D) (k : Lit) (d : DataW H) : sumOf (D.put k d) = sumOf D - valAt D k + numOf d := by
  have hd := sum_del h k
  obtain ⟨es, rfl, hp⟩ := h
  have e : sumOf ((DataW.map es).put k d) = numOf d + sumOf ((DataW.map es).del k) := sumL_insert (k, d) _
  omega

theorem valAt_put_same {D : DataW H} (hD : IsMap D) {k : Lit} (hk : WideAt.IsKeyLit k) (d : DataW H) : valAt (D.put k d) k = numOf d := by
  unfold valAt
  rw [atKey_put_same hD hk]

theorem valAt_not_has {D : DataW H} {k : Lit} (h : Maps.has D k = false) : valAt D k = 0 := by
  unfold valAt
  rw [atKey_of_not_has h]
  rfl

/-! ### the sum over a list of keys -/
def overKeys (D : DataW H) : List Lit → Int
  | [] => 0
  | k :: r => valAt D k + overKeys D r

theorem overKeys_snoc (D : DataW H) (k : Lit) : ∀ l : List Lit, overKeys D (l ++ [k]) = overKeys D l + valAt D k
  | [] => by simp [overKeys]
  | x :: r => by
    simp only [List.cons_append, overKeys, overKeys_snoc D k r]
    omega

theorem overKeys_del {D : DataW H} {k : Lit} : ∀ {l : List Lit}, (∀ x ∈ l, x ≠ k) → overKeys (D.del k) l = overKeys D l
  | [], _ => rfl
  | x :: r, h => by
    simp only [overKeys]
    rw [overKeys_del (fun y hy => h y (by simp [hy]))]
    unfold valAt
    rw [atKey_del_other (h x (by simp))]

/-- A LIST THAT NAMES EVERY KEY ONCE: the sum over it is the sum over the map. -/
theorem sum_listed : ∀ {l : List Lit} {D : DataW H}, Tidy D → Maps.size D = l.length → (∀ x ∈ l, Maps.has D x = true) → l.Pairwise (fun a b => a ≠ b) → sumOf D = overKeys D l
  | [], D, ht, hs, _, _ => by
    obtain ⟨es, rfl, _⟩ := ht
    have : es = [] := List.eq_nil_of_length_eq_zero hs
    subst this
    rfl
  | k :: r, D, ht, hs, hh, hp => by
    obtain ⟨h1, h2⟩ := List.pairwise_cons.1 hp
    have hk := hh k (by simp)
    have hz := size_del (k := k) ht
    rw [hk] at hz
    have ih := sum_listed (l := r) (D := D.del k) (ht.del k) (by simp at hz hs; omega) (fun x hx => by rw [has_del_other (h1 x hx).symm]; exact hh x (by simp [hx])) h2
    rw [sum_del ht k, ih, overKeys_del (fun x hx => (h1 x hx).symm)]
    rfl

end

end Go.Proofs.Qxb6603990aMods
