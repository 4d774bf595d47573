/-
  The plain side of seat b6605216a: bytes as a function of the index, a length, and what htmlTag and the laws' own model compute. No Go in sight.
-/
namespace Go.Proofs.Qxb6605216a.M

/-- From i on, at most 'k' bytes: the first place whose byte does not answer 'p'. -/
def skip (p : Int → Bool) (f : Nat → Int) : Nat → Nat → Nat
  | 0, i => i
  | k + 1, i => if p (f i) = true then skip p f k (i + 1) else i

/-- The first place at or after i, below n, whose byte does not answer 'p'; n if there is none. -/
def sk (p : Int → Bool) (f : Nat → Int) (n i : Nat) : Nat := skip p f (n - i) i

theorem sk_ge_end {p : Int → Bool} {f : Nat → Int} {n i : Nat} (h : n ≤ i) : sk p f n i = i := by
  unfold sk; rw [Nat.sub_eq_zero_of_le h]; rfl

theorem sk_step {p : Int → Bool} {f : Nat → Int} {n i : Nat} (h : i < n) (hp : p (f i) = true) : sk p f n i = sk p f n (i + 1) := by
  unfold sk
  rw [show n - i = (n - (i + 1)) + 1 from by omega]
  simp [skip, hp]

theorem sk_stop {p : Int → Bool} {f : Nat → Int} {n i : Nat} (h : i < n) (hp : p (f i) = false) : sk p f n i = i := by
  unfold sk
  rw [show n - i = (n - (i + 1)) + 1 from by omega]
  simp [skip, hp]

/-- All that is to be known of 'sk'. -/
theorem sk_spec (p : Int → Bool) (f : Nat → Int) (n : Nat) : ∀ k i, n - i = k → i ≤ n →
    i ≤ sk p f n i ∧ sk p f n i ≤ n ∧ (∀ j, i ≤ j → j < sk p f n i → p (f j) = true) ∧ (sk p f n i < n → p (f (sk p f n i)) = false) := by
  intro k
  induction k with
  | zero =>
    intro i hk hi
    have : i = n := by omega
    subst this
    rw [sk_ge_end (Nat.le_refl _)]
    exact ⟨Nat.le_refl _, Nat.le_refl _, fun j a b => by omega, fun h => by omega⟩
  | succ k ih =>
    intro i hk hi
    by_cases hp : p (f i) = true
    · rw [sk_step (by omega) hp]
      obtain ⟨a, b, c, d⟩ := ih (i + 1) (by omega) (by omega)
      refine ⟨by omega, b, fun j hj hj2 => ?_, d⟩
      by_cases e : j = i
      · rw [e]; exact hp
      · exact c j (by omega) hj2
    · have hp' : p (f i) = false := by simpa using hp
      rw [sk_stop (by omega) hp']
      exact ⟨Nat.le_refl _, hi, fun j a b => by omega, fun _ => hp'⟩

theorem sk_ge (p : Int → Bool) (f : Nat → Int) (n i : Nat) : i ≤ sk p f n i := by
  by_cases h : i ≤ n
  · exact (sk_spec p f n _ i rfl h).1
  · rw [sk_ge_end (by omega)]; exact Nat.le_refl _

theorem sk_le (p : Int → Bool) (f : Nat → Int) (n i : Nat) (h : i ≤ n) : sk p f n i ≤ n := (sk_spec p f n _ i rfl h).2.1

theorem sk_in (p : Int → Bool) (f : Nat → Int) (n i j : Nat) (hj : i ≤ j) (hj2 : j < sk p f n i) : p (f j) = true := by
  by_cases h : i ≤ n
  · exact (sk_spec p f n _ i rfl h).2.2.1 j hj hj2
  · rw [sk_ge_end (by omega)] at hj2; omega

theorem sk_at (p : Int → Bool) (f : Nat → Int) (n i : Nat) (h : sk p f n i < n) : p (f (sk p f n i)) = false := by
  have := sk_ge p f n i
  exact (sk_spec p f n _ i rfl (by omega)).2.2.2 h

/-- It is the only such place. -/
theorem sk_eq {p : Int → Bool} {f : Nat → Int} {n i j : Nat} (hj : i ≤ j) (hn : j ≤ n) (hin : ∀ a, i ≤ a → a < j → p (f a) = true) (hat : j < n → p (f j) = false) : sk p f n i = j := by
  have h1 := sk_ge p f n i
  have h2 := sk_le p f n i (by omega)
  rcases Nat.lt_trichotomy (sk p f n i) j with h | h | h
  · have a := sk_at p f n i (by omega)
    rw [hin _ h1 h] at a
    cases a
  · exact h
  · have a := sk_in p f n i j hj h
    rw [hat (by omega)] at a
    cases a

/-- A part of the text, counted from its own start. -/
theorem sk_shift (p : Int → Bool) (f : Nat → Int) (n a : Nat) (h : a ≤ n) : a + sk p (fun k => f (a + k)) (n - a) 0 = sk p f n a := by
  have h1 := sk_le p (fun k => f (a + k)) (n - a) 0 (by omega)
  symm
  refine sk_eq (by omega) (by omega) (fun j hj hj2 => ?_) (fun hlt => ?_)
  · have := sk_in p (fun k => f (a + k)) (n - a) 0 (j - a) (by omega) (by omega)
    simpa [show a + (j - a) = j from by omega] using this
  · exact sk_at p (fun k => f (a + k)) (n - a) 0 (by omega)

/-- Another text that is the same up to the stop, and goes at least that far. -/
theorem sk_agree {p : Int → Bool} {f g : Nat → Int} {n m i : Nat} (hlt : sk p f n i < n) (hm : sk p f n i < m) (hfg : ∀ a, i ≤ a → a ≤ sk p f n i → g a = f a) : sk p g m i = sk p f n i := by
  have h1 := sk_ge p f n i
  refine sk_eq h1 (by omega) (fun a ha hb => ?_) (fun _ => ?_)
  · rw [hfg a ha (by omega)]; exact sk_in p f n i a ha hb
  · rw [hfg _ h1 (Nat.le_refl _)]; exact sk_at p f n i hlt

/-- A text cut off at m, where the stop lies at m or beyond. -/
theorem sk_short {p : Int → Bool} {f : Nat → Int} {n m i : Nat} (hi : i ≤ m) (hm : m ≤ sk p f n i) : sk p f m i = m :=
  sk_eq hi (Nat.le_refl _) (fun a ha hb => sk_in p f n i a ha (by omega)) (fun h => by omega)

def blank (c : Int) : Bool := c == 32 || c == 9
def letter (c : Int) : Bool := (decide (97 ≤ c) && decide (c ≤ 122)) || (decide (65 ≤ c) && decide (c ≤ 90))
def digit (c : Int) : Bool := decide (48 ≤ c) && decide (c ≤ 57)
def nameC (c : Int) : Bool := letter c || digit c || c == 45
def attrC (c : Int) : Bool := letter c || digit c || c == 95 || c == 46 || c == 58 || c == 45
def startC (c : Int) : Bool := letter c || c == 95 || c == 58
def unq (c : Int) : Bool := !(c == 32 || c == 9 || c == 34 || c == 39 || c == 61 || c == 60 || c == 62 || c == 96)

/-- The place behind the attribute value that starts at i, or -1. -/
def valEnd (f : Nat → Int) (n i : Nat) : Int :=
  if n ≤ i then -1
  else if f i = 34 ∨ f i = 39 then (if sk (fun c => c != f i) f n (i + 1) < n then ((sk (fun c => c != f i) f n (i + 1) : Nat) : Int) + 1 else -1)
  else if sk unq f n i = i then -1 else ((sk unq f n i : Nat) : Int)

theorem valEnd_le (f : Nat → Int) (n i : Nat) : valEnd f n i ≤ n := by
  unfold valEnd
  split
  · omega
  · split
    · split <;> omega
    · split
      · omega
      · have := sk_le unq f n i (by omega); omega

theorem valEnd_gt (f : Nat → Int) (n i : Nat) (h : 0 ≤ valEnd f n i) : (i : Int) < valEnd f n i := by
  revert h
  unfold valEnd
  split
  · omega
  · split
    · split
      · have := sk_ge (fun c => c != f i) f n (i + 1); omega
      · omega
    · split
      · omega
      · have := sk_ge unq f n i; omega

/-- The places that the loop over the attributes comes to from i: j behind blanks, i1 behind a name, k behind blanks, v behind a value. -/
def jOf (f : Nat → Int) (n i : Nat) : Nat := sk blank f n i
def iOf (f : Nat → Int) (n i : Nat) : Nat := sk attrC f n (jOf f n i + 1)
def kOf (f : Nat → Int) (n i : Nat) : Nat := sk blank f n (iOf f n i)
def vOf (f : Nat → Int) (n i : Nat) : Int := valEnd f n (sk blank f n (kOf f n i + 1))

/-- htmlTag's loop. -/
def tagF (f : Nat → Int) (n : Nat) : Nat → Nat → Nat
  | 0, _ => 0
  | q + 1, i =>
    if jOf f n i < n ∧ f (jOf f n i) = 62 then jOf f n i + 1
    else if jOf f n i + 1 < n ∧ f (jOf f n i) = 47 ∧ f (jOf f n i + 1) = 62 then jOf f n i + 2
    else if jOf f n i = i ∨ jOf f n i = n ∨ startC (f (jOf f n i)) = false then 0
    else if kOf f n i < n ∧ f (kOf f n i) = 61 then (if vOf f n i < 0 then 0 else tagF f n q (vOf f n i).toNat)
    else tagF f n q (iOf f n i)

theorem jOf_ge (f : Nat → Int) (n i : Nat) : i ≤ jOf f n i := sk_ge _ _ _ _
theorem jOf_le (f : Nat → Int) (n i : Nat) (h : i ≤ n) : jOf f n i ≤ n := sk_le _ _ _ _ h
theorem iOf_gt (f : Nat → Int) (n i : Nat) : jOf f n i < iOf f n i := sk_ge attrC f n (jOf f n i + 1)
theorem iOf_le (f : Nat → Int) (n i : Nat) (h : jOf f n i < n) : iOf f n i ≤ n := sk_le _ _ _ _ h
theorem kOf_ge (f : Nat → Int) (n i : Nat) : iOf f n i ≤ kOf f n i := sk_ge _ _ _ _
theorem kOf_le (f : Nat → Int) (n i : Nat) (h : jOf f n i < n) : kOf f n i ≤ n := sk_le _ _ _ _ (iOf_le f n i h)
theorem vOf_le (f : Nat → Int) (n i : Nat) : vOf f n i ≤ n := valEnd_le _ _ _
theorem vOf_gt (f : Nat → Int) (n i : Nat) (h : 0 ≤ vOf f n i) : (kOf f n i : Int) < vOf f n i := by
  have h1 := valEnd_gt f n (sk blank f n (kOf f n i + 1)) h
  have h2 := sk_ge blank f n (kOf f n i + 1)
  have h3 : vOf f n i = valEnd f n (sk blank f n (kOf f n i + 1)) := rfl
  omega

/-- Fuel enough is fuel enough. -/
theorem tagF_fuel (f : Nat → Int) (n : Nat) : ∀ q q' i, i ≤ n → n - i < q → n - i < q' → tagF f n q i = tagF f n q' i := by
  intro q
  induction q with
  | zero => intro q' i _ h; omega
  | succ q ih =>
    intro q' i hi h h'
    cases q' with
    | zero => omega
    | succ q' =>
      have a1 := jOf_ge f n i
      have a2 := jOf_le f n i hi
      unfold tagF
      split
      · rfl
      · split
        · rfl
        · split
          · rfl
          · rename_i h3
            have hj : jOf f n i < n := by
              have : ¬ jOf f n i = n := fun e => h3 (Or.inr (Or.inl e))
              omega
            have b1 := iOf_gt f n i
            have b2 := iOf_le f n i hj
            have b3 := kOf_ge f n i
            have b4 := vOf_le f n i
            split
            · split
              · rfl
              · rename_i hv
                have b5 := vOf_gt f n i (by omega)
                exact ih _ _ (by omega) (by omega) (by omega)
            · exact ih _ _ (by omega) (by omega) (by omega)

/-- htmlTag's loop from i on: the size of the tag, or 0. -/
def tag (f : Nat → Int) (n i : Nat) : Nat := tagF f n (n + 1 - i) i

theorem tag_eq (f : Nat → Int) (n i : Nat) (hi : i ≤ n) : tag f n i =
    if jOf f n i < n ∧ f (jOf f n i) = 62 then jOf f n i + 1
    else if jOf f n i + 1 < n ∧ f (jOf f n i) = 47 ∧ f (jOf f n i + 1) = 62 then jOf f n i + 2
    else if jOf f n i = i ∨ jOf f n i = n ∨ startC (f (jOf f n i)) = false then 0
    else if kOf f n i < n ∧ f (kOf f n i) = 61 then (if vOf f n i < 0 then 0 else tag f n (vOf f n i).toNat)
    else tag f n (iOf f n i) := by
  have a1 := jOf_ge f n i
  have a2 := jOf_le f n i hi
  unfold tag
  rw [show n + 1 - i = (n - i) + 1 from by omega]
  rw [tagF]
  split
  · rfl
  · split
    · rfl
    · split
      · rfl
      · rename_i h3
        have hj : jOf f n i < n := by
          have : ¬ jOf f n i = n := fun e => h3 (Or.inr (Or.inl e))
          omega
        have b1 := iOf_gt f n i
        have b2 := iOf_le f n i hj
        have b3 := kOf_ge f n i
        have b4 := vOf_le f n i
        split
        · split
          · rfl
          · rename_i hv
            have b5 := vOf_gt f n i (by omega)
            exact tagF_fuel f n _ _ _ (by omega) (by omega) (by omega)
        · exact tagF_fuel f n _ _ _ (by omega) (by omega) (by omega)

/-- The model's: the place behind one attribute from p, or -1. -/
def attrEnd (f : Nat → Int) (n p : Nat) : Int :=
  if jOf f n p = p ∨ jOf f n p = n ∨ startC (f (jOf f n p)) = false then -1
  else if kOf f n p < n ∧ f (kOf f n p) = 61 ∧ 0 ≤ vOf f n p then vOf f n p
  else ((iOf f n p : Nat) : Int)

theorem attrEnd_le (f : Nat → Int) (n p : Nat) (h : p ≤ n) : attrEnd f n p ≤ n := by
  have a2 := jOf_le f n p h
  unfold attrEnd
  split
  · omega
  · rename_i h3
    have hj : jOf f n p < n := by
      have : ¬ jOf f n p = n := fun e => h3 (Or.inr (Or.inl e))
      omega
    split
    · exact vOf_le f n p
    · have := iOf_le f n p hj; omega

theorem attrEnd_gt (f : Nat → Int) (n p : Nat) (h : 0 ≤ attrEnd f n p) : (p : Int) < attrEnd f n p := by
  have a1 := jOf_ge f n p
  have b1 := iOf_gt f n p
  have b3 := kOf_ge f n p
  revert h
  unfold attrEnd
  split
  · omega
  · split
    · intro h; have := vOf_gt f n p h; omega
    · omega

/-- What stands behind the attributes: blanks, a slash, the bracket. -/
def tailOf (f : Nat → Int) (n p : Nat) : Nat :=
  if jOf f n p < n ∧ f (jOf f n p) = 47 then (if jOf f n p + 1 < n ∧ f (jOf f n p + 1) = 62 then jOf f n p + 2 else 0)
  else if jOf f n p < n ∧ f (jOf f n p) = 62 then jOf f n p + 1 else 0

theorem startC_62 : startC 62 = false := by decide
theorem startC_47 : startC 47 = false := by decide
theorem startC_61 : startC 61 = false := by decide

/-- Where no attribute follows, the tag is what the tail says. -/
theorem tag_tail (f : Nat → Int) (n p : Nat) (hp : p ≤ n) (h : attrEnd f n p < 0) : tag f n p = tailOf f n p := by
  rw [tag_eq f n p hp]
  have a2 := jOf_le f n p hp
  unfold tailOf
  by_cases h1 : jOf f n p < n ∧ f (jOf f n p) = 62
  · rw [if_pos h1, if_neg (by rw [h1.2]; omega), if_pos h1]
  · rw [if_neg h1]
    by_cases h2 : jOf f n p + 1 < n ∧ f (jOf f n p) = 47 ∧ f (jOf f n p + 1) = 62
    · rw [if_pos h2, if_pos ⟨by omega, h2.2.1⟩, if_pos ⟨h2.1, h2.2.2⟩]
    · rw [if_neg h2]
      have h3 : jOf f n p = p ∨ jOf f n p = n ∨ startC (f (jOf f n p)) = false := by
        refine Classical.byContradiction fun h3 => ?_
        unfold attrEnd at h
        rw [if_neg h3] at h
        split at h <;> omega
      rw [if_pos h3]
      by_cases h4 : jOf f n p < n ∧ f (jOf f n p) = 47
      · rw [if_pos h4, if_neg (fun e => h2 ⟨e.1, h4.2, e.2⟩)]
      · rw [if_neg h4, if_neg h1]

/-- Where one follows, the tag from here is the tag from behind it. -/
theorem tag_attr (f : Nat → Int) (n p : Nat) (hp : p ≤ n) (h : 0 ≤ attrEnd f n p) : tag f n p = tag f n (attrEnd f n p).toNat := by
  have a2 := jOf_le f n p hp
  have h3 : ¬ (jOf f n p = p ∨ jOf f n p = n ∨ startC (f (jOf f n p)) = false) := by
    intro h3
    unfold attrEnd at h
    rw [if_pos h3] at h
    omega
  have hs : startC (f (jOf f n p)) = true := by
    cases e : startC (f (jOf f n p)) with
    | true => rfl
    | false => exact absurd (Or.inr (Or.inr e)) h3
  have hj : jOf f n p < n := by
    have : ¬ jOf f n p = n := fun e => h3 (Or.inr (Or.inl e))
    omega
  have h1 : ¬ (jOf f n p < n ∧ f (jOf f n p) = 62) := by
    rintro ⟨_, e⟩; rw [e, startC_62] at hs; cases hs
  have h2 : ¬ (jOf f n p + 1 < n ∧ f (jOf f n p) = 47 ∧ f (jOf f n p + 1) = 62) := by
    rintro ⟨_, e, _⟩; rw [e, startC_47] at hs; cases hs
  rw [tag_eq f n p hp, if_neg h1, if_neg h2, if_neg h3]
  unfold attrEnd
  rw [if_neg h3]
  by_cases h4 : kOf f n p < n ∧ f (kOf f n p) = 61
  · rw [if_pos h4]
    by_cases h5 : vOf f n p < 0
    · rw [if_pos h5, if_neg (by omega)]
      -- an '=' with no value behind it: the model takes the bare name, and finds no tag behind it either
      have b2 := iOf_le f n p hj
      have hk : jOf f n (iOf f n p) = kOf f n p := rfl
      rw [Int.toNat_natCast, tag_eq f n _ b2, hk, h4.2]
      rw [if_neg (by omega), if_neg (by omega), if_pos (Or.inr (Or.inr startC_61))]
    · rw [if_neg h5, if_pos ⟨h4.1, h4.2, by omega⟩]
  · rw [if_neg h4, if_neg (fun e => h4 ⟨e.1, e.2.1⟩), Int.toNat_natCast]

/-- Where the name begins: 1, or 2 in a closing tag. -/
def isClose (f : Nat → Int) (n : Nat) : Bool := decide (1 < n) && f 1 == 47
def nameAt (f : Nat → Int) (n : Nat) : Nat := if isClose f n = true then 2 else 1
/-- Behind the name. -/
def nameEnd (f : Nat → Int) (n : Nat) : Nat := sk nameC f n (nameAt f n + 1)
def hasName (f : Nat → Int) (n : Nat) : Bool := decide (nameAt f n < n) && letter (f (nameAt f n))
/-- A closing tag's end from p on. -/
def closeEnd (f : Nat → Int) (n p : Nat) : Nat := if jOf f n p < n ∧ f (jOf f n p) = 62 then jOf f n p + 1 else 0
/-- The whole: the tag's size, or 0. -/
def size (f : Nat → Int) (n : Nat) : Nat :=
  if hasName f n = true then (if isClose f n = true then closeEnd f n (nameEnd f n) else tag f n (nameEnd f n)) else 0

theorem nameEnd_gt (f : Nat → Int) (n : Nat) : nameAt f n < nameEnd f n := sk_ge nameC f n (nameAt f n + 1)
theorem nameEnd_le (f : Nat → Int) (n : Nat) (h : nameAt f n < n) : nameEnd f n ≤ n := sk_le _ _ _ _ h

end Go.Proofs.Qxb6605216a.M
