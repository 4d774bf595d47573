/-
  The plain side of seat b6605216a, for the second law: a tag found ends in '>', is found alike in its own bytes and whatever follows them, and is not found once its last '>' is cut off. No Go in sight.
-/
import Derived.Test.Qxb6605216aMath
namespace Go.Proofs.Qxb6605216a.M
set_option linter.unusedVariables false

/-- A text cut off at m, at or behind the stop. -/
theorem sk_cut {p : Int → Bool} {f : Nat → Int} {n m i : Nat} (hi : i ≤ n) (hm : sk p f n i ≤ m) (hmn : m ≤ n) : sk p f m i = sk p f n i := by
  have h1 := sk_ge p f n i
  rcases Nat.lt_or_ge (sk p f n i) m with h | h
  · exact sk_agree (by omega) h (fun _ _ _ => rfl)
  · have e : sk p f n i = m := by omega
    rw [e]
    exact sk_short (by omega) (by omega)

/-- The value's end does not hang on what stands at or behind it. -/
theorem valEnd_agree {f g : Nat → Int} {n m u : Nat} (hv : 0 ≤ valEnd f n u) (hlt : valEnd f n u < n) (hm : valEnd f n u < m) (hfg : ∀ a : Nat, (a : Int) ≤ valEnd f n u → g a = f a) : valEnd g m u = valEnd f n u := by
  have hgt := valEnd_gt f n u hv
  have hun : u < n := by omega
  have hu : g u = f u := hfg u (by omega)
  revert hv hlt hm hfg hgt
  unfold valEnd
  rw [if_neg (show ¬ n ≤ u from by omega), hu]
  by_cases hq : f u = 34 ∨ f u = 39
  · rw [if_pos hq, if_pos hq]
    by_cases he : sk (fun c => c != f u) f n (u + 1) < n
    · rw [if_pos he]
      intro hv hlt hm hfg hgt
      have e : sk (fun c => c != f u) g m (u + 1) = sk (fun c => c != f u) f n (u + 1) := sk_agree he (by omega) (fun a _ hb => hfg a (by omega))
      rw [e, if_neg (by omega), if_pos (by omega)]
    · rw [if_neg he]; intro hv; omega
  · rw [if_neg hq, if_neg hq]
    by_cases he : sk unq f n u = u
    · rw [if_pos he]; intro hv; omega
    · rw [if_neg he]
      intro hv hlt hm hfg hgt
      have e : sk unq g m u = sk unq f n u := sk_agree (by omega) (by omega) (fun a _ hb => hfg a (by omega))
      rw [e, if_neg (by omega), if_neg he]

/-- .. and a text cut off at or behind it. -/
theorem valEnd_cut {f : Nat → Int} {n m u : Nat} (hv : 0 ≤ valEnd f n u) (hm : valEnd f n u ≤ m) (hmn : m ≤ n) : valEnd f m u = valEnd f n u := by
  have hgt := valEnd_gt f n u hv
  revert hv hm hgt
  unfold valEnd
  by_cases hun : n ≤ u
  · rw [if_pos hun]; intro hv; omega
  · rw [if_neg hun]
    by_cases hq : f u = 34 ∨ f u = 39
    · rw [if_pos hq, if_pos hq]
      by_cases he : sk (fun c => c != f u) f n (u + 1) < n
      · rw [if_pos he]
        intro hv hm hgt
        have e : sk (fun c => c != f u) f m (u + 1) = sk (fun c => c != f u) f n (u + 1) := sk_cut (by omega) (by omega) hmn
        rw [e, if_neg (by omega), if_pos (by omega)]
      · rw [if_neg he]; intro hv; omega
    · rw [if_neg hq, if_neg hq]
      by_cases he : sk unq f n u = u
      · rw [if_pos he]; intro hv; omega
      · rw [if_neg he]
        intro hv hm hgt
        have e : sk unq f m u = sk unq f n u := sk_cut (by omega) (by omega) hmn
        rw [e, if_neg (by omega), if_neg he]

/-- What a tag of size r from i on says. -/
structure Ends (f : Nat → Int) (n i r : Nat) : Prop where
  jlt : jOf f n i < r
  le : r ≤ n
  close : f (r - 1) = 62
  alike : ∀ g m, r ≤ m → (∀ a, a < r → g a = f a) → tag g m i = r
  cut : tag f (r - 1) i = 0

theorem ends_A {f : Nat → Int} {n i : Nat} (hi : i ≤ n) (h1 : jOf f n i < n) (h2 : f (jOf f n i) = 62) : Ends f n i (jOf f n i + 1) := by
  have a1 := jOf_ge f n i
  refine ⟨by omega, by omega, by simpa using h2, fun g m hm hg => ?_, ?_⟩
  · have e : jOf g m i = jOf f n i := sk_agree h1 (by unfold jOf at hm; omega) (fun a _ hb => hg a (by unfold jOf; omega))
    rw [tag_eq g m i (by omega), e, if_pos ⟨by omega, by rw [hg _ (by omega)]; exact h2⟩]
  · rw [show jOf f n i + 1 - 1 = jOf f n i from by omega]
    have e : jOf f (jOf f n i) i = jOf f n i := sk_short a1 (Nat.le_refl _)
    rw [tag_eq f _ i a1, e, if_neg (by omega), if_neg (by omega), if_pos (Or.inr (Or.inl rfl))]

theorem ends_B {f : Nat → Int} {n i : Nat} (hi : i ≤ n) (h1 : jOf f n i + 1 < n) (h2 : f (jOf f n i) = 47) (h3 : f (jOf f n i + 1) = 62) : Ends f n i (jOf f n i + 2) := by
  have a1 := jOf_ge f n i
  refine ⟨by omega, by omega, h3, fun g m hm hg => ?_, ?_⟩
  · have e : jOf g m i = jOf f n i := sk_agree (show sk blank f n i < n from by unfold jOf at h1; omega) (by unfold jOf at hm; omega) (fun a _ hb => hg a (by unfold jOf; omega))
    have g1 : g (jOf f n i) = 47 := by rw [hg _ (by omega)]; exact h2
    have g2 : g (jOf f n i + 1) = 62 := by rw [hg _ (by omega)]; exact h3
    rw [tag_eq g m i (by omega), e, if_neg (by rw [g1]; omega), if_pos ⟨by omega, g1, g2⟩]
  · rw [show jOf f n i + 2 - 1 = jOf f n i + 1 from by omega]
    have e : jOf f (jOf f n i + 1) i = jOf f n i := sk_cut hi (by unfold jOf; omega) (by omega)
    rw [tag_eq f _ i (by omega), e, if_neg (by rw [h2]; omega), if_neg (by omega), if_pos (Or.inr (Or.inr (by rw [h2]; exact startC_47)))]

theorem start_no {c : Int} (h : startC c = true) : ¬ c = 62 ∧ ¬ c = 47 := by
  constructor
  · intro e; rw [e, startC_62] at h; cases h
  · intro e; rw [e, startC_47] at h; cases h

theorem ends_val {f : Nat → Int} {n i r : Nat} (hi : i ≤ n) (h1 : ¬ jOf f n i = i) (h2 : jOf f n i < n) (h3 : startC (f (jOf f n i)) = true) (h4 : kOf f n i < n) (h5 : f (kOf f n i) = 61) (h6 : ¬ vOf f n i < 0) (ih : Ends f n (vOf f n i).toNat r) : Ends f n i r := by
  have a1 := jOf_ge f n i
  have b1 := iOf_gt f n i
  have b3 := kOf_ge f n i
  have b4 := vOf_le f n i
  have b5 := vOf_gt f n i (by omega)
  have b6 := jOf_ge f n (vOf f n i).toNat
  have b7 := ih.jlt
  have b8 := ih.le
  have hs := start_no h3
  have hu1 := sk_ge blank f n (kOf f n i + 1)
  have hu2 : ((sk blank f n (kOf f n i + 1) : Nat) : Int) < vOf f n i := valEnd_gt f n _ (show 0 ≤ valEnd f n (sk blank f n (kOf f n i + 1)) from by unfold vOf at h6; omega)
  refine ⟨by omega, b8, ih.close, fun g m hm hg => ?_, ?_⟩
  · have e1 : jOf g m i = jOf f n i := sk_agree h2 (show jOf f n i < m from by omega) (fun a _ hb => hg a (by unfold jOf at *; omega))
    have e2 : iOf g m i = iOf f n i := by
      show sk attrC g m (jOf g m i + 1) = sk attrC f n (jOf f n i + 1)
      rw [e1]
      exact sk_agree (show iOf f n i < n from by omega) (show iOf f n i < m from by omega) (fun a _ hb => hg a (by unfold iOf at *; omega))
    have e3 : kOf g m i = kOf f n i := by
      show sk blank g m (iOf g m i) = sk blank f n (iOf f n i)
      rw [e2]
      exact sk_agree (show kOf f n i < n from h4) (show kOf f n i < m from by omega) (fun a _ hb => hg a (by unfold kOf at *; omega))
    have e4 : sk blank g m (kOf f n i + 1) = sk blank f n (kOf f n i + 1) := sk_agree (by omega) (by omega) (fun a _ hb => hg a (by omega))
    have e5 : vOf g m i = vOf f n i := by
      show valEnd g m (sk blank g m (kOf g m i + 1)) = valEnd f n (sk blank f n (kOf f n i + 1))
      rw [e3, e4]
      exact valEnd_agree (show 0 ≤ vOf f n i from by omega) (show vOf f n i < n from by omega) (show vOf f n i < m from by omega) (fun a hb => hg a (by have : (a : Int) ≤ vOf f n i := hb; omega))
    have gj : g (jOf f n i) = f (jOf f n i) := hg _ (by omega)
    have gk : g (kOf f n i) = f (kOf f n i) := hg _ (by omega)
    rw [tag_eq g m i (by omega), e1, gj, if_neg (fun x => hs.1 x.2), if_neg (fun x => hs.2 x.2.1), if_neg (by simp [h1, h3]; omega), e3, gk, if_pos ⟨by omega, h5⟩, e5, if_neg h6]
    exact ih.alike g m hm hg
  · have hn' : r - 1 ≤ n := by omega
    have e1 : jOf f (r - 1) i = jOf f n i := sk_cut hi (show jOf f n i ≤ r - 1 from by omega) hn'
    have e2 : iOf f (r - 1) i = iOf f n i := by
      show sk attrC f (r - 1) (jOf f (r - 1) i + 1) = sk attrC f n (jOf f n i + 1)
      rw [e1]
      exact sk_cut h2 (show iOf f n i ≤ r - 1 from by omega) hn'
    have e3 : kOf f (r - 1) i = kOf f n i := by
      show sk blank f (r - 1) (iOf f (r - 1) i) = sk blank f n (iOf f n i)
      rw [e2]
      exact sk_cut (by omega) (show kOf f n i ≤ r - 1 from by omega) hn'
    have e4 : sk blank f (r - 1) (kOf f n i + 1) = sk blank f n (kOf f n i + 1) := sk_cut h4 (by omega) hn'
    have e5 : vOf f (r - 1) i = vOf f n i := by
      show valEnd f (r - 1) (sk blank f (r - 1) (kOf f (r - 1) i + 1)) = valEnd f n (sk blank f n (kOf f n i + 1))
      rw [e3, e4]
      exact valEnd_cut (show 0 ≤ vOf f n i from by omega) (show vOf f n i ≤ ((r - 1 : Nat) : Int) from by omega) hn'
    rw [tag_eq f (r - 1) i (by omega), e1, if_neg (fun x => hs.1 x.2), if_neg (fun x => hs.2 x.2.1), if_neg (by simp [h1, h3]; omega), e3, if_pos ⟨by omega, h5⟩, e5, if_neg h6]
    exact ih.cut

theorem ends_bare {f : Nat → Int} {n i r : Nat} (hi : i ≤ n) (h1 : ¬ jOf f n i = i) (h2 : jOf f n i < n) (h3 : startC (f (jOf f n i)) = true) (h4 : ¬ (kOf f n i < n ∧ f (kOf f n i) = 61)) (ih : Ends f n (iOf f n i) r) : Ends f n i r := by
  have a1 := jOf_ge f n i
  have b1 := iOf_gt f n i
  have b2 := iOf_le f n i h2
  have b3 := kOf_ge f n i
  have b7 : kOf f n i < r := ih.jlt
  have b8 := ih.le
  have hs := start_no h3
  have hk : ¬ f (kOf f n i) = 61 := fun e => h4 ⟨by omega, e⟩
  refine ⟨by omega, b8, ih.close, fun g m hm hg => ?_, ?_⟩
  · have e1 : jOf g m i = jOf f n i := sk_agree h2 (show jOf f n i < m from by omega) (fun a _ hb => hg a (by unfold jOf at *; omega))
    have e2 : iOf g m i = iOf f n i := by
      show sk attrC g m (jOf g m i + 1) = sk attrC f n (jOf f n i + 1)
      rw [e1]
      exact sk_agree (show iOf f n i < n from by omega) (show iOf f n i < m from by omega) (fun a _ hb => hg a (by unfold iOf at *; omega))
    have e3 : kOf g m i = kOf f n i := by
      show sk blank g m (iOf g m i) = sk blank f n (iOf f n i)
      rw [e2]
      exact sk_agree (show kOf f n i < n from by omega) (show kOf f n i < m from by omega) (fun a _ hb => hg a (by unfold kOf at *; omega))
    have gj : g (jOf f n i) = f (jOf f n i) := hg _ (by omega)
    have gk : g (kOf f n i) = f (kOf f n i) := hg _ (by omega)
    rw [tag_eq g m i (by omega), e1, gj, if_neg (fun x => hs.1 x.2), if_neg (fun x => hs.2 x.2.1), if_neg (by simp [h1, h3]; omega), e3, gk, if_neg (fun x => hk x.2), e2]
    exact ih.alike g m hm hg
  · have hn' : r - 1 ≤ n := by omega
    have e1 : jOf f (r - 1) i = jOf f n i := sk_cut hi (show jOf f n i ≤ r - 1 from by omega) hn'
    have e2 : iOf f (r - 1) i = iOf f n i := by
      show sk attrC f (r - 1) (jOf f (r - 1) i + 1) = sk attrC f n (jOf f n i + 1)
      rw [e1]
      exact sk_cut h2 (show iOf f n i ≤ r - 1 from by omega) hn'
    have e3 : kOf f (r - 1) i = kOf f n i := by
      show sk blank f (r - 1) (iOf f (r - 1) i) = sk blank f n (iOf f n i)
      rw [e2]
      exact sk_cut (by omega) (show kOf f n i ≤ r - 1 from by omega) hn'
    rw [tag_eq f (r - 1) i (by omega), e1, if_neg (fun x => hs.1 x.2), if_neg (fun x => hs.2 x.2.1), if_neg (by simp [h1, h3]; omega), e3, if_neg (fun x => hk x.2), e2]
    exact ih.cut

theorem tag_ends (f : Nat → Int) (n : Nat) : ∀ q i r, n - i < q → i ≤ n → tag f n i = r → ¬ r = 0 → Ends f n i r := by
  intro q
  induction q with
  | zero => intro i r h; omega
  | succ q ih =>
    intro i r hq hi ht hr
    have a1 := jOf_ge f n i
    have a2 := jOf_le f n i hi
    rw [tag_eq f n i hi] at ht
    by_cases hA : jOf f n i < n ∧ f (jOf f n i) = 62
    · rw [if_pos hA] at ht
      subst ht
      exact ends_A hi hA.1 hA.2
    · rw [if_neg hA] at ht
      by_cases hB : jOf f n i + 1 < n ∧ f (jOf f n i) = 47 ∧ f (jOf f n i + 1) = 62
      · rw [if_pos hB] at ht
        subst ht
        exact ends_B hi hB.1 hB.2.1 hB.2.2
      · rw [if_neg hB] at ht
        by_cases hC : jOf f n i = i ∨ jOf f n i = n ∨ startC (f (jOf f n i)) = false
        · rw [if_pos hC] at ht
          exact absurd ht.symm hr
        · rw [if_neg hC] at ht
          have c1 : ¬ jOf f n i = i := fun e => hC (Or.inl e)
          have c2 : jOf f n i < n := by
            have : ¬ jOf f n i = n := fun e => hC (Or.inr (Or.inl e))
            omega
          have c3 : startC (f (jOf f n i)) = true := by
            cases e : startC (f (jOf f n i)) with
            | true => rfl
            | false => exact absurd (Or.inr (Or.inr e)) hC
          have b1 := iOf_gt f n i
          have b2 := iOf_le f n i c2
          have b3 := kOf_ge f n i
          have b4 := vOf_le f n i
          by_cases hD : kOf f n i < n ∧ f (kOf f n i) = 61
          · rw [if_pos hD] at ht
            by_cases hv : vOf f n i < 0
            · rw [if_pos hv] at ht
              exact absurd ht.symm hr
            · rw [if_neg hv] at ht
              have b5 := vOf_gt f n i (by omega)
              exact ends_val hi c1 c2 c3 hD.1 hD.2 hv (ih _ r (by omega) (by omega) ht hr)
          · rw [if_neg hD] at ht
            exact ends_bare hi c1 c2 c3 hD (ih _ r (by omega) b2 ht hr)

/-- What the whole says of a tag of size r. -/
structure Whole (f : Nat → Int) (n r : Nat) : Prop where
  two : 3 ≤ r
  le : r ≤ n
  close : f (r - 1) = 62
  nlt : nameEnd f n < r
  alike : ∀ g m, r ≤ m → (∀ a, a < r → g a = f a) → size g m = r ∧ nameAt g m = nameAt f n ∧ nameEnd g m = nameEnd f n
  cut : size f (r - 1) = 0

theorem size_whole (f : Nat → Int) (n r : Nat) (hs : size f n = r) (hr : ¬ r = 0) : Whole f n r := by
  have hh : hasName f n = true := by
    cases e : hasName f n with
    | true => rfl
    | false => exact absurd (by rw [← hs]; simp [size, e]) hr
  have hh2 := hh
  unfold hasName at hh2
  simp at hh2
  obtain ⟨h1, hl⟩ := hh2
  have h2 := nameEnd_gt f n
  have h3 := nameEnd_le f n h1
  have hat1 : 1 ≤ nameAt f n := by unfold nameAt; split <;> omega
  have j1 := jOf_ge f n (nameEnd f n)
  -- what the agreement of the first r bytes gives of the name, r at least behind the stop
  have names : ∀ r, jOf f n (nameEnd f n) < r → r ≤ n → ∀ g m, r ≤ m → (∀ a, a < r → g a = f a) → isClose g m = isClose f n ∧ nameAt g m = nameAt f n ∧ nameEnd g m = nameEnd f n ∧ hasName g m = true := by
    intro r hjr hrn g m hm hg
    have c1 : isClose g m = isClose f n := by
      unfold isClose
      rw [hg 1 (by omega)]
      have e1 : decide (1 < m) = true := by simp; omega
      have e2 : decide (1 < n) = true := by simp; omega
      rw [e1, e2]
    have c2 : nameAt g m = nameAt f n := by unfold nameAt; rw [c1]
    have c3 : nameEnd g m = nameEnd f n := by
      show sk nameC g m (nameAt g m + 1) = sk nameC f n (nameAt f n + 1)
      rw [c2]
      exact sk_agree (show nameEnd f n < n from by omega) (show nameEnd f n < m from by omega) (fun a _ hb => hg a (by unfold nameEnd at *; omega))
    refine ⟨c1, c2, c3, ?_⟩
    unfold hasName
    rw [c2, hg _ (by omega), hl]
    simp
    omega
  have cuts : ∀ r, jOf f n (nameEnd f n) < r → r ≤ n → isClose f (r - 1) = isClose f n ∧ nameEnd f (r - 1) = nameEnd f n ∧ hasName f (r - 1) = true := by
    intro r hjr hrn
    have c1 : isClose f (r - 1) = isClose f n := by
      unfold isClose
      have e1 : decide (1 < r - 1) = true := by simp; omega
      have e2 : decide (1 < n) = true := by simp; omega
      rw [e1, e2]
    have c2 : nameAt f (r - 1) = nameAt f n := by unfold nameAt; rw [c1]
    have c3 : nameEnd f (r - 1) = nameEnd f n := by
      show sk nameC f (r - 1) (nameAt f (r - 1) + 1) = sk nameC f n (nameAt f n + 1)
      rw [c2]
      exact sk_cut h1 (show nameEnd f n ≤ r - 1 from by omega) (by omega)
    refine ⟨c1, c3, ?_⟩
    unfold hasName
    rw [c2, hl]
    simp
    omega
  cases hc : isClose f n with
  | true =>
    have hs2 : closeEnd f n (nameEnd f n) = r := by rw [← hs]; simp [size, hh, hc]
    unfold closeEnd at hs2
    by_cases hj : jOf f n (nameEnd f n) < n ∧ f (jOf f n (nameEnd f n)) = 62
    · rw [if_pos hj] at hs2
      refine ⟨by omega, by omega, by rw [← hs2]; simpa using hj.2, by omega, fun g m hm hg => ?_, ?_⟩
      · obtain ⟨c1, c2, c3, c4⟩ := names r (by omega) (by omega) g m hm hg
        have e : jOf g m (nameEnd f n) = jOf f n (nameEnd f n) := sk_agree hj.1 (show jOf f n (nameEnd f n) < m from by omega) (fun a _ hb => hg a (by unfold jOf at *; omega))
        refine ⟨?_, c2, c3⟩
        unfold size
        rw [c4, c1, hc, c3, if_pos rfl, if_pos rfl]
        unfold closeEnd
        rw [e, if_pos ⟨by omega, by rw [hg _ (by omega)]; exact hj.2⟩, hs2]
      · obtain ⟨c1, c3, c4⟩ := cuts r (by omega) (by omega)
        unfold size
        rw [c4, c1, hc, c3, if_pos rfl, if_pos rfl]
        unfold closeEnd
        have e : jOf f (r - 1) (nameEnd f n) = r - 1 := by
          have : jOf f (r - 1) (nameEnd f n) = jOf f n (nameEnd f n) := sk_cut h3 (show jOf f n (nameEnd f n) ≤ r - 1 from by omega) (by omega)
          omega
        rw [e, if_neg (by omega)]
    · rw [if_neg hj] at hs2
      exact absurd hs2.symm hr
  | false =>
    have hs2 : tag f n (nameEnd f n) = r := by rw [← hs]; simp [size, hh, hc]
    have E := tag_ends f n _ (nameEnd f n) r (Nat.lt_succ_self _) h3 hs2 hr
    have k1 := E.jlt
    have k2 := E.le
    refine ⟨by omega, k2, E.close, by omega, fun g m hm hg => ?_, ?_⟩
    · obtain ⟨c1, c2, c3, c4⟩ := names r k1 k2 g m hm hg
      refine ⟨?_, c2, c3⟩
      unfold size
      rw [c4, c1, hc, c3, if_pos rfl, if_neg (by simp)]
      exact E.alike g m hm hg
    · obtain ⟨c1, c3, c4⟩ := cuts r k1 k2
      unfold size
      rw [c4, c1, hc, c3, if_pos rfl, if_neg (by simp)]
      exact E.cut

end Go.Proofs.Qxb6605216a.M
