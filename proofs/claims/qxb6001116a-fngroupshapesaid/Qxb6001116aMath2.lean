/-
  The plain side of seat b6001116a, for the laws that ask for the form: what zzValidForm and zzWellGrouped say. No Go in sight.
-/
import Derived.Test.Qxb6001116aMath
namespace Go.Proofs.Qxb6001116a.M
set_option linter.unusedVariables false

theorem app_no46 {p : List UInt8} (x : List UInt8) (h : ∀ c ∈ p, c ≠ 46) : whole (p ++ x) = p ++ whole x ∧ frac (p ++ x) = frac x ∧ dot (p ++ x) = dot x := by
  induction p with
  | nil => exact ⟨rfl, rfl, rfl⟩
  | cons a p ih =>
    have ha : a ≠ 46 := h a (by simp)
    obtain ⟨h1, h2, h3⟩ := ih (fun c hc => h c (by simp [hc]))
    simp [whole, frac, dot, ha, h1, h2, h3]

theorem okL_app {p : List UInt8} (x : List UInt8) (hp : p.all dig = true) : okL (p ++ x) = (isDig (p ++ whole x) && (!dot x || isDig (frac x))) := by
  obtain ⟨h1, h2, h3⟩ := app_no46 (p := p) x (fun c hc => (dig_ne (List.all_eq_true.1 hp c hc)).2)
  unfold okL
  rw [h1, h2, h3]

theorem isDig_bad {p r : List UInt8} {c : UInt8} (h : dig c = false) : isDig (p ++ c :: r) = false := by
  unfold isDig
  simp [h]

/-- No digit at the start. -/
theorem ok_none {l : List UInt8} (h : l = [] ∨ ∃ c r, l = c :: r ∧ dig c = false) : okL l = false := by
  rcases h with rfl | ⟨c, r, rfl, h⟩
  · rfl
  · unfold okL
    by_cases hc : c = 46
    · subst hc; simp [whole, isDig]
    · have : isDig (whole (c :: r)) = false := by
        simp only [whole, if_neg hc]
        exact isDig_bad (p := []) h
      rw [this]; rfl
/-- Digits alone. -/
theorem ok_all {p : List UInt8} (hp : p.all dig = true) (hne : p ≠ []) : okL p = true := by
  have := okL_app (p := p) [] hp
  rw [List.append_nil] at this
  rw [this]
  simp [whole, dot, isDig, hp, hne]
/-- Digits, then another byte than '.'. -/
theorem ok_other {p r : List UInt8} {c : UInt8} (hp : p.all dig = true) (hc : dig c = false) (h46 : c ≠ 46) : okL (p ++ c :: r) = false := by
  rw [okL_app _ hp]
  have : isDig (p ++ whole (c :: r)) = false := by
    simp only [whole, if_neg h46]
    exact isDig_bad hc
  rw [this]; rfl
/-- Digits, a '.', and the rest. -/
theorem ok_dot {p r : List UInt8} (hp : p.all dig = true) (hne : p ≠ []) : okL (p ++ 46 :: r) = isDig r := by
  rw [okL_app _ hp]
  have h1 : isDig (p ++ whole (46 :: r)) = true := by simp [whole, isDig, hp, hne]
  have h2 : dot (46 :: r) = true := by simp [dot]
  have h3 : frac (46 :: r) = r := by simp [frac]
  rw [h1, h2, h3]; rfl
theorem isDig_some {r : List UInt8} (h : r.all dig = true) (hne : r ≠ []) : isDig r = true := by simp [isDig, h, hne]

/-- zzWellGrouped from a state on: 'seg' digits in the group so far, 'idx' commas so far. -/
def wg : List UInt8 → Nat → Nat → Bool
  | [], seg, idx => if idx = 0 then decide (1 ≤ seg ∧ seg ≤ 3) else decide (seg = 3)
  | c :: l, seg, idx =>
    if c = 44 then (if idx = 0 then (if 1 ≤ seg ∧ seg ≤ 3 then wg l 0 (idx + 1) else false) else (if seg = 3 then wg l 0 (idx + 1) else false))
    else (if dig c = true then wg l (seg + 1) idx else false)

theorem wg_digit {c : UInt8} {l : List UInt8} {seg idx : Nat} (h : dig c = true) : wg (c :: l) seg idx = wg l (seg + 1) idx := by
  have h1 := (dig_ne h).1
  simp only [wg, if_neg h1, if_pos h]

theorem wg_grpR {l : List UInt8} (h : l.all dig = true) : ∀ seg idx, (idx = 0 → 1 ≤ seg ∧ seg + l.length % 3 ≤ 3) → (idx ≠ 0 → seg + l.length % 3 = 3) → wg (grpR l) seg idx = true := by
  induction l with
  | nil =>
    intro seg idx h0 h1
    simp only [grpR, wg]
    by_cases hi : idx = 0
    · rw [if_pos hi]; have := h0 hi; simp at this ⊢; omega
    · rw [if_neg hi]; have := h1 hi; simp at this ⊢; omega
  | cons a l ih =>
    have ha : dig a = true := List.all_eq_true.1 h a (by simp)
    have ih' := ih (List.all_eq_true.2 fun c hc => List.all_eq_true.1 h c (by simp [hc]))
    intro seg idx h0 h1
    simp only [List.length_cons] at h0 h1
    unfold grpR
    by_cases hm : (l.length + 1) % 3 = 0
    · rw [if_pos hm]
      have hstep : wg (44 :: a :: grpR l) seg idx = wg (a :: grpR l) 0 (idx + 1) := by
        by_cases hi : idx = 0
        · have := h0 hi
          simp only [wg, if_pos hi, if_true]
          rw [if_pos (by omega)]
        · have := h1 hi
          simp only [wg, if_neg hi, if_true]
          rw [if_pos (by omega)]
      rw [hstep, wg_digit ha]
      exact ih' 1 (idx + 1) (fun h => by omega) (fun _ => by omega)
    · rw [if_neg hm, wg_digit ha]
      refine ih' (seg + 1) idx (fun hi => ?_) (fun hi => ?_)
      · have := h0 hi; omega
      · have := h1 hi; omega

theorem wg_grp {l : List UInt8} (h : isDig l = true) : wg (grp l) 0 0 = true := by
  obtain ⟨hne, hall⟩ := isDig_all h
  cases l with
  | nil => exact absurd rfl hne
  | cons a l =>
    have ha : dig a = true := hall a (by simp)
    unfold grp
    rw [wg_digit ha]
    exact wg_grpR (List.all_eq_true.2 fun c hc => hall c (by simp [hc])) 1 0 (fun _ => by omega) (fun h => absurd rfl h)

/-- LAW 4: the whole part is grouped, the rest is as it was. -/
theorem shape_law {l : List UInt8} (h : okL l = true) : wg ((group l).take (dotAt (group l))) 0 0 = true ∧ (group l).drop (dotAt (group l)) = l.drop (dotAt l) := by
  have hw : isDig (whole l) = true := by unfold okL at h; simp only [Bool.and_eq_true] at h; exact h.1
  have hall := (isDig_all hw).2
  have hno : ∀ c ∈ grp (whole l), c ≠ 46 := by
    intro c hc
    rcases mem_grp c hc with h | h
    · rw [h]; decide
    · exact (dig_ne (hall c h)).2
  have hg : group l = grp (whole l) ++ (if frac l = [] then [] else 46 :: frac l) := by unfold group; rw [if_pos h]
  have hwr : whole (if frac l = [] then [] else 46 :: frac l) = [] := by
    split
    · rfl
    · simp [whole]
  have hd : dotAt (group l) = (grp (whole l)).length := by
    unfold dotAt
    rw [hg, (app_no46 _ hno).1, hwr, List.append_nil]
  have hj := ok_join h
  constructor
  · rw [hd, hg, List.take_left' rfl]
    exact wg_grp hw
  · rw [hd, hg, List.drop_left' rfl]
    unfold dotAt
    conv => rhs; arg 2; rw [hj]
    rw [List.drop_left' rfl]

end Go.Proofs.Qxb6001116a.M
