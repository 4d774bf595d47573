/-
  The plain side of seat b6001116a: what Group, split and the laws' own helpers compute, on lists of bytes. No Go in sight.
-/
namespace Go.Proofs.Qxb6001116a.M
set_option linter.unusedVariables false

def dig (c : UInt8) : Bool := decide (48 ≤ c.toNat) && decide (c.toNat ≤ 57)
/-- Not empty, and digits alone. -/
def isDig (l : List UInt8) : Bool := !l.isEmpty && l.all dig

/-- The bytes ahead of the first '.'; all of them if there is none. -/
def whole : List UInt8 → List UInt8
  | [] => []
  | c :: l => if c = 46 then [] else c :: whole l
/-- The bytes behind the first '.'; none if there is none. -/
def frac : List UInt8 → List UInt8
  | [] => []
  | c :: l => if c = 46 then l else frac l
/-- Is there a '.'? -/
def dot : List UInt8 → Bool
  | [] => false
  | c :: l => if c = 46 then true else dot l
def okL (l : List UInt8) : Bool := isDig (whole l) && (!dot l || isDig (frac l))

/-- The digits behind the first, each third from the right with a comma ahead. -/
def grpR : List UInt8 → List UInt8
  | [] => []
  | c :: l => if (l.length + 1) % 3 = 0 then 44 :: c :: grpR l else c :: grpR l
def grp : List UInt8 → List UInt8
  | [] => []
  | c :: l => c :: grpR l
/-- What Group answers. -/
def group (l : List UInt8) : List UInt8 := if okL l = true then grp (whole l) ++ (if frac l = [] then [] else 46 :: frac l) else l

/-! ### The cut -/
theorem cut_eq (l : List UInt8) : l = whole l ++ (if dot l = true then 46 :: frac l else []) := by
  induction l with
  | nil => rfl
  | cons c l ih =>
    by_cases h : c = 46
    · subst h; simp [whole, frac, dot]
    · simp only [whole, frac, dot, if_neg h, List.cons_append]
      rw [← ih]
theorem frac_nodot {l : List UInt8} (h : dot l = false) : frac l = [] := by
  induction l with
  | nil => rfl
  | cons c l ih =>
    by_cases hc : c = 46
    · subst hc; simp [dot] at h
    · simp only [dot, if_neg hc] at h
      simp only [frac, if_neg hc]
      exact ih h
theorem whole_no46 (l : List UInt8) : ∀ c ∈ whole l, c ≠ 46 := by
  induction l with
  | nil => intro c h; cases h
  | cons a l ih =>
    intro c h
    by_cases ha : a = 46
    · subst ha; simp [whole] at h
    · simp only [whole, if_neg ha, List.mem_cons] at h
      rcases h with h | h
      · rw [h]; exact ha
      · exact ih c h
theorem isDig_all {l : List UInt8} (h : isDig l = true) : l ≠ [] ∧ ∀ c ∈ l, dig c = true := by
  unfold isDig at h
  simp at h
  exact ⟨h.1, h.2⟩
theorem dig_ne {c : UInt8} (h : dig c = true) : c ≠ 44 ∧ c ≠ 46 := by
  unfold dig at h
  simp at h
  constructor
  · intro e; subst e; revert h; decide
  · intro e; subst e; revert h; decide
theorem whole_of_no46 {l : List UInt8} (h : ∀ c ∈ l, c ≠ 46) : whole l = l ∧ frac l = [] ∧ dot l = false := by
  induction l with
  | nil => exact ⟨rfl, rfl, rfl⟩
  | cons a l ih =>
    have ha : a ≠ 46 := h a (by simp)
    obtain ⟨h1, h2, h3⟩ := ih (fun c hc => h c (by simp [hc]))
    simp [whole, frac, dot, ha, h1, h2, h3]

/-! ### Commas -/
def hasComma (l : List UInt8) : Bool := l.any fun c => c == 44
def noCommas (l : List UInt8) : List UInt8 := l.filter fun c => c != 44

theorem noCommas_grpR {l : List UInt8} (h : ∀ c ∈ l, c ≠ 44) : noCommas (grpR l) = l := by
  induction l with
  | nil => rfl
  | cons a l ih =>
    have ha : (a != 44) = true := by simpa using h a (by simp)
    have ih' := ih (fun c hc => h c (by simp [hc]))
    unfold noCommas at ih'
    unfold grpR noCommas
    split
    · rw [List.filter_cons, if_neg (by decide), List.filter_cons, if_pos ha, ih']
    · rw [List.filter_cons, if_pos ha, ih']
theorem noCommas_grp {l : List UInt8} (h : ∀ c ∈ l, c ≠ 44) : noCommas (grp l) = l := by
  cases l with
  | nil => rfl
  | cons a l =>
    have ha : (a != 44) = true := by simpa using h a (by simp)
    have ih' := noCommas_grpR (l := l) (fun c hc => h c (by simp [hc]))
    unfold noCommas at ih'
    unfold grp noCommas
    rw [List.filter_cons, if_pos ha, ih']
theorem noCommas_id {l : List UInt8} (h : ∀ c ∈ l, c ≠ 44) : noCommas l = l := by
  unfold noCommas
  rw [List.filter_eq_self]
  intro c hc
  simpa using h c hc
theorem noCommas_append (a b : List UInt8) : noCommas (a ++ b) = noCommas a ++ noCommas b := by
  unfold noCommas; exact List.filter_append ..

/-- The text is its whole part and, where there is one, the '.' and the rest, as Group joins them. -/
theorem ok_join {l : List UInt8} (h : okL l = true) : l = whole l ++ (if frac l = [] then [] else 46 :: frac l) := by
  have e := cut_eq l
  unfold okL at h
  simp only [Bool.and_eq_true] at h
  obtain ⟨_, h2⟩ := h
  cases hd : dot l with
  | false =>
    rw [hd, if_neg (by simp)] at e
    rw [frac_nodot hd, if_pos rfl]
    exact e
  | true =>
    rw [hd, if_pos rfl] at e
    have hf : frac l ≠ [] := by
      rw [hd] at h2
      simp only [Bool.not_true, Bool.false_or] at h2
      exact (isDig_all h2).1
    rw [if_neg hf]
    exact e

/-- LAW 1: the commas taken out of Group's answer give back a text without commas. -/
theorem strip_law {l : List UInt8} (h : hasComma l = false) : noCommas (group l) = l := by
  have hall : ∀ c ∈ l, c ≠ 44 := by
    unfold hasComma at h
    rw [List.any_eq_false] at h
    intro c hc e
    exact h c hc (by simp [e])
  unfold group
  by_cases ho : okL l = true
  · rw [if_pos ho]
    have e := ok_join ho
    have hw : ∀ c ∈ whole l, c ≠ 44 := fun c hc => hall c (by rw [e]; simp [hc])
    rw [noCommas_append, noCommas_grp hw]
    have hr : noCommas (if frac l = [] then [] else 46 :: frac l) = if frac l = [] then [] else 46 :: frac l := by
      apply noCommas_id
      intro c hc
      exact hall c (by rw [e]; exact List.mem_append_right _ hc)
    rw [hr, ← e]
  · rw [if_neg ho, noCommas_id hall]

/-! ### Lengths -/
theorem length_grpR (l : List UInt8) : (grpR l).length = l.length + l.length / 3 := by
  induction l with
  | nil => rfl
  | cons a l ih =>
    unfold grpR
    split
    · rename_i h
      simp only [List.length_cons, ih]
      omega
    · rename_i h
      simp only [List.length_cons, ih]
      omega
theorem length_grp (l : List UInt8) (h : l ≠ []) : (grp l).length = l.length + (l.length - 1) / 3 := by
  cases l with
  | nil => exact absurd rfl h
  | cons a l =>
    simp only [grp, List.length_cons, length_grpR]
    omega
theorem mem_grpR {l : List UInt8} : ∀ c ∈ grpR l, c = 44 ∨ c ∈ l := by
  induction l with
  | nil => intro c h; cases h
  | cons a l ih =>
    intro c h
    unfold grpR at h
    split at h
    · simp only [List.mem_cons] at h
      rcases h with h | h | h
      · exact Or.inl h
      · exact Or.inr (by simp [h])
      · rcases ih c h with h | h
        · exact Or.inl h
        · exact Or.inr (by simp [h])
    · simp only [List.mem_cons] at h
      rcases h with h | h
      · exact Or.inr (by simp [h])
      · rcases ih c h with h | h
        · exact Or.inl h
        · exact Or.inr (by simp [h])
theorem mem_grp {l : List UInt8} : ∀ c ∈ grp l, c = 44 ∨ c ∈ l := by
  cases l with
  | nil => intro c h; cases h
  | cons a l =>
    intro c h
    simp only [grp, List.mem_cons] at h
    rcases h with h | h
    · exact Or.inr (by simp [h])
    · rcases mem_grpR c h with h | h
      · exact Or.inl h
      · exact Or.inr (by simp [h])

/-- zzDotAt: the first '.', or the length. -/
def dotAt (l : List UInt8) : Nat := (whole l).length

/-- LAW 2: digits alone: (n-1)/3 commas, no '.', nothing else. -/
theorem digits_law {l : List UInt8} (h : isDig l = true) : (group l).length = l.length + (l.length - 1) / 3 ∧ dotAt (group l) = (group l).length := by
  obtain ⟨hne, hall⟩ := isDig_all h
  obtain ⟨h1, h2, h3⟩ := whole_of_no46 (l := l) (fun c hc => (dig_ne (hall c hc)).2)
  have ho : okL l = true := by simp [okL, h1, h3, h]
  have hg : group l = grp l := by
    unfold group
    rw [if_pos ho, h1, h2, if_pos rfl, List.append_nil]
  rw [hg]
  refine ⟨length_grp l hne, ?_⟩
  have hno : ∀ c ∈ grp l, c ≠ 46 := by
    intro c hc
    rcases mem_grp c hc with h | h
    · rw [h]; decide
    · exact (dig_ne (hall c h)).2
  unfold dotAt
  rw [(whole_of_no46 hno).1]

/-- LAW 3: changed just where the form is right and the whole part has four digits or more. -/
theorem changed_law (l : List UInt8) : (group l = l) ↔ ¬ (okL l = true ∧ 4 ≤ dotAt l) := by
  by_cases ho : okL l = true
  · have e := ok_join ho
    have hw : isDig (whole l) = true := by
      unfold okL at ho; simp only [Bool.and_eq_true] at ho; exact ho.1
    have hne := (isDig_all hw).1
    have hlen := length_grp (whole l) hne
    have hpos : 0 < (whole l).length := by
      cases hwl : whole l with
      | nil => exact absurd hwl hne
      | cons a b => simp
    have hg : group l = grp (whole l) ++ (if frac l = [] then [] else 46 :: frac l) := by unfold group; rw [if_pos ho]
    constructor
    · rintro heq ⟨_, h4⟩
      have hl := congrArg List.length heq
      rw [hg] at hl
      rw [e] at hl
      rw [show whole (whole l ++ if frac l = [] then [] else 46 :: frac l) = whole l from by rw [← e], show frac (whole l ++ if frac l = [] then [] else 46 :: frac l) = frac l from by rw [← e]] at hl
      rw [List.length_append, List.length_append, hlen] at hl
      unfold dotAt at h4
      omega
    · intro hn
      have h4 : ¬ 4 ≤ dotAt l := fun h => hn ⟨ho, h⟩
      unfold dotAt at h4
      have hgw : grp (whole l) = whole l := by
        cases hwl : whole l with
        | nil => rfl
        | cons a b =>
          rw [hwl] at h4
          simp only [List.length_cons] at h4
          simp only [grp]
          congr 1
          match b, h4 with
          | [], _ => rfl
          | [x], _ => rfl
          | [x, y], _ => rfl
          | x :: y :: z :: t, h4 => simp only [List.length_cons] at h4; omega
      rw [hg, hgw, ← e]
  · constructor
    · rintro _ ⟨h, _⟩; exact ho h
    · intro _
      unfold group
      rw [if_neg ho]

theorem group_len (l : List UInt8) : (group l).length ≤ 2 * l.length := by
  by_cases ho : okL l = true
  · have e := congrArg List.length (ok_join ho)
    rw [List.length_append] at e
    unfold group
    rw [if_pos ho, List.length_append]
    cases hw : whole l with
    | nil => rw [hw] at e; simp [grp] at e ⊢; omega
    | cons a b =>
      rw [length_grp _ (by simp)]
      rw [hw] at e
      simp only [List.length_cons] at e ⊢
      omega
  · unfold group; rw [if_neg ho]; omega

end Go.Proofs.Qxb6001116a.M
