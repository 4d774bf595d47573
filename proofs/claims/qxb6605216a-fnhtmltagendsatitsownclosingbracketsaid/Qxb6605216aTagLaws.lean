/-
  Seat b6605216a: the steps of htmlTag in the walk's own forms; no Go.
-/
import Derived.Test.Qxb6605216aVal
namespace Go.Proofs.Qxb6605216a.Lv
open Go.RowKit
set_option linter.unusedVariables false

theorem tag_A {f : Nat → Int} {n k j : Nat} (hk : k ≤ n) (hj : M.sk M.blank f n k = j) (h1 : j < n) (h2 : f j = 62) : M.tag f n k = j + 1 := by
  have e1 : M.jOf f n k = j := hj
  rw [M.tag_eq f n k hk, e1, if_pos ⟨h1, h2⟩]

theorem tag_B {f : Nat → Int} {n k j : Nat} (hk : k ≤ n) (hj : M.sk M.blank f n k = j) (h1 : j + 1 < n) (h2 : f j = 47) (h3 : f (j + 1) = 62) : M.tag f n k = j + 2 := by
  have e1 : M.jOf f n k = j := hj
  rw [M.tag_eq f n k hk, e1, if_neg (by rw [h2]; omega), if_pos ⟨h1, h2, h3⟩]

theorem tag_C {f : Nat → Int} {n k j : Nat} (hk : k ≤ n) (hj : M.sk M.blank f n k = j) (hA : j < n → ¬ f j = 62) (hB : j + 1 < n → f j = 47 → ¬ f (j + 1) = 62) (h : j = k ∨ j = n ∨ M.startC (f j) = false) : M.tag f n k = 0 := by
  have e1 : M.jOf f n k = j := hj
  rw [M.tag_eq f n k hk, e1, if_neg (fun x => hA x.1 x.2), if_neg (fun x => hB x.1 x.2.1 x.2.2), if_pos h]

theorem start_not {c : Int} (h : M.startC c = true) : ¬ c = 62 ∧ ¬ c = 47 := by
  constructor
  · intro e; rw [e, M.startC_62] at h; cases h
  · intro e; rw [e, M.startC_47] at h; cases h

theorem tag_D_bare {f : Nat → Int} {n k j r t : Nat} (hk : k ≤ n) (hj : M.sk M.blank f n k = j) (h1 : ¬ j = k) (h2 : j < n) (h3 : M.startC (f j) = true) (hr : M.sk M.attrC f n (j + 1) = r) (ht : M.sk M.blank f n r = t) (h : t < n → ¬ f t = 61) : M.tag f n r = M.tag f n k := by
  have e1 : M.jOf f n k = j := hj
  have e2 : M.iOf f n k = r := by unfold M.iOf; rw [e1]; exact hr
  have e3 : M.kOf f n k = t := by unfold M.kOf; rw [e2]; exact ht
  have hs := start_not h3
  rw [M.tag_eq f n k hk, e1, if_neg (fun x => hs.1 x.2), if_neg (fun x => hs.2 x.2.1), if_neg (by simp [h1, h3]; omega), e3, if_neg (fun x => h x.1 x.2), e2]

theorem tag_D_val {f : Nat → Int} {n k j r t u : Nat} {v : Int} (hk : k ≤ n) (hj : M.sk M.blank f n k = j) (h1 : ¬ j = k) (h2 : j < n) (h3 : M.startC (f j) = true) (hr : M.sk M.attrC f n (j + 1) = r) (ht : M.sk M.blank f n r = t) (h4 : t < n) (h : f t = 61) (hu : M.sk M.blank f n (t + 1) = u) (hv : M.valEnd f n u = v) : M.tag f n k = if v < 0 then 0 else M.tag f n v.toNat := by
  have e1 : M.jOf f n k = j := hj
  have e2 : M.iOf f n k = r := by unfold M.iOf; rw [e1]; exact hr
  have e3 : M.kOf f n k = t := by unfold M.kOf; rw [e2]; exact ht
  have e4 : M.vOf f n k = v := by unfold M.vOf; rw [e3, hu, hv]
  have hs := start_not h3
  rw [M.tag_eq f n k hk, e1, if_neg (fun x => hs.1 x.2), if_neg (fun x => hs.2 x.2.1), if_neg (by simp [h1, h3]; omega), e3, if_pos ⟨h4, h⟩, e4]

theorem sk_congr {p q : Int → Bool} {f : Nat → Int} {n i : Nat} (hi : i ≤ n) (h : ∀ j, p (f j) = q (f j)) : M.sk p f n i = M.sk q f n i := by
  refine M.sk_eq (M.sk_ge _ _ _ _) (M.sk_le _ _ _ _ hi) (fun a ha hb => ?_) (fun hl => ?_)
  · rw [h]; exact M.sk_in q f n i a ha hb
  · rw [h]; exact M.sk_at q f n i hl

theorem dash_is (c : Int) (hc : 0 ≤ c ∧ c ≤ 255) : alsoC ⟨#[45]⟩ c = M.nameC c := by
  have key : ∀ m : Fin 256, decide (0 ≤ Lib.indexByte [45] (UInt8.ofNat m.val)) = ((m.val : Int) == 45) := by decide +kernel
  have := key ⟨c.toNat, by omega⟩
  unfold alsoC M.nameC
  rw [show (ByteArray.mk #[45]).data.toList = [45] from rfl, this]
  simp only []
  rw [show ((c.toNat : Nat) : Int) = c from by omega]

theorem four_is (c : Int) (hc : 0 ≤ c ∧ c ≤ 255) : alsoC ⟨#[95, 46, 58, 45]⟩ c = M.attrC c := by
  have key : ∀ m : Fin 256, decide (0 ≤ Lib.indexByte [95, 46, 58, 45] (UInt8.ofNat m.val)) = ((m.val : Int) == 95 || (m.val : Int) == 46 || (m.val : Int) == 58 || (m.val : Int) == 45) := by decide +kernel
  have := key ⟨c.toNat, by omega⟩
  unfold alsoC M.attrC
  rw [show (ByteArray.mk #[95, 46, 58, 45]).data.toList = [95, 46, 58, 45] from rfl, this]
  simp only []
  rw [show ((c.toNat : Nat) : Int) = c from by omega]
  simp only [Bool.or_assoc]

/-- nameSize of what stands behind place a. -/
theorem name_d (f : Nat → Int) (n a : Nat) (hb : ∀ i, 0 ≤ f i ∧ f i ≤ 255) (ha : a ≤ n) : a + M.sk (alsoC ⟨#[45]⟩) (fun k => f (a + k)) (n - a) 0 = M.sk M.nameC f n a := by
  rw [M.sk_shift (alsoC ⟨#[45]⟩) f n a ha]
  exact sk_congr ha fun j => dash_is _ (hb j)
theorem attr_d (f : Nat → Int) (n a : Nat) (hb : ∀ i, 0 ≤ f i ∧ f i ≤ 255) (ha : a ≤ n) : a + M.sk (alsoC ⟨#[95, 46, 58, 45]⟩) (fun k => f (a + k)) (n - a) 0 = M.sk M.attrC f n a := by
  rw [M.sk_shift (alsoC ⟨#[95, 46, 58, 45]⟩) f n a ha]
  exact sk_congr ha fun j => four_is _ (hb j)

/-- The name's slice: nil where there is no tag. -/
def nameV (b off c : Nat) (f : Nat → Int) (n : Nat) : Value :=
  if M.size f n = 0 then .slice none 0 0 else .slice (some ⟨b, off + M.nameAt f n, none⟩) (M.nameEnd f n - M.nameAt f n) (c - M.nameAt f n)

def tagV (b off c : Nat) (f : Nat → Int) (n : Nat) : Value := .tuple #[.int .i64 ((M.size f n : Nat) : Int), nameV b off c f n]

theorem tagV_no {b off c : Nat} {f : Nat → Int} {n : Nat} (h : M.size f n = 0) : Ending.returned (.tuple #[.int .i64 0, .slice none 0 0]) = .returned (tagV b off c f n) := by
  unfold tagV nameV; rw [if_pos h, h]; rfl
theorem tagV_yes {b off c : Nat} {f : Nat → Int} {n : Nat} {r : Int} {a l d : Nat} (h : ((M.size f n : Nat) : Int) = r) (hr : ¬ r = 0) (ha : M.nameAt f n = a) (hl : M.nameEnd f n - M.nameAt f n = l) (hd : c - a = d) : Ending.returned (.tuple #[.int .i64 r, .slice (some ⟨b, off + a, none⟩) l d]) = .returned (tagV b off c f n) := by
  unfold tagV nameV; rw [if_neg (by omega), h, hl, ha, hd]

theorem isClose_t {f : Nat → Int} {n : Nat} (h1 : 1 < n) (h2 : f 1 = 47) : M.isClose f n = true := by simp [M.isClose, h1, h2]
theorem isClose_f {f : Nat → Int} {n : Nat} (h : 1 < n → ¬ f 1 = 47) : M.isClose f n = false := by
  simp [M.isClose]; exact h
theorem at_t {f : Nat → Int} {n : Nat} (h : M.isClose f n = true) : M.nameAt f n = 2 := by simp [M.nameAt, h]
theorem at_f {f : Nat → Int} {n : Nat} (h : M.isClose f n = false) : M.nameAt f n = 1 := by simp [M.nameAt, h]
theorem size_no {f : Nat → Int} {n a : Nat} (ha : M.nameAt f n = a) (h : a < n → M.letter (f a) = false) : M.size f n = 0 := by
  have : M.hasName f n = false := by simp [M.hasName, ha]; exact h
  simp [M.size, this]
theorem size_close {f : Nat → Int} {n : Nat} (hc : M.isClose f n = true) (h2 : 2 < n) (hl : M.letter (f 2) = true) : M.size f n = M.closeEnd f n (M.nameEnd f n) := by
  have : M.hasName f n = true := by simp [M.hasName, at_t hc, h2, hl]
  simp [M.size, this, hc]
theorem size_open {f : Nat → Int} {n : Nat} (hc : M.isClose f n = false) (h2 : 1 < n) (hl : M.letter (f 1) = true) : M.size f n = M.tag f n (M.nameEnd f n) := by
  have : M.hasName f n = true := by simp [M.hasName, at_f hc, h2, hl]
  simp [M.size, this, hc]

end Go.Proofs.Qxb6605216a.Lv
