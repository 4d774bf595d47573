/-
  Seat b6605216a: htmlTag whole, ZZHTMLTag, and what is known of the tag's size and name.
-/
import Derived.Test.Qxb6605216aLoop
import Derived.Test.Qxb6605216aTagModel
import Derived.Test.Qxb6605216aSame
namespace Go.Proofs.Qxb6605216a.Lv
open Go.RowKit
set_option linter.unusedVariables false

theorem htmlTag (b off n c : Nat) (f : Nat → Int) (w : World) (hn : n ≤ 2097152) (hcap : n ≤ c) (hcap2 : c ≤ 2097152) (hb : ∀ i, 0 ≤ f i ∧ f i ≤ 255) (h0 : 1 ≤ n) (ht : Text w b off n f) :
    Calls Try.prog 24 #[.slice (some ⟨b, off, none⟩) n c] w fun e w' => e = .returned (tagV b off c f n) ∧ w' = w := by
  by_cases h : 1 < n ∧ f 1 = 47
  · exact htmlTag_close b off n c f w hn hcap hcap2 hb h.1 h.2 ht
  · by_cases h2 : 2 < n ∧ M.letter (f 1) = true
    · exact htmlTag_long b off n c f w hn hcap hcap2 hb h2.1 (fun a b => h ⟨a, b⟩) h2.2 ht
    · refine htmlTag_short b off n c f w hn hcap hcap2 hb h0 (fun a b => h ⟨a, b⟩) ?_ ht
      by_cases h3 : 2 < n
      · right
        cases e : M.letter (f 1) with
        | true => exact absurd ⟨h3, e⟩ h2
        | false => rfl
      · left; omega

theorem html_no (b off n c : Nat) (f : Nat → Int) (w : World) (hn : n ≤ 2097152) (hcap : n ≤ c) (hcap2 : c ≤ 2097152) (hb : ∀ i, 0 ≤ f i ∧ f i ≤ 255) (h0 : 1 ≤ n) (hs : M.size f n = 0) (ht : Text w b off n f) :
    Calls Try.prog 16 #[.slice (some ⟨b, off, none⟩) n c] w fun e w' => e = .returned (.tuple #[.int .i64 0, .slice none 0 0]) ∧ w' = w := by
  have HV : tagV b off c f n = .tuple #[.int .i64 0, .slice none 0 0] := by unfold tagV nameV; rw [if_pos hs, hs]; rfl
  have H := (show Hid _ from HV)
  clear HV hs
  go_enter Try.func16, Try.ntmps16
  go_wp2_with fail
  refine (htmlTag b off n c f _ hn hcap hcap2 hb h0 ht).mono ?_
  rintro e w1 ⟨rfl, rfl⟩
  rw [H.out]
  go_wp2_with fail
  go_ret2
  exact ⟨rfl, rfl⟩

theorem html_yes (b off n c r a l : Nat) (f : Nat → Int) (w : World) (hn : n ≤ 2097152) (hcap : n ≤ c) (hcap2 : c ≤ 2097152) (hb : ∀ i, 0 ≤ f i ∧ f i ≤ 255) (h0 : 1 ≤ n) (hs : M.size f n = r) (hr : ¬ r = 0) (ha : M.nameAt f n = a) (hl : M.nameEnd f n - M.nameAt f n = l) (ht : Text w b off n f) :
    Calls Try.prog 16 #[.slice (some ⟨b, off, none⟩) n c] w fun e w' => e = .returned (.tuple #[.int .i64 (r : Int), .slice (some ⟨b, off + a, none⟩) l (c - a)]) ∧ w' = w := by
  have HV : tagV b off c f n = .tuple #[.int .i64 (r : Int), .slice (some ⟨b, off + a, none⟩) l (c - a)] := by unfold tagV nameV; rw [if_neg (by omega), hs, hl, ha]
  have H := (show Hid _ from HV)
  clear HV hs ha hl
  go_enter Try.func16, Try.ntmps16
  go_wp2_with fail
  refine (htmlTag b off n c f _ hn hcap hcap2 hb h0 ht).mono ?_
  rintro e w1 ⟨rfl, rfl⟩
  rw [H.out]
  go_wp2_with fail
  go_ret2
  exact ⟨rfl, rfl⟩

theorem model_no (b off n c : Nat) (f : Nat → Int) (w : World) (hn : n ≤ 2097152) (hs : M.size f n = 0) (ht : Text w b off n f) :
    Calls Try.prog 17 #[.slice (some ⟨b, off, none⟩) n c] w fun e w' => e = .returned (.tuple #[.int .i64 0, .int .i64 0, .int .i64 0]) ∧ w' = w := by
  have H := zzTagModel b off n c f w hn ht
  unfold modelV at H
  rw [if_pos hs] at H
  exact H

theorem model_yes (b off n c r a l : Nat) (f : Nat → Int) (w : World) (hn : n ≤ 2097152) (hs : M.size f n = r) (hr : ¬ r = 0) (ha : M.nameAt f n = a) (hl : M.nameEnd f n - M.nameAt f n = l) (ht : Text w b off n f) :
    Calls Try.prog 17 #[.slice (some ⟨b, off, none⟩) n c] w fun e w' => e = .returned (.tuple #[.int .i64 (r : Int), .int .i64 (a : Int), .int .i64 (l : Int)]) ∧ w' = w := by
  have H := zzTagModel b off n c f w hn ht
  unfold modelV at H
  rw [if_neg (by omega), hs, hl, ha] at H
  exact H

theorem addr_add (b off i : Nat) : (⟨b, off, none⟩ : Addr).add i = ⟨b, off + i, none⟩ := by
  unfold Addr.add
  by_cases h : i = 0
  · subst h; simp
  · simp [h]

/-- A part of a text that begins its block. -/
theorem Text.part {w : World} {b n a l : Nat} {f : Nat → Int} (h : Text w b 0 n f) (hal : a + l ≤ n) : Text w b a l (fun k => f (a + k)) := by
  intro i hi
  have := h (a + i) (by omega)
  simpa using this

theorem below_drewN {B : Nat} {w w' : World} (h : Below B w w') (q : Nat) : Below B w (w'.drewN q) := Go.below_drewN h q

/-- The size of a tag, and its name, lie within the text. -/
theorem size_facts {f : Nat → Int} {n r : Nat} (hs : M.size f n = r) (hr : ¬ r = 0) : M.nameAt f n < n ∧ M.nameAt f n < M.nameEnd f n ∧ M.nameEnd f n ≤ n := by
  have hh : M.hasName f n = true := by
    cases e : M.hasName f n with
    | true => rfl
    | false => exact absurd (by rw [← hs]; simp [M.size, e]) hr
  have h1 : M.nameAt f n < n := by
    unfold M.hasName at hh
    simp at hh
    exact hh.1
  exact ⟨h1, M.nameEnd_gt f n, M.nameEnd_le f n h1⟩

end Go.Proofs.Qxb6605216a.Lv
