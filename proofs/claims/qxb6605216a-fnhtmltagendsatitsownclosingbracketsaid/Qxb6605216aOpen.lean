/-
  Seat b6605216a: htmlTag at an open tag.
-/
import Derived.Test.Qxb6605216aClose
namespace Go.Proofs.Qxb6605216a.Lv
open Go.RowKit
set_option linter.unusedVariables false

theorem open_size {f : Nat → Int} {n p k r : Nat} (hs : M.size f n = M.tag f n (M.nameEnd f n)) (he : M.nameEnd f n = p) (hr : M.tag f n k = M.tag f n p) (h : M.tag f n k = r) : M.size f n = r := by
  rw [hs, he, ← hr, h]

set_option maxHeartbeats 2000000 in
set_option maxRecDepth 100000 in
/-- At most two bytes, or no name. -/
theorem htmlTag_short (b off n c : Nat) (f : Nat → Int) (w : World) (hn : n ≤ 2097152) (hcap : n ≤ c) (hcap2 : c ≤ 2097152) (hb : ∀ i, 0 ≤ f i ∧ f i ≤ 255) (h0 : 1 ≤ n) (hf1 : 1 < n → ¬ f 1 = 47) (hsh : n ≤ 2 ∨ M.letter (f 1) = false) (ht : Text w b off n f) :
    Calls Try.prog 24 #[.slice (some ⟨b, off, none⟩) n c] w fun e w' => e = .returned (tagV b off c f n) ∧ w' = w := by
  have HC := (show Hid _ from isClose_f hf1)
  have HA := (show Hid _ from at_f HC)
  by_cases h1 : n = 1
  · have HS := (show Hid _ from size_no HA (fun h => by omega))
    subst h1
    clear hf1 hsh
    go_enter Try.func24, Try.ntmps24
    go_wp2_with fail
    go_ret2
    exact ⟨tagV_no HS.out, rfl⟩
  · have h1n : 1 < n := by omega
    have h1' : ((1 : Int) == (n : Int)) = false := by simp; omega
    have hf1' : (f 1 == 47) = false := by simp [hf1 h1n]
    have hc1 := ht 1 h1n
    have h1i : (1 : Int) < (n : Int) := by omega
    clear hf1
    cases hl : M.letter (f 1)
    · have HS := (show Hid _ from size_no HA (fun h => hl))
      clear hsh
      go_enter Try.func24, Try.ntmps24
      go_wp2_with (go_at_call 29; refine (isLetter _ _).mono ?_; rintro e w' ⟨rfl, rfl⟩)
      go_ret2
      exact ⟨tagV_no HS.out, rfl⟩
    · have HS := (show Hid _ from size_open HC h1n hl)
      have hn2 : n = 2 := by
        rcases hsh with h | h
        · omega
        · rw [hl] at h; cases h
      subst hn2
      have HZ : Hid (M.size f 2 = 0) := by
        have e1 : M.nameEnd f 2 = 2 := nameEnd_is HA.out (by rw [M.sk_ge_end (Nat.le_refl _)])
        rw [HS.out, e1]
        exact (tag_C (Nat.le_refl _) (M.sk_ge_end (Nat.le_refl _)) (fun h => by omega) (fun h => by omega) (Or.inl rfl))
      have hs0 : M.sk (alsoC ⟨#[45]⟩) (fun k => f (2 + k)) 0 0 = 0 := M.sk_ge_end (Nat.le_refl _)
      have hs2 : M.sk M.blank f 2 2 = 2 := M.sk_ge_end (Nat.le_refl _)
      have H0 := (show Hid _ from hs0)
      have H2 := (show Hid _ from hs2)
      clear hsh hs0 hs2
      by_cases hc2 : c = 2
      · subst hc2
        go_enter Try.func24, Try.ntmps24
        go_wp2_with (go_at_call 29; refine (isLetter _ _).mono ?_; rintro e w' ⟨rfl, rfl⟩)
        refine (nameSize b _ _ _ (fun k => f (2 + k)) _ _ (by omega) (fun i hi => by omega)).mono ?_
        rintro e w1 ⟨rfl, rfl⟩
        rw [H0.out]
        go_wp2_with fail
        go_loop [5] (fun t => t = .int .i64 2) (fun t => (intOf t).toNat)
        case atStart => rfl
        case round =>
          subst hrel
          go_wp2_with fail
          refine (blankEnd b _ _ _ f _ _ (by omega) (by omega) (by omega) ht).mono ?_
          rintro e w2 ⟨rfl, rfl⟩
          rw [show (2 : Int).toNat = 2 from rfl, H2.out]
          go_wp2_with fail
          go_ret2
          exact ⟨tagV_no HZ.out, rfl⟩
      · go_enter Try.func24, Try.ntmps24
        go_wp2_with (go_at_call 29; refine (isLetter _ _).mono ?_; rintro e w' ⟨rfl, rfl⟩)
        refine (nameSize b _ _ _ (fun k => f (2 + k)) _ _ (by omega) (fun i hi => by omega)).mono ?_
        rintro e w1 ⟨rfl, rfl⟩
        rw [H0.out]
        go_wp2_with fail
        go_loop [5] (fun t => t = .int .i64 2) (fun t => (intOf t).toNat)
        case atStart => rfl
        case round =>
          subst hrel
          go_wp2_with fail
          refine (blankEnd b _ _ _ f _ _ (by omega) (by omega) (by omega) ht).mono ?_
          rintro e w2 ⟨rfl, rfl⟩
          rw [show (2 : Int).toNat = 2 from rfl, H2.out]
          go_wp2_with fail
          go_ret2
          exact ⟨tagV_no HZ.out, rfl⟩

end Go.Proofs.Qxb6605216a.Lv
