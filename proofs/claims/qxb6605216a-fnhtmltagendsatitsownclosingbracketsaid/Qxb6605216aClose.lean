/-
  Seat b6605216a: htmlTag at a closing tag, and at a text without a name.
-/
import Derived.Test.Qxb6605216aTagLaws
namespace Go.Proofs.Qxb6605216a.Lv
open Go.RowKit
set_option linter.unusedVariables false

theorem nameEnd_is {f : Nat → Int} {n a e : Nat} (ha : M.nameAt f n = a) (he : e = M.sk M.nameC f n (a + 1)) : M.nameEnd f n = e := by
  unfold M.nameEnd; rw [ha, ← he]
theorem close_yes {f : Nat → Int} {n p j : Nat} (hs : M.size f n = M.closeEnd f n (M.nameEnd f n)) (he : M.nameEnd f n = p) (hj : M.sk M.blank f n p = j) (h1 : j < n) (h2 : f j = 62) : M.size f n = j + 1 := by
  have e : M.jOf f n p = j := hj
  rw [hs, he]; unfold M.closeEnd; rw [e, if_pos ⟨h1, h2⟩]
theorem close_no {f : Nat → Int} {n p j : Nat} (hs : M.size f n = M.closeEnd f n (M.nameEnd f n)) (he : M.nameEnd f n = p) (hj : M.sk M.blank f n p = j) (h : j < n → ¬ f j = 62) : M.size f n = 0 := by
  have e : M.jOf f n p = j := hj
  rw [hs, he]; unfold M.closeEnd; rw [e, if_neg (fun x => h x.1 x.2)]

set_option maxHeartbeats 2000000 in
set_option maxRecDepth 100000 in
theorem htmlTag_close (b off n c : Nat) (f : Nat → Int) (w : World) (hn : n ≤ 2097152) (hcap : n ≤ c) (hcap2 : c ≤ 2097152) (hb : ∀ i, 0 ≤ f i ∧ f i ≤ 255) (h1 : 1 < n) (hf1 : f 1 = 47) (ht : Text w b off n f) :
    Calls Try.prog 24 #[.slice (some ⟨b, off, none⟩) n c] w fun e w' => e = .returned (tagV b off c f n) ∧ w' = w := by
  have HC := (show Hid _ from isClose_t h1 hf1)
  have HA := (show Hid _ from at_t HC)
  have hf1' : (f 1 == 47) = true := by simp [hf1]
  have hc1 := ht 1 h1
  have h1i : (1 : Int) < (n : Int) := by omega
  clear hf1
  by_cases h2 : n = 2
  · have HS := (show Hid _ from size_no HA (fun h => by omega))
    subst h2
    go_enter Try.func24, Try.ntmps24
    go_wp2_with fail
    go_ret2
    exact ⟨tagV_no HS.out, rfl⟩
  · have h2' : ((2 : Int) == (n : Int)) = false := by simp; omega
    have h2n : 2 < n := by omega
    have hc2 := ht 2 h2n
    have h2i : (2 : Int) < (n : Int) := by omega
    cases hl : M.letter (f 2)
    · have HS := (show Hid _ from size_no HA (fun h => hl))
      go_enter Try.func24, Try.ntmps24
      go_wp2_with (go_at_call 29; refine (isLetter _ _).mono ?_; rintro e w' ⟨rfl, rfl⟩)
      go_ret2
      exact ⟨tagV_no HS.out, rfl⟩
    · have HS := (show Hid _ from size_close HC h2n hl)
      have HD := (show Hid _ from name_d f n 3 hb h2n)
      have dle := M.sk_le (alsoC ⟨#[45]⟩) (fun k => f (3 + k)) (n - 3) 0 (by omega)
      go_enter Try.func24, Try.ntmps24
      go_wp2_with (go_at_call 29; refine (isLetter _ _).mono ?_; rintro e w' ⟨rfl, rfl⟩)
      all_goals
        refine (nameSize b _ _ _ (fun k => f (3 + k)) _ _ (by omega) ?htx).mono ?_
        case htx =>
          first
            | (intro i hi; exfalso; omega)
            | exact ht.from 3
        rintro e w1 ⟨rfl, rfl⟩
        generalize hd : M.sk (alsoC ⟨#[45]⟩) (fun k => f (3 + k)) (n - 3) 0 = d at *
        clear hd
        have HE := (show Hid _ from nameEnd_is HA HD)
        have jge := M.sk_ge M.blank f n (3 + d)
        have jle := M.sk_le M.blank f n (3 + d) (by omega)
        go_wp2_with fail
        refine (blankEnd b _ _ _ f _ _ (by omega) (by omega) (by omega) ht).mono ?_
        rintro e w2 ⟨rfl, rfl⟩
        rw [show ((2 : Int) + ((3 + d - 2 : Nat) : Int)).toNat = 3 + d from by omega]
        generalize hj : M.sk M.blank f n (3 + d) = j at *
        have HJ := (show Hid _ from hj)
        clear hj
        by_cases hjn : j < n
        · have hcj := ht j hjn
          by_cases hfj : f j = 62
          · have HZ := (show Hid _ from close_yes HS HE HJ hjn hfj)
            have hfj' : (f j == 62) = true := by simp [hfj]
            clear hfj
            go_wp2_with fail
            go_ret2
            exact ⟨tagV_yes (by rw [HZ.out]; omega) (by omega) HA (by rw [HE.out, HA.out]) (by omega), rfl⟩
          · have HZ := (show Hid _ from close_no HS HE HJ (fun _ => hfj))
            have hfj' : (f j == 62) = false := by simp [hfj]
            clear hfj
            go_wp2_with fail
            go_ret2
            exact ⟨tagV_no HZ.out, rfl⟩
        · have HZ := (show Hid _ from close_no HS HE HJ (fun h => absurd h hjn))
          go_wp2_with fail
          go_ret2
          exact ⟨tagV_no HZ.out, rfl⟩

end Go.Proofs.Qxb6605216a.Lv
