/-
  Seat b6605216a: zzAttribute: one attribute of the laws' own model.
-/
import Derived.Test.Qxb6605216aModel
namespace Go.Proofs.Qxb6605216a.Lv
open Go.RowKit
set_option linter.unusedVariables false

theorem att_none {f : Nat → Int} {n i j : Nat} (hj : M.sk M.blank f n i = j) (h : j = i ∨ j = n ∨ M.startC (f j) = false) : M.attrEnd f n i = -1 := by
  have e : M.jOf f n i = j := hj
  unfold M.attrEnd; rw [e, if_pos h]
theorem att_bare {f : Nat → Int} {n i j r t : Nat} (hj : M.sk M.blank f n i = j) (h1 : ¬ j = i) (h2 : ¬ j = n) (h3 : M.startC (f j) = true) (hr : M.sk M.attrC f n (j + 1) = r) (ht : M.sk M.blank f n r = t) (h : t < n → ¬ f t = 61) : M.attrEnd f n i = (r : Int) := by
  have e1 : M.jOf f n i = j := hj
  have e2 : M.iOf f n i = r := by unfold M.iOf; rw [e1]; exact hr
  have e3 : M.kOf f n i = t := by unfold M.kOf; rw [e2]; exact ht
  unfold M.attrEnd; rw [e1, if_neg (by simp [h1, h2, h3]), e3, if_neg (fun x => h x.1 x.2.1), e2]
theorem att_val {f : Nat → Int} {n i j r t u : Nat} (hj : M.sk M.blank f n i = j) (h1 : ¬ j = i) (h2 : ¬ j = n) (h3 : M.startC (f j) = true) (hr : M.sk M.attrC f n (j + 1) = r) (ht : M.sk M.blank f n r = t) (h4 : t < n) (h : f t = 61) (hu : M.sk M.blank f n (t + 1) = u) : M.attrEnd f n i = if 0 ≤ M.valEnd f n u then M.valEnd f n u else (r : Int) := by
  have e1 : M.jOf f n i = j := hj
  have e2 : M.iOf f n i = r := by unfold M.iOf; rw [e1]; exact hr
  have e3 : M.kOf f n i = t := by unfold M.kOf; rw [e2]; exact ht
  have e4 : M.vOf f n i = M.valEnd f n u := by unfold M.vOf; rw [e3, hu]
  unfold M.attrEnd; rw [e1, if_neg (by simp [h1, h2, h3]), e3, e4, e2]
  by_cases h5 : 0 ≤ M.valEnd f n u
  · rw [if_pos ⟨h4, h, h5⟩, if_pos h5]
  · rw [if_neg (fun x => h5 x.2.2), if_neg h5]

set_option maxHeartbeats 2000000 in
theorem zzAttribute (b off n c : Nat) (f : Nat → Int) (x : Int) (w : World) (hn : n ≤ 2097152) (h0 : 0 ≤ x) (hx : x ≤ n) (ht : Text w b off n f) :
    Calls Try.prog 27 #[.slice (some ⟨b, off, none⟩) n c, .int .i64 x] w fun e w' => e = .returned (.int .i64 (M.attrEnd f n x.toNat)) ∧ w' = w := by
  obtain ⟨i, rfl⟩ := Int.eq_ofNat_of_zero_le h0
  rw [Int.toNat_natCast]
  have jge := M.sk_ge M.blank f n i
  have jle := M.sk_le M.blank f n i (by omega)
  go_enter Try.func27, Try.ntmps27
  go_wp2_with fail
  refine (zzSkipBlanks b off n c f _ _ hn (by omega) (by omega) ht).mono ?_
  rintro e w1 ⟨rfl, rfl⟩
  rw [Int.toNat_natCast]
  generalize hj : M.sk M.blank f n i = j at *
  have HJ := (show Hid _ from hj)
  clear hj
  by_cases h1 : j = i
  · have h1' : ((j : Int) == (i : Int)) = true := by simp; omega
    have HV := (show Hid _ from att_none HJ (Or.inl h1))
    clear h1
    go_wp2_with fail
    go_ret
    exact ⟨ret_int HV.out.symm, rfl⟩
  · have h1' : ((j : Int) == (i : Int)) = false := by simp; omega
    by_cases h2 : j = n
    · have h2' : ((j : Int) == (n : Int)) = true := by simp; omega
      have HV := (show Hid _ from att_none HJ (Or.inr (Or.inl h2)))
      clear h2
      go_wp2_with fail
      go_ret
      exact ⟨ret_int HV.out.symm, rfl⟩
    · have h2' : ((j : Int) == (n : Int)) = false := by simp; omega
      have hlt : j < n := by omega
      have hc := ht j hlt
      cases h3 : M.startC (f j)
      · have HV := (show Hid _ from att_none HJ (Or.inr (Or.inr h3)))
        unfold M.startC at h3
        simp only [Bool.or_eq_false_iff] at h3
        obtain ⟨⟨h4, h5⟩, h6⟩ := h3
        go_wp2_with (go_at_call 33; refine (zzIsLetter _ _).mono ?_; rintro e w' ⟨rfl, rfl⟩)
        go_ret
        exact ⟨ret_int HV.out.symm, rfl⟩
      · have H3 := (show Hid _ from h3)
        have hways : (M.letter (f j) = true) ∨ (M.letter (f j) = false ∧ (f j == 95) = true) ∨ (M.letter (f j) = false ∧ (f j == 95) = false ∧ (f j == 58) = true) := by
          unfold M.startC at h3
          cases e1 : M.letter (f j)
          · cases e2 : (f j == 95)
            · exact Or.inr (Or.inr ⟨rfl, rfl, by simpa [e1, e2] using h3⟩)
            · exact Or.inr (Or.inl ⟨rfl, rfl⟩)
          · exact Or.inl rfl
        clear h3
        rcases hways with h4 | ⟨h4, h5⟩ | ⟨h4, h5, h6⟩
        all_goals
          go_wp2_with (go_at_call 33; refine (zzIsLetter _ _).mono ?_; rintro e w' ⟨rfl, rfl⟩)
          go_loop [7] (fun t => ∃ k : Nat, k ≤ n ∧ t = .int .i64 k ∧ Hid (M.sk M.attrC f n k = M.sk M.attrC f n (j + 1))) (fun t => n - (intOf t).toNat)
          case atStart => exact ⟨j + 1, by omega, by go_num, rfl⟩
          case round =>
            obtain ⟨k, hk, rfl, hr⟩ := hrel
            have hsplit : (k < n ∧ M.attrC (f k) = true) ∨ (k < n ∧ M.attrC (f k) = false ∧ Hid (M.sk M.attrC f n (j + 1) = k)) ∨ (n ≤ k ∧ Hid (M.sk M.attrC f n (j + 1) = k)) := by
              by_cases hlt : k < n
              · cases hb : M.attrC (f k)
                · exact Or.inr (Or.inl ⟨hlt, rfl, hr.out.symm.trans (M.sk_stop hlt hb)⟩)
                · exact Or.inl ⟨hlt, rfl⟩
              · exact Or.inr (Or.inr ⟨by omega, hr.out.symm.trans (M.sk_ge_end (by omega))⟩)
            rcases hsplit with ⟨hlt2, hb⟩ | ⟨hlt2, hb, HR⟩ | ⟨hge, HR⟩
            · have HB := (show Hid _ from hb)
              have hck := ht k hlt2
              go_wp2_with (go_at_call 35; refine (zzAttrNameByte _ _).mono ?_; rintro e w' ⟨rfl, rfl⟩)
              go_round
              case rel => exact ⟨k + 1, by omega, by go_num, by rw [← M.sk_step hlt2 HB]; exact hr⟩
              case measure => simp [intOf]; omega
            all_goals
              first | (have hck := ht k hlt2) | skip
              have tge := M.sk_ge M.blank f n k
              have tle := M.sk_le M.blank f n k hk
              go_wp2_with (go_at_call 35; refine (zzAttrNameByte _ _).mono ?_; rintro e w' ⟨rfl, rfl⟩)
              refine (zzSkipBlanks b off n c f _ _ hn (by omega) (by omega) ht).mono ?_
              rintro e w2 ⟨rfl, rfl⟩
              rw [Int.toNat_natCast]
              generalize hT : M.sk M.blank f n k = t at *
              have HT := (show Hid _ from hT)
              clear hT
              by_cases ht1 : t < n
              · first | (exfalso; omega) | skip
                all_goals
                  have hct := ht t ht1
                  by_cases ht2 : f t = 61
                  · have ht2' : (f t == 61) = true := by simp [ht2]
                    have HT2 := (show Hid _ from ht2)
                    clear ht2
                    have uge := M.sk_ge M.blank f n (t + 1)
                    have ule := M.sk_le M.blank f n (t + 1) ht1
                    go_wp2_with fail
                    refine (zzSkipBlanks b off n c f _ _ hn (by omega) (by omega) ht).mono ?_
                    rintro e w3 ⟨rfl, rfl⟩
                    rw [show ((t : Int) + 1).toNat = t + 1 from by omega]
                    generalize hU : M.sk M.blank f n (t + 1) = u at *
                    have HU := (show Hid _ from hU)
                    clear hU
                    have HV := (show Hid _ from att_val HJ h1 h2 H3 HR HT ht1 HT2 HU)
                    go_wp2_with fail
                    refine (zzAttrValueEnd b off n c f _ _ hn (by omega) (by omega) ht).mono ?_
                    rintro e w4 ⟨rfl, rfl⟩
                    rw [Int.toNat_natCast]
                    generalize hE : M.valEnd f n u = e at *
                    clear hE
                    by_cases he : 0 ≤ e
                    · go_wp2_with fail
                      go_ret
                      exact ⟨ret_int (by rw [HV.out, if_pos he]), rfl⟩
                    · go_wp2_with fail
                      go_ret
                      exact ⟨ret_int (by rw [HV.out, if_neg (by omega)]), rfl⟩
                  · have ht2' : (f t == 61) = false := by simp [ht2]
                    have HV := (show Hid _ from att_bare HJ h1 h2 H3 HR HT (fun _ => ht2))
                    clear ht2
                    go_wp2_with fail
                    go_ret
                    exact ⟨ret_int HV.out.symm, rfl⟩
              · have HV := (show Hid _ from att_bare HJ h1 h2 H3 HR HT (fun x => absurd x ht1))
                go_wp2_with fail
                go_ret
                exact ⟨ret_int HV.out.symm, rfl⟩

end Go.Proofs.Qxb6605216a.Lv
