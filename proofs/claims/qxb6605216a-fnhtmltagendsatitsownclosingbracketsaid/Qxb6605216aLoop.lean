/-
  Seat b6605216a: htmlTag at an open tag: the loop over the attributes.
-/
import Derived.Test.Qxb6605216aOpen
namespace Go.Proofs.Qxb6605216a.Lv
open Go.RowKit
set_option linter.unusedVariables false

/-- Why the second test of the round says no. -/
theorem noB {f : Nat → Int} {n j : Nat} (hB : ¬ (j + 1 < n ∧ f j = 47 ∧ f (j + 1) = 62)) (hj : j < n) :
    (n = j + 1) ∨ (j + 1 < n ∧ (f j == 47) = false) ∨ (j + 1 < n ∧ (f j == 47) = true ∧ (f (j + 1) == 62) = false) := by
  by_cases h1 : j + 1 < n
  · by_cases h2 : f j = 47
    · exact Or.inr (Or.inr ⟨h1, by simp [h2], by simp; exact fun h3 => hB ⟨h1, h2, h3⟩⟩)
    · exact Or.inr (Or.inl ⟨h1, by simp [h2]⟩)
  · exact Or.inl (by omega)

set_option maxHeartbeats 8000000 in
set_option maxRecDepth 100000 in
theorem htmlTag_long (b off n c : Nat) (f : Nat → Int) (w : World) (hn : n ≤ 2097152) (hcap : n ≤ c) (hcap2 : c ≤ 2097152) (hb : ∀ i, 0 ≤ f i ∧ f i ≤ 255) (h2n : 2 < n) (hf1 : 1 < n → ¬ f 1 = 47) (hl : M.letter (f 1) = true) (ht : Text w b off n f) :
    Calls Try.prog 24 #[.slice (some ⟨b, off, none⟩) n c] w fun e w' => e = .returned (tagV b off c f n) ∧ w' = w := by
  have HC := (show Hid _ from isClose_f hf1)
  have HA := (show Hid _ from at_f HC)
  have h1n : 1 < n := by omega
  have h1' : ((1 : Int) == (n : Int)) = false := by simp; omega
  have hf1' : (f 1 == 47) = false := by simp [hf1 h1n]
  have hc1 := ht 1 h1n
  have h1i : (1 : Int) < (n : Int) := by omega
  have hc2 : ¬ c = 2 := by omega
  clear hf1
  have HS := (show Hid _ from size_open HC h1n hl)
  have HD := (show Hid _ from name_d f n 2 hb h1n)
  have dle := M.sk_le (alsoC ⟨#[45]⟩) (fun k => f (2 + k)) (n - 2) 0 (by omega)
  go_enter Try.func24, Try.ntmps24
  go_wp2_with (go_at_call 29; refine (isLetter _ _).mono ?_; rintro e w' ⟨rfl, rfl⟩)
  refine (nameSize b _ _ _ (fun k => f (2 + k)) _ _ (by omega) (ht.from 2)).mono ?_
  rintro e w1 ⟨rfl, rfl⟩
  generalize hd : M.sk (alsoC ⟨#[45]⟩) (fun k => f (2 + k)) (n - 2) 0 = d at *
  clear hd
  have HE := (show Hid _ from nameEnd_is HA HD)
  go_wp2_with fail
  rw [show 2 + d - 1 = 1 + d from by omega]
  generalize hg1 : c - 1 = c1
  generalize hg2 : c - 2 = c2
  have HG1 := (show Hid _ from hg1)
  clear hg1 hg2
  go_loop [5] (fun t => ∃ k : Nat, k ≤ n ∧ t = .int .i64 k ∧ Hid (M.tag f n k = M.tag f n (2 + d))) (fun t => n - (intOf t).toNat)
  case atStart => exact ⟨2 + d, by omega, by go_num, rfl⟩
  case round =>
    obtain ⟨k, hk, rfl, hr⟩ := hrel
    have jge := M.sk_ge M.blank f n k
    have jle := M.sk_le M.blank f n k hk
    clear hl HD
    go_wp2_with fail
    refine (blankEnd b _ _ _ f _ _ (by omega) (by omega) (by omega) ht).mono ?_
    rintro e w2 ⟨rfl, rfl⟩
    rw [Int.toNat_natCast]
    generalize hj : M.sk M.blank f n k = j at *
    have HJ := (show Hid _ from hj)
    clear hj
    rcases Nat.lt_or_ge j n with hjn | hjn
    · have hcj := ht j hjn
      by_cases hA : f j = 62
      · have HZ := (show Hid _ from open_size HS HE hr (tag_A hk HJ hjn hA))
        have hA' : (f j == 62) = true := by simp [hA]
        clear hA
        go_wp2_with fail
        go_ret2
        exact ⟨tagV_yes (by rw [HZ.out]; omega) (by omega) HA (by rw [HE.out, HA.out]; omega) HG1.out, rfl⟩
      · have hA' : (f j == 62) = false := by simp [hA]
        by_cases hB : j + 1 < n ∧ f j = 47 ∧ f (j + 1) = 62
        · obtain ⟨hB1, hB2, hB3⟩ := hB
          have HZ := (show Hid _ from open_size HS HE hr (tag_B hk HJ hB1 hB2 hB3))
          have hB2' : (f j == 47) = true := by simp [hB2]
          have hB3' : (f (j + 1) == 62) = true := by simp [hB3]
          have hcj1 := ht (j + 1) hB1
          clear hB2 hB3 hA
          go_wp2_with fail
          go_ret2
          exact ⟨tagV_yes (by rw [HZ.out]; omega) (by omega) HA (by rw [HE.out, HA.out]; omega) HG1.out, rfl⟩
        · have hnB := noB hB hjn
          by_cases hC : j = k ∨ M.startC (f j) = false
          · have HZ := (show Hid _ from open_size HS HE hr (tag_C hk HJ (fun _ => hA) (fun a b c => hB ⟨a, b, c⟩) (hC.elim Or.inl (fun h => Or.inr (Or.inr h)))))
            have hjn' : ((j : Int) == (n : Int)) = false := by simp; omega
            have hCw : (((j : Int) == (k : Int)) = true) ∨ (((j : Int) == (k : Int)) = false ∧ M.letter (f j) = false ∧ (f j == 95) = false ∧ (f j == 58) = false) := by
              by_cases e : j = k
              · exact Or.inl (by simp; omega)
              · refine Or.inr ⟨by simp; omega, ?_⟩
                rcases hC with h | h
                · exact absurd h e
                · unfold M.startC at h
                  simp only [Bool.or_eq_false_iff] at h
                  exact ⟨h.1.1, h.1.2, h.2⟩
            clear hA hB hC
            rcases hnB with h5 | ⟨h5, h6⟩ | ⟨h5, h6, h7⟩
            · have h5' : ¬ ((j : Int) + 1 < (n : Int)) := by omega
              have HN := (show Hid _ from h5)
              clear h5
              rcases hCw with h8 | ⟨h8, h9, h10, h11⟩
              all_goals
                go_wp2_with (go_at_call 29; refine (isLetter _ _).mono ?_; rintro e w' ⟨rfl, rfl⟩)
                go_ret2
                exact ⟨tagV_no HZ.out, rfl⟩
            · rcases hCw with h8 | ⟨h8, h9, h10, h11⟩
              all_goals
                go_wp2_with (go_at_call 29; refine (isLetter _ _).mono ?_; rintro e w' ⟨rfl, rfl⟩)
                go_ret2
                exact ⟨tagV_no HZ.out, rfl⟩
            · have hcj1 := ht (j + 1) h5
              rcases hCw with h8 | ⟨h8, h9, h10, h11⟩
              all_goals
                go_wp2_with (go_at_call 29; refine (isLetter _ _).mono ?_; rintro e w' ⟨rfl, rfl⟩)
                go_ret2
                exact ⟨tagV_no HZ.out, rfl⟩
          · have hst : M.startC (f j) = true := by
              cases e : M.startC (f j) with
              | true => rfl
              | false => exact absurd (Or.inr e) hC
            have hjk : ¬ j = k := fun e => hC (Or.inl e)
            have HST := (show Hid _ from hst)
            have h47 : (f j == 47) = false := by simp; exact (start_not hst).2
            have hjk' : ((j : Int) == (k : Int)) = false := by simp; omega
            have hjn' : ((j : Int) == (n : Int)) = false := by simp; omega
            have hways : (M.letter (f j) = true) ∨ (M.letter (f j) = false ∧ (f j == 95) = true) ∨ (M.letter (f j) = false ∧ (f j == 95) = false ∧ (f j == 58) = true) := by
              unfold M.startC at hst
              cases e1 : M.letter (f j)
              · cases e2 : (f j == 95)
                · exact Or.inr (Or.inr ⟨rfl, rfl, by simpa [e1, e2] using hst⟩)
                · exact Or.inr (Or.inl ⟨rfl, rfl⟩)
              · exact Or.inl rfl
            have HR := (show Hid _ from attr_d f n (j + 1) hb hjn)
            have rle := M.sk_le (alsoC ⟨#[95, 46, 58, 45]⟩) (fun q => f (j + 1 + q)) (n - (j + 1)) 0 (by omega)
            clear hA hB hC hst hnB
            rcases hways with h4 | ⟨h4, h5⟩ | ⟨h4, h5, h6⟩
            all_goals
              rcases Nat.lt_or_ge (j + 1) n with h7 | h7
              · go_wp2_with (go_at_call 29; refine (isLetter _ _).mono ?_; rintro e w' ⟨rfl, rfl⟩)
                all_goals
                  refine (nameSize b _ _ _ (fun q => f (j + 1 + q)) _ _ (by omega) ?htx).mono ?_
                  case htx =>
                    first
                      | (intro i hi; exfalso; omega)
                      | exact ht.from (j + 1)
                  rintro e w3 ⟨rfl, rfl⟩
                  generalize hrr : M.sk (alsoC ⟨#[95, 46, 58, 45]⟩) (fun q => f (j + 1 + q)) (n - (j + 1)) 0 = r at *
                  clear hrr
                  have tge := M.sk_ge M.blank f n (j + 1 + r)
                  have tle := M.sk_le M.blank f n (j + 1 + r) (by omega)
                  go_wp2_with fail
                  refine (blankEnd b _ _ _ f _ _ (by omega) (by omega) (by omega) ht).mono ?_
                  rintro e w4 ⟨rfl, rfl⟩
                  rw [show ((j : Int) + 1 + (r : Int)).toNat = j + 1 + r from by omega]
                  generalize hT : M.sk M.blank f n (j + 1 + r) = t at *
                  have HT := (show Hid _ from hT)
                  clear hT
                  by_cases h8 : t < n ∧ f t = 61
                  · first | (exfalso; omega) | skip
                    all_goals
                      obtain ⟨h9, h10⟩ := h8
                      have h10' : (f t == 61) = true := by simp [h10]
                      have H10 := (show Hid _ from h10)
                      have hct := ht t h9
                      have uge := M.sk_ge M.blank f n (t + 1)
                      have ule := M.sk_le M.blank f n (t + 1) h9
                      clear h10
                      go_wp2_with fail
                      refine (blankEnd b _ _ _ f _ _ (by omega) (by omega) (by omega) ht).mono ?_
                      rintro e w5 ⟨rfl, rfl⟩
                      rw [show ((t : Int) + 1).toNat = t + 1 from by omega]
                      generalize hU : M.sk M.blank f n (t + 1) = u at *
                      have HU := (show Hid _ from hU)
                      clear hU
                      have vle := M.valEnd_le f n u
                      have vgt := M.valEnd_gt f n u
                      go_wp2_with fail
                      refine (attributeValueEnd b _ _ _ f _ _ (by omega) (by omega) (by omega) hb (by omega) (by omega) ht).mono ?_
                      rintro e w6 ⟨rfl, rfl⟩
                      rw [Int.toNat_natCast]
                      generalize hV : M.valEnd f n u = v at *
                      have HZ := (show Hid _ from tag_D_val hk HJ hjk hjn HST HR.out.symm HT h9 H10 HU hV)
                      clear hV
                      by_cases h11 : v < 0
                      · have HY := (show Hid _ from open_size HS HE hr (HZ.out.trans (if_pos h11)))
                        clear vgt
                        go_wp2_with fail
                        go_ret2
                        exact ⟨tagV_no HY.out, rfl⟩
                      · have h12 := vgt (by omega)
                        have HY := (show Hid _ from HZ.out.trans (if_neg h11))
                        obtain ⟨m, rfl⟩ := Int.eq_ofNat_of_zero_le (show 0 ≤ v from by omega)
                        clear vgt
                        go_wp2_with fail
                        go_round
                        case rel => exact ⟨m, by omega, rfl, (show Hid _ from HY.out.symm.trans hr.out)⟩
                        case measure => simp [intOf]; omega
                  · have HZ := (show Hid _ from tag_D_bare hk HJ hjk hjn HST HR.out.symm HT (fun a b => h8 ⟨a, b⟩))
                    have h8' : (t < n ∧ (f t == 61) = false) ∨ (¬ t < n) := by
                      by_cases e : t < n
                      · exact Or.inl ⟨e, by simp; exact fun x => h8 ⟨e, x⟩⟩
                      · exact Or.inr e
                    clear h8
                    rcases h8' with ⟨h9, h10⟩ | h9
                    · first | (exfalso; omega) | skip
                      all_goals
                        have hct := ht t h9
                        go_wp2_with fail
                        go_round
                        case rel => exact ⟨j + 1 + r, by omega, by go_num, (show Hid _ from HZ.out.trans hr.out)⟩
                        case measure => simp [intOf]; omega
                    · go_wp2_with fail
                      go_round
                      case rel => exact ⟨j + 1 + r, by omega, by go_num, (show Hid _ from HZ.out.trans hr.out)⟩
                      case measure => simp [intOf]; omega
              · have hnj : n = j + 1 := by omega
                have hz0 : M.sk (alsoC ⟨#[95, 46, 58, 45]⟩) (fun q => f (j + 1 + q)) 0 0 = 0 := M.sk_ge_end (Nat.le_refl _)
                have hz1 : M.sk M.blank f n (j + 1) = j + 1 := M.sk_ge_end (by omega)
                have Z0 := (show Hid _ from hz0)
                have Z1 := (show Hid _ from hz1)
                have HZ := (show Hid _ from tag_D_bare hk HJ hjk hjn HST (M.sk_ge_end (by omega)) hz1 (fun a b => by omega))
                have h7' : ¬ ((j : Int) + 1 < (n : Int)) := by omega
                clear hz0 hz1 HR rle hnj
                rcases Nat.eq_or_lt_of_le (show j + 1 ≤ c from by omega) with h8 | h8
                · subst h8
                  go_wp2_with (go_at_call 29; refine (isLetter _ _).mono ?_; rintro e w' ⟨rfl, rfl⟩)
                  refine (nameSize b _ _ _ (fun q => f (j + 1 + q)) _ _ (by omega) (fun i hi => by omega)).mono ?_
                  rintro e w3 ⟨rfl, rfl⟩
                  rw [Z0.out]
                  go_wp2_with fail
                  refine (blankEnd b _ _ _ f _ _ (by omega) (by omega) (by omega) ht).mono ?_
                  rintro e w4 ⟨rfl, rfl⟩
                  rw [show ((j : Int) + 1).toNat = j + 1 from by omega, Z1.out]
                  go_wp2_with fail
                  go_round
                  case rel => exact ⟨j + 1, by omega, by go_num, (show Hid _ from HZ.out.trans hr.out)⟩
                  case measure => simp [intOf]; omega
                · go_wp2_with (go_at_call 29; refine (isLetter _ _).mono ?_; rintro e w' ⟨rfl, rfl⟩)
                  refine (nameSize b _ _ _ (fun q => f (j + 1 + q)) _ _ (by omega) (fun i hi => by omega)).mono ?_
                  rintro e w3 ⟨rfl, rfl⟩
                  rw [Z0.out]
                  go_wp2_with fail
                  refine (blankEnd b _ _ _ f _ _ (by omega) (by omega) (by omega) ht).mono ?_
                  rintro e w4 ⟨rfl, rfl⟩
                  rw [show ((j : Int) + 1).toNat = j + 1 from by omega, Z1.out]
                  go_wp2_with fail
                  go_round
                  case rel => exact ⟨j + 1, by omega, by go_num, (show Hid _ from HZ.out.trans hr.out)⟩
                  case measure => simp [intOf]; omega
    · have HZ := (show Hid _ from open_size HS HE hr (tag_C hk HJ (fun h => by omega) (fun h => by omega) (Or.inr (Or.inl (by omega)))))
      have hjn' : ((j : Int) == (n : Int)) = true := by simp; omega
      have hCw : (((j : Int) == (k : Int)) = true) ∨ (((j : Int) == (k : Int)) = false) := by
        by_cases e : j = k
        · exact Or.inl (by simp; omega)
        · exact Or.inr (by simp; omega)
      rcases hCw with h8 | h8
      all_goals
        go_wp2_with fail
        go_ret2
        exact ⟨tagV_no HZ.out, rfl⟩

end Go.Proofs.Qxb6605216a.Lv
