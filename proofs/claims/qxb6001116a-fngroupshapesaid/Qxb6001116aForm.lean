/-
  Seat b6001116a: zzValidForm and zzWellGrouped.
-/
import Derived.Test.Qxb6001116aLeaves
import Derived.Test.Qxb6001116aMath2
namespace Go.Proofs.Qxb6001116a.Lv
open Go.RowKit
set_option linter.unusedVariables false

theorem take_snoc (s : ByteArray) (k : Nat) (h : k < s.size) : s.data.toList.take (k + 1) = s.data.toList.take k ++ [s[k]] := by
  have h' : k < s.data.toList.length := by rw [← Lib.size_eq]; exact h
  rw [List.take_succ_eq_append_getElem h']
  rfl
theorem all_snoc {s : ByteArray} {k : Nat} (h : k < s.size) (ha : (s.data.toList.take k).all M.dig = true) (hd : M.dig s[k] = true) : (s.data.toList.take (k + 1)).all M.dig = true := by
  rw [take_snoc s k h, List.all_append, ha]; simp [hd]
theorem parts (s : ByteArray) (k : Nat) (h : k < s.size) : s.data.toList = s.data.toList.take k ++ s[k] :: s.data.toList.drop (k + 1) := by
  rw [← drop_cons s k h, List.take_append_drop]
theorem take_ne {s : ByteArray} {k : Nat} (h : k < s.size) (hk : ¬ k = 0) : s.data.toList.take k ≠ [] := by
  intro e
  have := congrArg List.length e
  rw [List.length_take, ← Lib.size_eq, List.length_nil] at this
  omega

/-- The digits behind the '.', as far as j. -/
theorem mid_snoc {s : ByteArray} {i j : Nat} (hij : i ≤ j) (h : j < s.size) (ha : ((s.data.toList.drop i).take (j - i)).all M.dig = true) (hd : M.dig s[j] = true) : ((s.data.toList.drop i).take (j + 1 - i)).all M.dig = true := by
  have h' : j - i < (s.data.toList.drop i).length := by rw [List.length_drop, ← Lib.size_eq]; omega
  rw [show j + 1 - i = (j - i) + 1 from by omega, List.take_succ_eq_append_getElem h', List.all_append, ha]
  have e : (s.data.toList.drop i)[j - i] = s[j] := by
    rw [List.getElem_drop]
    have : i + (j - i) = j := by omega
    simp only [this]
    rfl
  rw [e]; simp [hd]
theorem mid_bad {s : ByteArray} {i j : Nat} (hij : i ≤ j) (h : j < s.size) (hd : M.dig s[j] = false) : M.isDig (s.data.toList.drop i) = false := by
  have e : s.data.toList.drop i = (s.data.toList.drop i).take (j - i) ++ s[j] :: s.data.toList.drop (j + 1) := by
    have : s.data.toList.drop j = (s.data.toList.drop i).drop (j - i) := by rw [List.drop_drop]; congr 1; omega
    rw [← drop_cons s j h, this, List.take_append_drop]
  rw [e]
  exact M.isDig_bad hd
theorem mid_all {s : ByteArray} {i j : Nat} (hj : j = s.size) (ha : ((s.data.toList.drop i).take (j - i)).all M.dig = true) : (s.data.toList.drop i).all M.dig = true := by
  rw [List.take_of_length_le (by rw [List.length_drop, ← Lib.size_eq]; omega)] at ha
  exact ha
theorem drop_ne {s : ByteArray} {i : Nat} (h : i < s.size) : s.data.toList.drop i ≠ [] := by
  rw [drop_cons s i h]; simp

theorem ok_at46 {s : ByteArray} {k : Nat} (h : k < s.size) (hk : ¬ k = 0) (ha : (s.data.toList.take k).all M.dig = true) (h46 : s[k] = 46) : M.okL s.data.toList = M.isDig (s.data.toList.drop (k + 1)) := by
  have e := parts s k h
  rw [h46] at e
  have h1 := M.ok_dot (p := s.data.toList.take k) (r := s.data.toList.drop (k + 1)) ha (take_ne h hk)
  rw [← e] at h1
  exact h1
theorem ok_at_other {s : ByteArray} {k : Nat} (h : k < s.size) (ha : (s.data.toList.take k).all M.dig = true) (hd : M.dig s[k] = false) (h46 : ¬ s[k] = 46) : M.okL s.data.toList = false := by
  have e := parts s k h
  have h1 := M.ok_other (p := s.data.toList.take k) (r := s.data.toList.drop (k + 1)) (c := s[k]) ha hd h46
  rw [← e] at h1
  exact h1
theorem ok_at0 {s : ByteArray} (h : s.size = 0 ∨ ∃ h : 0 < s.size, M.dig s[0] = false) : M.okL s.data.toList = false := by
  rcases h with h | ⟨h, hd⟩
  · refine M.ok_none (Or.inl ?_)
    rw [← List.length_eq_zero_iff, ← Lib.size_eq]; exact h
  · exact M.ok_none (Or.inr ⟨s[0], s.data.toList.drop 1, parts s 0 h, hd⟩)
theorem ok_at_end {s : ByteArray} {k : Nat} (h : k = s.size) (hk : ¬ k = 0) (ha : (s.data.toList.take k).all M.dig = true) : M.okL s.data.toList = true := by
  rw [List.take_of_length_le (by rw [← Lib.size_eq]; omega)] at ha
  refine M.ok_all ha ?_
  intro e
  have := congrArg List.length e
  rw [← Lib.size_eq, List.length_nil] at this
  omega
theorem isDig_end {s : ByteArray} {i j : Nat} (hj : j = s.size) (hij : i ≤ j) (ha : ((s.data.toList.drop i).take (j - i)).all M.dig = true) : M.isDig (s.data.toList.drop i) = decide (i < j) := by
  have h1 := mid_all hj ha
  by_cases h : i < j
  · rw [M.isDig_some h1 (drop_ne (by omega))]; simp [h]
  · rw [drop_end s i (by omega)]; simp [h]; rfl

set_option maxHeartbeats 2000000 in
set_option maxRecDepth 100000 in
theorem zzValidForm (s : ByteArray) (w : World) (hs : s.size ≤ 2097152) :
    Calls Try.prog 14 #[.string s] w fun e w' => e = .returned (.bool (M.okL s.data.toList)) ∧ w' = w := by
  go_enter Try.func14, Try.ntmps14
  go_wp2_with fail
  go_loop [4] (fun t => ∃ k : Nat, k ≤ s.size ∧ t = .int .i64 k ∧ Hid ((s.data.toList.take k).all M.dig = true)) (fun t => s.size - (intOf t).toNat)
  case atStart => exact ⟨0, by omega, rfl, (show _ = _ by simp)⟩
  case round =>
    obtain ⟨k, hk, rfl, hr⟩ := hrel
    by_cases hlt : k < s.size
    · cases hd : M.dig s[k]
      · by_cases hk0 : k = 0
        · subst hk0
          have HO : Hid (M.okL s.data.toList = false) := ok_at0 (Or.inr ⟨hlt, hd⟩)
          go_wp2_with (go_at_call 29; refine (zzIsDigit _ _).mono ?_; rintro e w' ⟨rfl, rfl⟩)
          go_ret
          exact ⟨ret_bool HO.out.symm, rfl⟩
        · have hk0' : ((k : Int) == 0) = false := by simp; omega
          have hkn : ((k : Int) == (s.size : Int)) = false := by simp; omega
          by_cases h46 : s[k] = 46
          · have h46' : ((s[k].toNat : Int) != 46) = false := by rw [h46]; rfl
            have HO : Hid (M.okL s.data.toList = M.isDig (s.data.toList.drop (k + 1))) := ok_at46 hlt hk0 hr.out h46
            clear h46
            go_wp2_with (go_at_call 29; refine (zzIsDigit _ _).mono ?_; rintro e w' ⟨rfl, rfl⟩)
            clear hd
            go_loop [5] (fun t => ∃ j : Nat, j ≤ s.size ∧ k + 1 ≤ j ∧ t = .int .i64 j ∧ Hid (((s.data.toList.drop (k + 1)).take (j - (k + 1))).all M.dig = true)) (fun t => s.size - (intOf t).toNat)
            case atStart => exact ⟨k + 1, by omega, by omega, by go_num, (show _ = _ by simp)⟩
            case round =>
              obtain ⟨j, hj, hkj, rfl, hr2⟩ := hrel
              by_cases hjlt : j < s.size
              · cases hd2 : M.dig s[j]
                · have HO2 : Hid (M.okL s.data.toList = false) := HO.out.trans (mid_bad hkj hjlt hd2)
                  have hjn : ((j : Int) == (s.size : Int)) = false := by simp; omega
                  go_wp2_with (go_at_call 29; refine (zzIsDigit _ _).mono ?_; rintro e w' ⟨rfl, rfl⟩)
                  go_ret
                  exact ⟨ret_bool HO2.out.symm, rfl⟩
                · have HN : Hid (((s.data.toList.drop (k + 1)).take (j + 1 - (k + 1))).all M.dig = true) := mid_snoc hkj hjlt hr2.out hd2
                  go_wp2_with (go_at_call 29; refine (zzIsDigit _ _).mono ?_; rintro e w' ⟨rfl, rfl⟩)
                  go_round
                  case rel => exact ⟨j + 1, by omega, by omega, by go_num, HN⟩
                  case measure => simp [intOf]; omega
              · have HO2 : Hid (M.okL s.data.toList = decide (k + 1 < j)) := HO.out.trans (isDig_end (by omega) hkj hr2.out)
                have hjn : ((j : Int) == (s.size : Int)) = true := by simp; omega
                by_cases hgt : k + 1 < j
                · have HO3 : Hid (M.okL s.data.toList = true) := HO2.out.trans (decide_eq_true hgt)
                  have hgt' : decide ((k : Int) + 1 < (j : Int)) = true := by simp; omega
                  go_wp2_with fail
                  go_ret
                  exact ⟨ret_bool (by rw [HO3.out]), rfl⟩
                · have HO3 : Hid (M.okL s.data.toList = false) := HO2.out.trans (decide_eq_false hgt)
                  have hgt' : ¬ ((k : Int) + 1 < (j : Int)) := by omega
                  go_wp2_with fail
                  go_ret
                  exact ⟨ret_bool HO3.out.symm, rfl⟩
          · have h46' : ((s[k].toNat : Int) != 46) = true := by
              have e := eq_byte (c := s[k]) 46 (by omega)
              have e2 : (s[k] == (UInt8.ofNat 46)) = false := by simpa using h46
              rw [e2] at e
              simp only [bne, Bool.not_eq_true', ← e]
              rfl
            have HO : Hid (M.okL s.data.toList = false) := ok_at_other hlt hr.out hd h46
            clear h46
            go_wp2_with (go_at_call 29; refine (zzIsDigit _ _).mono ?_; rintro e w' ⟨rfl, rfl⟩)
            go_ret
            exact ⟨ret_bool HO.out.symm, rfl⟩
      · have HN : Hid ((s.data.toList.take (k + 1)).all M.dig = true) := all_snoc hlt hr.out hd
        go_wp2_with (go_at_call 29; refine (zzIsDigit _ _).mono ?_; rintro e w' ⟨rfl, rfl⟩)
        go_round
        case rel => exact ⟨k + 1, by omega, by go_num, HN⟩
        case measure => simp [intOf]; omega
    · by_cases hk0 : k = 0
      · have HO : Hid (M.okL s.data.toList = false) := ok_at0 (Or.inl (by omega))
        have hk0' : ((k : Int) == 0) = true := by simp; omega
        clear hk0
        go_wp2_with fail
        go_ret
        exact ⟨ret_bool HO.out.symm, rfl⟩
      · have HO : Hid (M.okL s.data.toList = true) := ok_at_end (by omega) hk0 hr.out
        have hk0' : ((k : Int) == 0) = false := by simp; omega
        have hkn : ((k : Int) == (s.size : Int)) = true := by simp; omega
        go_wp2_with fail
        go_ret
        exact ⟨ret_bool HO.out.symm, rfl⟩

theorem wg_comma0 {l : List UInt8} {seg : Nat} (h : M.wg (44 :: l) seg 0 = true) : 1 ≤ seg ∧ seg ≤ 3 ∧ M.wg l 0 1 = true := by
  simp only [M.wg, if_true] at h
  by_cases h2 : 1 ≤ seg ∧ seg ≤ 3
  · rw [if_pos h2] at h; exact ⟨h2.1, h2.2, h⟩
  · rw [if_neg h2] at h; cases h
theorem wg_comma {l : List UInt8} {seg idx : Nat} (hi : ¬ idx = 0) (h : M.wg (44 :: l) seg idx = true) : seg = 3 ∧ M.wg l 0 (idx + 1) = true := by
  simp only [M.wg, if_true, if_neg hi] at h
  by_cases h2 : seg = 3
  · rw [if_pos h2] at h; exact ⟨h2, h⟩
  · rw [if_neg h2] at h; cases h
theorem wg_other {c : UInt8} {l : List UInt8} {seg idx : Nat} (hc : ¬ c = 44) (h : M.wg (c :: l) seg idx = true) : M.dig c = true ∧ M.wg l (seg + 1) idx = true := by
  simp only [M.wg, if_neg hc] at h
  by_cases h2 : M.dig c = true
  · rw [if_pos h2] at h; exact ⟨h2, h⟩
  · rw [if_neg h2] at h; cases h
theorem wg_nil0 {seg : Nat} (h : M.wg [] seg 0 = true) : 1 ≤ seg ∧ seg ≤ 3 := by simpa [M.wg] using h
theorem wg_nil {seg idx : Nat} (hi : ¬ idx = 0) (h : M.wg [] seg idx = true) : seg = 3 := by simpa [M.wg, hi] using h

set_option maxHeartbeats 2000000 in
set_option maxRecDepth 100000 in
theorem zzWellGrouped (s : ByteArray) (w : World) (hs : s.size ≤ 8388608) (hg : M.wg s.data.toList 0 0 = true) :
    Calls Try.prog 16 #[.string s] w fun e w' => e = .returned (.bool true) ∧ w' = w := by
  have HG : Hid (M.wg s.data.toList 0 0 = true) := hg
  clear hg
  go_enter Try.func16, Try.ntmps16
  go_wp2_with fail
  go_loop [3, 4, 5] (fun a b t => ∃ seg idx k : Nat, k ≤ s.size ∧ seg ≤ k ∧ idx ≤ k ∧ a = .int .i64 seg ∧ b = .int .i64 idx ∧ t = .int .i64 k ∧ Hid (M.wg (s.data.toList.drop k) seg idx = true)) (fun _ _ t => s.size - (intOf t).toNat)
  case atStart => exact ⟨0, 0, 0, by omega, by omega, by omega, rfl, rfl, rfl, HG⟩
  case round =>
    obtain ⟨seg, idx, k, hk, hsk, hik, rfl, rfl, rfl, hr⟩ := hrel
    by_cases hlt : k < s.size
    · have HD : Hid (s.data.toList.drop k = s[k] :: s.data.toList.drop (k + 1)) := drop_cons s k hlt
      have HR : Hid (M.wg (s[k] :: s.data.toList.drop (k + 1)) seg idx = true) := by have := hr.out; rw [HD.out] at this; exact this
      by_cases hc : s[k] = 44
      · have hc' : ((s[k].toNat : Int) == 44) = true := by rw [hc]; rfl
        have HR2 : Hid (M.wg (44 :: s.data.toList.drop (k + 1)) seg idx = true) := by have := HR.out; rw [hc] at this; exact this
        clear hc
        by_cases hi : idx = 0
        · subst hi
          obtain ⟨h1, h2, h3⟩ := wg_comma0 HR2.out
          have H3 : Hid (M.wg (s.data.toList.drop (k + 1)) 0 1 = true) := h3
          have h1' : ¬ ((seg : Int) < 1) := by omega
          have h2' : ¬ ((3 : Int) < (seg : Int)) := by omega
          clear h3
          go_wp2_with fail
          go_round
          case rel => exact ⟨0, 1, k + 1, by omega, by omega, by omega, rfl, rfl, by go_num, H3⟩
          case measure => simp [intOf]; omega
        · obtain ⟨h1, h3⟩ := wg_comma hi HR2.out
          have H3 : Hid (M.wg (s.data.toList.drop (k + 1)) 0 (idx + 1) = true) := h3
          have hi' : ((idx : Int) == 0) = false := by simp; omega
          have h1' : ((seg : Int) != 3) = false := by simp; omega
          clear h3 h1
          go_wp2_with fail
          go_round
          case rel => exact ⟨0, idx + 1, k + 1, by omega, by omega, by omega, rfl, by go_num, by go_num, H3⟩
          case measure => simp [intOf]; omega
      · have hc' : ((s[k].toNat : Int) == 44) = false := by
          rw [show (44 : Int) = ((44 : Nat) : Int) from rfl, eq_byte 44 (by omega)]; simpa using hc
        obtain ⟨hd, h3⟩ := wg_other hc HR.out
        have H3 : Hid (M.wg (s.data.toList.drop (k + 1)) (seg + 1) idx = true) := h3
        clear hc h3
        go_wp2_with (go_at_call 29; refine (zzIsDigit _ _).mono ?_; rintro e w' ⟨rfl, rfl⟩)
        go_round
        case rel => exact ⟨seg + 1, idx, k + 1, by omega, by omega, by omega, by go_num, rfl, by go_num, H3⟩
        case measure => simp [intOf]; omega
    · have HR : Hid (M.wg [] seg idx = true) := by have := hr.out; rw [drop_end s k (by omega)] at this; exact this
      by_cases hi : idx = 0
      · subst hi
        obtain ⟨h1, h2⟩ := wg_nil0 HR.out
        have h1' : decide ((1 : Int) ≤ (seg : Int)) = true := by simp; omega
        have h2' : decide ((seg : Int) ≤ 3) = true := by simp; omega
        go_wp2_with fail
        go_ret
        exact ⟨ret_bool (by first | rfl | exact h2' | simp; omega), rfl⟩
      · have h1 := wg_nil hi HR.out
        have hi' : ((idx : Int) == 0) = false := by simp; omega
        have h1' : ((seg : Int) == 3) = true := by simp; omega
        clear h1
        go_wp2_with fail
        go_ret
        exact ⟨rfl, rfl⟩

end Go.Proofs.Qxb6001116a.Lv
