/-
  Seat b6605216a: the laws' own model of a tag: zzAttrValueEnd, zzAttribute, zzTagModel.
-/
import Derived.Test.Qxb6605216aScans
namespace Go.Proofs.Qxb6605216a.Lv
open Go.RowKit
set_option linter.unusedVariables false

theorem val_end {f : Nat → Int} {n i : Nat} (h : n ≤ i) : M.valEnd f n i = -1 := by unfold M.valEnd; rw [if_pos h]
theorem val_q_hit {f : Nat → Int} {n i k : Nat} (h : i < n) (hq : f i = 34 ∨ f i = 39) (hr : M.sk (fun c => c != f i) f n k = M.sk (fun c => c != f i) f n (i + 1)) (hk : k < n) (he : f k = f i) : M.valEnd f n i = (k : Int) + 1 := by
  have e : M.sk (fun c => c != f i) f n (i + 1) = k := by rw [← hr, M.sk_stop hk (by simp [he])]
  unfold M.valEnd; rw [if_neg (by omega), if_pos hq, e, if_pos hk]
theorem val_q_miss {f : Nat → Int} {n i k : Nat} (h : i < n) (hq : f i = 34 ∨ f i = 39) (hr : M.sk (fun c => c != f i) f n k = M.sk (fun c => c != f i) f n (i + 1)) (hk : n ≤ k) : M.valEnd f n i = -1 := by
  have e : M.sk (fun c => c != f i) f n (i + 1) = k := by rw [← hr, M.sk_ge_end hk]
  unfold M.valEnd; rw [if_neg (by omega), if_pos hq, e, if_neg (by omega)]
theorem val_u {f : Nat → Int} {n i k : Nat} (h : i < n) (hq : ¬ (f i = 34 ∨ f i = 39)) (hr : M.sk M.unq f n i = k) : M.valEnd f n i = if k = i then -1 else (k : Int) := by
  unfold M.valEnd; rw [if_neg (by omega), if_neg hq, hr]

set_option maxHeartbeats 1000000 in
theorem zzAttrValueEnd (b off n c : Nat) (f : Nat → Int) (x : Int) (w : World) (hn : n ≤ 2097152) (h0 : 0 ≤ x) (hx : x ≤ n) (ht : Text w b off n f) :
    Calls Try.prog 36 #[.slice (some ⟨b, off, none⟩) n c, .int .i64 x] w fun e w' => e = .returned (.int .i64 (M.valEnd f n x.toNat)) ∧ w' = w := by
  obtain ⟨i, rfl⟩ := Int.eq_ofNat_of_zero_le h0
  rw [Int.toNat_natCast]
  by_cases hin : i < n
  · have hc0 := ht i hin
    have hg : decide (n ≤ i) = false := by simp; omega
    by_cases hq : f i = 34 ∨ f i = 39
    · have HQ := (show Hid _ from hq)
      rcases hq with hq | hq
      all_goals
        have h1 : (f i == 34) = true ∨ (f i == 34) = false ∧ (f i == 39) = true := by simp [hq]
        clear hq
        rcases h1 with h1 | ⟨h1, h2⟩
        all_goals
          go_enter Try.func36, Try.ntmps36
          go_wp2_with fail
          go_loop [6] (fun t => ∃ k : Nat, k ≤ n ∧ t = .int .i64 k ∧ Hid (M.sk (fun c => c != f i) f n k = M.sk (fun c => c != f i) f n (i + 1))) (fun t => n - (intOf t).toNat)
          case atStart => exact ⟨i + 1, by omega, by go_num, rfl⟩
          case round =>
            obtain ⟨k, hk, rfl, hr⟩ := hrel
            by_cases hlt : k < n
            · have hc := ht k hlt
              by_cases he : f k = f i
              · have he' : (f k == f i) = true := by simp [he]
                have HE := (show Hid _ from he)
                clear he
                go_wp2_with fail
                go_ret
                exact ⟨ret_int (val_q_hit hin HQ hr hlt HE).symm, rfl⟩
              · have he' : (f k == f i) = false := by simp [he]
                have hne : (f k != f i) = true := by simp [he]
                have HN := (show Hid _ from hne)
                clear he hne
                go_wp2_with fail
                go_round
                case rel => exact ⟨k + 1, by omega, by go_num, by have e := M.sk_step (p := fun c => c != f i) hlt HN; exact (show Hid _ from e.symm.trans hr.out)⟩
                case measure => simp [intOf]; omega
            · go_wp2_with fail
              go_ret
              exact ⟨ret_int (val_q_miss hin HQ hr (by omega)).symm, rfl⟩
    · have HQ := (show Hid _ from hq)
      have h1 : (f i == 34) = false := by simp; exact fun e => hq (Or.inl e)
      have h2 : (f i == 39) = false := by simp; exact fun e => hq (Or.inr e)
      clear hq
      go_enter Try.func36, Try.ntmps36
      go_wp2_with fail
      go_loop [7] (fun t => ∃ k : Nat, k ≤ n ∧ t = .int .i64 k ∧ Hid (M.sk M.unq f n k = M.sk M.unq f n i)) (fun t => n - (intOf t).toNat)
      case atStart => exact ⟨i, by omega, by go_num, rfl⟩
      case round =>
        obtain ⟨k, hk, rfl, hr⟩ := hrel
        by_cases hlt : k < n
        · have hc := ht k hlt
          cases hb : M.unq (f k)
          · have HV := (show Hid _ from val_u hin HQ.out (hr.out.symm.trans (M.sk_stop hlt hb)))
            by_cases hki : k = i
            · have hki' : ((k : Int) == (i : Int)) = true := by simp; omega
              have HKI := (show Hid _ from hki)
              clear hki
              go_wp2_with (go_at_call 41; refine (zzUnquotedByte _ _).mono ?_; rintro e w' ⟨rfl, rfl⟩)
              go_ret
              exact ⟨ret_int (by rw [HV.out, if_pos HKI.out]), rfl⟩
            · have hki' : ((k : Int) == (i : Int)) = false := by simp; omega
              go_wp2_with (go_at_call 41; refine (zzUnquotedByte _ _).mono ?_; rintro e w' ⟨rfl, rfl⟩)
              go_ret
              exact ⟨ret_int (by rw [HV.out, if_neg hki]), rfl⟩
          · have HB := (show Hid _ from hb)
            go_wp2_with (go_at_call 41; refine (zzUnquotedByte _ _).mono ?_; rintro e w' ⟨rfl, rfl⟩)
            go_round
            case rel => exact ⟨k + 1, by omega, by go_num, by rw [← M.sk_step hlt HB]; exact hr⟩
            case measure => simp [intOf]; omega
        · have HV := (show Hid _ from val_u hin HQ.out (hr.out.symm.trans (M.sk_ge_end (by omega))))
          have hki' : ((k : Int) == (i : Int)) = false := by simp; omega
          go_wp2_with fail
          go_ret
          exact ⟨ret_int (by rw [HV.out, if_neg (by omega)]), rfl⟩
  · have hge : (n : Int) ≤ (i : Int) := by omega
    go_enter Try.func36, Try.ntmps36
    go_wp2_with fail
    go_ret
    exact ⟨ret_int (val_end (by omega)).symm, rfl⟩

end Go.Proofs.Qxb6605216a.Lv
