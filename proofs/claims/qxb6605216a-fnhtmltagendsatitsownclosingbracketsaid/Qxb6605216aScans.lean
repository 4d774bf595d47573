/-
  Seat b6605216a: the functions that run along a text.
-/
import Derived.Test.Qxb6605216aLeaves
import Derived.LoopTactic
namespace Go.Proofs.Qxb6605216a.Lv
open Go.RowKit
set_option linter.unusedVariables false

/-- The n bytes from offset 'off' of block b on are f 0, f 1, .. -/
def Text (w : World) (b off n : Nat) (f : Nat → Int) : Prop := ∀ i, i < n → w.cell? ⟨b, off + i, none⟩ = some (.int .u8 (f i))

theorem ret_int {k : IntKind} {a b : Int} (h : a = b) : Ending.returned (.int k a) = .returned (.int k b) := by rw [h]

set_option maxHeartbeats 400000 in
theorem blankEnd (b off n c : Nat) (f : Nat → Int) (x : Int) (w : World) (hn : n ≤ 2097152) (h0 : 0 ≤ x) (hx : x ≤ n) (ht : Text w b off n f) :
    Calls Try.prog 31 #[.slice (some ⟨b, off, none⟩) n c, .int .i64 x] w fun e w' => e = .returned (.int .i64 ((M.sk M.blank f n x.toNat : Nat) : Int)) ∧ w' = w := by
  obtain ⟨i, rfl⟩ := Int.eq_ofNat_of_zero_le h0
  rw [Int.toNat_natCast]
  go_enter Try.func31, Try.ntmps31
  go_wp2_with fail
  go_loop [1] (fun t => ∃ k : Nat, k ≤ n ∧ t = .int .i64 k ∧ Hid (M.sk M.blank f n k = M.sk M.blank f n i)) (fun t => n - (intOf t).toNat)
  case atStart => exact ⟨i, by omega, rfl, rfl⟩
  case round =>
    obtain ⟨k, hk, rfl, hr⟩ := hrel
    by_cases hlt : k < n
    · have hc := ht k hlt
      by_cases hb : M.blank (f k) = true
      · go_wp2_with (go_at_call 39; refine (isSpaceOrTab _ _).mono ?_; rintro e w' ⟨rfl, rfl⟩)
        go_round
        case rel => exact ⟨k + 1, by omega, by go_num, by rw [← M.sk_step hlt hb]; exact hr⟩
        case measure => simp [intOf]; omega
      · have hb' : M.blank (f k) = false := by simpa using hb
        clear hb
        go_wp2_with (go_at_call 39; refine (isSpaceOrTab _ _).mono ?_; rintro e w' ⟨rfl, rfl⟩)
        go_ret
        exact ⟨ret_int (by rw [← hr.out, M.sk_stop hlt hb']), rfl⟩
    · go_wp2_with fail
      go_ret
      exact ⟨ret_int (by rw [← hr.out, M.sk_ge_end (by omega)]), rfl⟩

set_option maxHeartbeats 400000 in
theorem zzSkipBlanks (b off n c : Nat) (f : Nat → Int) (x : Int) (w : World) (hn : n ≤ 2097152) (h0 : 0 ≤ x) (hx : x ≤ n) (ht : Text w b off n f) :
    Calls Try.prog 26 #[.slice (some ⟨b, off, none⟩) n c, .int .i64 x] w fun e w' => e = .returned (.int .i64 ((M.sk M.blank f n x.toNat : Nat) : Int)) ∧ w' = w := by
  obtain ⟨i, rfl⟩ := Int.eq_ofNat_of_zero_le h0
  rw [Int.toNat_natCast]
  go_enter Try.func26, Try.ntmps26
  go_wp2_with fail
  go_loop [1] (fun t => ∃ k : Nat, k ≤ n ∧ t = .int .i64 k ∧ Hid (M.sk M.blank f n k = M.sk M.blank f n i)) (fun t => n - (intOf t).toNat)
  case atStart => exact ⟨i, by omega, rfl, rfl⟩
  case round =>
    obtain ⟨k, hk, rfl, hr⟩ := hrel
    by_cases hlt : k < n
    · have hc := ht k hlt
      by_cases hb : M.blank (f k) = true
      · go_wp2_with (go_at_call 21; refine (zzIsBlank _ _).mono ?_; rintro e w' ⟨rfl, rfl⟩)
        go_round
        case rel => exact ⟨k + 1, by omega, by go_num, by rw [← M.sk_step hlt hb]; exact hr⟩
        case measure => simp [intOf]; omega
      · have hb' : M.blank (f k) = false := by simpa using hb
        clear hb
        go_wp2_with (go_at_call 21; refine (zzIsBlank _ _).mono ?_; rintro e w' ⟨rfl, rfl⟩)
        go_ret
        exact ⟨ret_int (by rw [← hr.out, M.sk_stop hlt hb']), rfl⟩
    · go_wp2_with fail
      go_ret
      exact ⟨ret_int (by rw [← hr.out, M.sk_ge_end (by omega)]), rfl⟩

/-- zzTagNameEnd: -1 where no letter stands at x; else the end of the name. -/
def tagNameEnd (f : Nat → Int) (n p : Nat) : Int := if p < n ∧ M.letter (f p) = true then ((M.sk M.nameC f n (p + 1) : Nat) : Int) else -1

set_option maxHeartbeats 1000000 in
theorem zzTagNameEnd (b off n c : Nat) (f : Nat → Int) (i : Nat) (w : World) (hn : n ≤ 2097152) (hx : i ≤ 2) (ht : Text w b off n f) :
    Calls Try.prog 25 #[.slice (some ⟨b, off, none⟩) n c, .int .i64 i] w fun e w' => e = .returned (.int .i64 (tagNameEnd f n i)) ∧ w' = w := by
  by_cases hin : i < n
  · have hc0 := ht i hin
    have hg : decide (n ≤ i) = false := by simp; omega
    cases hl : M.letter (f i)
    · go_enter Try.func25, Try.ntmps25
      go_wp2_with (go_at_call 33; refine (zzIsLetter _ _).mono ?_; rintro e w' ⟨rfl, rfl⟩)
      go_ret
      exact ⟨ret_int (by unfold tagNameEnd; rw [if_neg (by simp [hl])]), rfl⟩
    · have hfin : tagNameEnd f n i = ((M.sk M.nameC f n (i + 1) : Nat) : Int) := by unfold tagNameEnd; rw [if_pos ⟨hin, hl⟩]
      have Hfin := (show Hid _ from hfin)
      clear hfin
      go_enter Try.func25, Try.ntmps25
      go_wp2_with (go_at_call 33; refine (zzIsLetter _ _).mono ?_; rintro e w' ⟨rfl, rfl⟩)
      clear hl hc0
      go_loop [5] (fun t => ∃ k : Nat, k ≤ n ∧ t = .int .i64 k ∧ Hid (M.sk M.nameC f n k = M.sk M.nameC f n (i + 1))) (fun t => n - (intOf t).toNat)
      case atStart => exact ⟨i + 1, by omega, by go_num, rfl⟩
      case round =>
        obtain ⟨k, hk, rfl, hr⟩ := hrel
        by_cases hlt : k < n
        · have hc := ht k hlt
          by_cases hb : M.nameC (f k) = true
          · have HB := (show Hid _ from hb)
            have hb2 := hb
            unfold M.nameC at hb2
            clear hb
            cases h1 : M.letter (f k)
            · cases h2 : M.digit (f k)
              · have h3 : (f k == 45) = true := by simpa [h1, h2] using hb2
                clear hb2
                go_wp2_with (first
                  | (go_at_call 33; refine (zzIsLetter _ _).mono ?_; rintro e w' ⟨rfl, rfl⟩)
                  | (go_at_call 34; refine (zzIsDigit _ _).mono ?_; rintro e w' ⟨rfl, rfl⟩))
                go_round
                case rel => exact ⟨k + 1, by omega, by go_num, by rw [← M.sk_step hlt HB]; exact hr⟩
                case measure => simp [intOf]; omega
              · clear hb2
                go_wp2_with (first
                  | (go_at_call 33; refine (zzIsLetter _ _).mono ?_; rintro e w' ⟨rfl, rfl⟩)
                  | (go_at_call 34; refine (zzIsDigit _ _).mono ?_; rintro e w' ⟨rfl, rfl⟩))
                go_round
                case rel => exact ⟨k + 1, by omega, by go_num, by rw [← M.sk_step hlt HB]; exact hr⟩
                case measure => simp [intOf]; omega
            · clear hb2
              go_wp2_with (first
                | (go_at_call 33; refine (zzIsLetter _ _).mono ?_; rintro e w' ⟨rfl, rfl⟩)
                | (go_at_call 34; refine (zzIsDigit _ _).mono ?_; rintro e w' ⟨rfl, rfl⟩))
              go_round
              case rel => exact ⟨k + 1, by omega, by go_num, by rw [← M.sk_step hlt HB]; exact hr⟩
              case measure => simp [intOf]; omega
          · have hb' : M.nameC (f k) = false := by simpa using hb
            have HB := (show Hid _ from hb')
            have hb2 := hb'
            unfold M.nameC at hb2
            simp only [Bool.or_eq_false_iff] at hb2
            obtain ⟨⟨h1, h2⟩, h3⟩ := hb2
            clear hb hb'
            go_wp2_with (first
              | (go_at_call 33; refine (zzIsLetter _ _).mono ?_; rintro e w' ⟨rfl, rfl⟩)
              | (go_at_call 34; refine (zzIsDigit _ _).mono ?_; rintro e w' ⟨rfl, rfl⟩))
            go_ret
            exact ⟨ret_int (by rw [Hfin.out, ← hr.out, M.sk_stop hlt HB]), rfl⟩
        · go_wp2_with fail
          go_ret
          exact ⟨ret_int (by rw [Hfin.out, ← hr.out, M.sk_ge_end (by omega)]), rfl⟩
  · have hge : (n : Int) ≤ (i : Int) := by omega
    go_enter Try.func25, Try.ntmps25
    go_wp2_with fail
    go_ret
    exact ⟨ret_int (by unfold tagNameEnd; rw [if_neg (by omega)]), rfl⟩

end Go.Proofs.Qxb6605216a.Lv
