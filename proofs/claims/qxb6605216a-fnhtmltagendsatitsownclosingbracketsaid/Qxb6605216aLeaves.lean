/-
  Seat b6605216a: the small functions on a byte: each computes a plain function; the world stands.
-/
import Derived.Test.Qxb6605216aProg
import Derived.WalkKit
import Derived.Test.Qxb6605216aMath
namespace Go.Proofs.Qxb6605216a.Lv
open Go.RowKit
set_option linter.unusedVariables false

theorem ret_bool {a b : Bool} (h : a = b) : Ending.returned (.bool a) = .returned (.bool b) := by rw [h]

theorem isLetter (c : Int) (w : World) : Calls Try.prog 29 #[.int .u8 c] w fun e w' => e = .returned (.bool (M.letter c)) ∧ w' = w := by
  go_enter Try.func29, Try.ntmps29
  go_wp2
  all_goals
    go_ret
    exact ⟨ret_bool (by rw [Bool.eq_iff_iff]; simp [M.letter]; try omega), rfl⟩

theorem zzIsLetter (c : Int) (w : World) : Calls Try.prog 33 #[.int .u8 c] w fun e w' => e = .returned (.bool (M.letter c)) ∧ w' = w := by
  go_enter Try.func33, Try.ntmps33
  go_wp2
  all_goals
    go_ret
    exact ⟨ret_bool (by rw [Bool.eq_iff_iff]; simp [M.letter]; try omega), rfl⟩

theorem isDigit (c : Int) (w : World) : Calls Try.prog 38 #[.int .u8 c] w fun e w' => e = .returned (.bool (M.digit c)) ∧ w' = w := by
  go_enter Try.func38, Try.ntmps38
  go_wp2
  all_goals
    go_ret
    exact ⟨ret_bool (by rw [Bool.eq_iff_iff]; simp [M.digit]; try omega), rfl⟩

theorem zzIsDigit (c : Int) (w : World) : Calls Try.prog 34 #[.int .u8 c] w fun e w' => e = .returned (.bool (M.digit c)) ∧ w' = w := by
  go_enter Try.func34, Try.ntmps34
  go_wp2
  all_goals
    go_ret
    exact ⟨ret_bool (by rw [Bool.eq_iff_iff]; simp [M.digit]; try omega), rfl⟩

theorem isSpaceOrTab (c : Int) (w : World) : Calls Try.prog 39 #[.int .u8 c] w fun e w' => e = .returned (.bool (M.blank c)) ∧ w' = w := by
  go_enter Try.func39, Try.ntmps39
  go_wp2
  all_goals
    go_ret
    exact ⟨ret_bool (by rw [Bool.eq_iff_iff]; simp_all [M.blank]; try omega), rfl⟩

theorem zzIsBlank (c : Int) (w : World) : Calls Try.prog 21 #[.int .u8 c] w fun e w' => e = .returned (.bool (M.blank c)) ∧ w' = w := by
  go_enter Try.func21, Try.ntmps21
  go_wp2
  all_goals
    go_ret
    exact ⟨ret_bool (by rw [Bool.eq_iff_iff]; simp_all [M.blank]; try omega), rfl⟩

theorem zzUnquotedByte (c : Int) (w : World) : Calls Try.prog 41 #[.int .u8 c] w fun e w' => e = .returned (.bool (M.unq c)) ∧ w' = w := by
  go_enter Try.func41, Try.ntmps41
  go_wp2
  all_goals
    go_ret
    exact ⟨ret_bool (by rw [Bool.eq_iff_iff]; simp_all [M.unq]; try omega), rfl⟩

theorem zzAttrNameByte (c : Int) (w : World) : Calls Try.prog 35 #[.int .u8 c] w fun e w' => e = .returned (.bool (M.attrC c)) ∧ w' = w := by
  go_enter Try.func35, Try.ntmps35
  go_wp2_with (first
    | (go_at_call 33; refine (zzIsLetter _ _).mono ?_; rintro e w' ⟨rfl, rfl⟩)
    | (go_at_call 34; refine (zzIsDigit _ _).mono ?_; rintro e w' ⟨rfl, rfl⟩))
  all_goals
    go_ret
    exact ⟨ret_bool (by rw [Bool.eq_iff_iff]; simp_all [M.attrC]; try omega), rfl⟩

end Go.Proofs.Qxb6605216a.Lv
