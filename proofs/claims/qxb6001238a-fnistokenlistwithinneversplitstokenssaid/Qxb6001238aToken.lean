/-
  Seat b6001238a: isTokenChar, IsToken: a token holds no comma.
-/
import Derived.Test.Qxb6001238aShelf
import Derived.WalkKit
import Derived.LoopTactic
import Derived.WalkLawsBesides
import Derived.Lib.Strings
namespace Go.Proofs.Qxb6001238a.Lv
open Go.RowKit
set_option linter.unusedVariables false

theorem ret_bool {a b : Bool} (h : a = b) : Ending.returned (.bool a) = .returned (.bool b) := by rw [h]

/-- What isTokenChar says. -/
def tok (c : UInt8) : Bool := (decide (97 ≤ c.toNat) && decide (c.toNat ≤ 122)) || (decide (65 ≤ c.toNat) && decide (c.toNat ≤ 90)) || (decide (48 ≤ c.toNat) && decide (c.toNat ≤ 57)) || decide (0 ≤ Lib.indexByte [33, 35, 36, 37, 38, 39, 42, 43, 45, 46, 94, 95, 96, 124, 126] c)

theorem tok_44 : tok 44 = false := by decide +kernel

theorem isTokenChar (c : UInt8) (w : World) : Calls Try.prog 22 #[.int .u8 (c.toNat : Int)] w fun e w' => e = .returned (.bool (tok c)) ∧ w' = w := by
  have hcc : UInt8.ofNat c.toNat = c := by simp
  go_enter Try.func22, Try.ntmps22
  go_wp2_with (go_at_call 24; refine (Try.strings_IndexByte _ _ _).mono ?_; rintro e w' ⟨rfl, rfl⟩)
  all_goals
    go_ret
    refine ⟨ret_bool ?_, rfl⟩
    rw [Bool.eq_iff_iff]
    simp [tok]
    try omega

/-- No byte of the string is a comma. -/
def NoComma (s : ByteArray) : Prop := ∀ i (h : i < s.size), s[i] ≠ 44

/-- A yes says: no comma; the world is as it was. -/
def YesPost (P : Prop) (w : World) (e : Ending) (w' : World) : Prop := ∃ B : Bool, e = .returned (.bool B) ∧ (B = true → P) ∧ w' = w

set_option maxHeartbeats 400000 in
theorem IsToken (s : ByteArray) (w : World) (hs : s.size ≤ 2097152) :
    Calls Try.prog 9 #[.string s] w fun e w' => YesPost (NoComma s) w e w' := by
  go_enter Try.func9, Try.ntmps9
  go_wp2_with fail
  go_loop [3] (fun t => ∃ k : Nat, k ≤ s.size ∧ t = .int .i64 k ∧ Hid (∀ i (h : i < s.size), i < k → s[i] ≠ 44)) (fun t => s.size - (intOf t).toNat)
  case atStart => exact ⟨0, by omega, rfl, fun i _ h => absurd h (Nat.not_lt_zero _)⟩
  case round =>
    obtain ⟨k, hk, rfl, hr⟩ := hrel
    by_cases hlt : k < s.size
    · cases ht : tok s[k]
      · go_wp2_with (go_at_call 22; refine (isTokenChar _ _).mono ?_; rintro e w' ⟨rfl, rfl⟩)
        go_ret
        exact ⟨false, rfl, (fun h => by cases h), rfl⟩
      · have HN : Hid (∀ i (h : i < s.size), i < k + 1 → s[i] ≠ 44) := by
          intro i h hi
          by_cases e : i = k
          · subst e
            intro e2
            rw [e2, tok_44] at ht
            cases ht
          · exact hr.out i h (by omega)
        go_wp2_with (go_at_call 22; refine (isTokenChar _ _).mono ?_; rintro e w' ⟨rfl, rfl⟩)
        go_round
        case rel => exact ⟨k + 1, by omega, by go_num, HN⟩
        case measure => simp [intOf]; omega
    · have HN : Hid (NoComma s) := fun i h => hr.out i h (by omega)
      go_wp2_with fail
      go_ret
      exact ⟨_, rfl, (fun _ => HN.out), rfl⟩

end Go.Proofs.Qxb6001238a.Lv
