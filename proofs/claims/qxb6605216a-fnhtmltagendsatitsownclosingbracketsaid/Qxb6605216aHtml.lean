/-
  Seat b6605216a: the program's own functions: nameSize, attributeValueEnd.
-/
import Derived.Test.Qxb6605216aScans
import Derived.Test.Qxb6605216aModel
import Derived.Test.Qxb6605216aShelf
import Derived.Lib.IndexLaws
import Derived.Outline
namespace Go.Proofs.Qxb6605216a.Lv
open Go.RowKit
set_option linter.unusedVariables false

def alsoC (also : ByteArray) (c : Int) : Bool := M.letter c || M.digit c || decide (0 ≤ Lib.indexByte also.data.toList (UInt8.ofNat c.toNat))

set_option maxHeartbeats 1000000 in
theorem nameSize (b off n c : Nat) (f : Nat → Int) (also : ByteArray) (w : World) (hn : n ≤ 2097152) (ht : Text w b off n f) :
    Calls Try.prog 30 #[.slice (some ⟨b, off, none⟩) n c, .string also] w fun e w' => e = .returned (.int .i64 ((M.sk (alsoC also) f n 0 : Nat) : Int)) ∧ w' = w := by
  go_enter Try.func30, Try.ntmps30
  go_wp2_with fail
  go_loop [5] (fun t => ∃ k : Nat, k ≤ n ∧ t = .int .i64 k ∧ Hid (M.sk (alsoC also) f n k = M.sk (alsoC also) f n 0)) (fun t => n - (intOf t).toNat)
  case atStart => exact ⟨0, by omega, rfl, rfl⟩
  case round =>
    obtain ⟨k, hk, rfl, hr⟩ := hrel
    by_cases hlt : k < n
    · have hc := ht k hlt
      cases hb : alsoC also (f k)
      · have HB := (show Hid _ from hb)
        unfold alsoC at hb
        simp only [Bool.or_eq_false_iff, decide_eq_false_iff_not] at hb
        obtain ⟨⟨h1, h2⟩, h3'⟩ := hb
        have h3 : Lib.indexByte also.data.toList (UInt8.ofNat (f k).toNat) < 0 := by omega
        clear h3'
        go_wp2_with (first
          | (go_at_call 29; refine (isLetter _ _).mono ?_; rintro e w' ⟨rfl, rfl⟩)
          | (go_at_call 38; refine (isDigit _ _).mono ?_; rintro e w' ⟨rfl, rfl⟩)
          | (go_at_call 28; refine (Try.strings_IndexByte _ _ _).mono ?_; rintro e w' ⟨rfl, rfl⟩))

        go_ret
        exact ⟨ret_int (by rw [← hr.out, M.sk_stop hlt HB]), rfl⟩
      · have HB := (show Hid _ from hb)
        have hways : (M.letter (f k) = true) ∨ (M.letter (f k) = false ∧ M.digit (f k) = true) ∨ (M.letter (f k) = false ∧ M.digit (f k) = false ∧ 0 ≤ Lib.indexByte also.data.toList (UInt8.ofNat (f k).toNat)) := by
          unfold alsoC at hb
          cases e1 : M.letter (f k)
          · cases e2 : M.digit (f k)
            · exact Or.inr (Or.inr ⟨rfl, rfl, by simpa [e1, e2] using hb⟩)
            · exact Or.inr (Or.inl ⟨rfl, rfl⟩)
          · exact Or.inl rfl
        clear hb
        rcases hways with h1 | ⟨h1, h2⟩ | ⟨h1, h2, h3⟩
        all_goals
          go_wp2_with (first
            | (go_at_call 29; refine (isLetter _ _).mono ?_; rintro e w' ⟨rfl, rfl⟩)
            | (go_at_call 38; refine (isDigit _ _).mono ?_; rintro e w' ⟨rfl, rfl⟩)
            | (go_at_call 28; refine (Try.strings_IndexByte _ _ _).mono ?_; rintro e w' ⟨rfl, rfl⟩))
          go_round
          case rel => exact ⟨k + 1, by omega, by go_num, by rw [← M.sk_step hlt HB]; exact hr⟩
          case measure => simp [intOf]; omega
    · go_wp2_with fail
      go_ret
      exact ⟨ret_int (by rw [← hr.out, M.sk_ge_end (by omega)]), rfl⟩

end Go.Proofs.Qxb6605216a.Lv
