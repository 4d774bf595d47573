/-
  Seat b6001218a: redact at a text in which no piece of the key stands: the text comes back.
-/
import Derived.Test.Qxb6001218aWindow
import Derived.Test.Qxb6001218aShelf
namespace Go.Proofs.Qxb6001218a.Lv
open Go.RowKit
set_option linter.unusedVariables false

set_option maxHeartbeats 2000000 in
set_option maxRecDepth 100000 in
theorem redact (text key : ByteArray) (m : Int) (w : World) (hs : text.size ≤ 2097152) (hk : key.size ≤ 2097152) (hm : w.cell? ⟨0, 0, none⟩ = some (.int .i64 m)) (hno : NoneIn text key (win key)) :
    Calls Try.prog 12 #[.string text, .string key] w fun e w' => e = .returned (.string text) ∧ w' = w := by
  have hmin : min (12 : Int) (key.size : Int) = ((win key : Nat) : Int) := by unfold win; split <;> omega
  have hwin : win key ≤ key.size := by unfold win; split <;> omega
  generalize win key = n at *
  have hnil := fun w => Lib.run_eql_slice_nil (P := Try.prog) w 26 4 none 0 0 0 0 Try.underlying26
  have HNO : Hid (NoneIn text key n) := hno
  clear hno
  by_cases hn0 : n = 0
  · subst hn0
    go_enter Try.func12, Try.ntmps12
    go_wp2_with fail
    go_ret
    exact ⟨rfl, rfl⟩
  · have hn0' : ((n : Int) == 0) = false := by simp; omega
    have HW : Hid (NoWin text key n (key.size + 1)) := by
      rcases HNO.out with h | h
      · exact absurd h hn0
      · exact h
    go_enter Try.func12, Try.ntmps12
    go_wp2_with fail
    clear hmin
    go_loop [6, 7] (fun h t => h = .slice none 0 0 ∧ ∃ k : Nat, k ≤ key.size + 1 ∧ t = .int .i64 k) (fun _ t => key.size + 1 - (intOf t).toNat)
    case atStart => exact ⟨rfl, 0, by omega, rfl⟩
    case round =>
      obtain ⟨rfl, k, hk2, rfl⟩ := hrel
      by_cases hlt : k + n ≤ key.size
      · have hki : (k : Int) + (n : Int) ≤ (key.size : Int) := by omega
        have hkn : (k : Int) ≤ (k : Int) + (n : Int) := by omega
        have HP : Hid (Lib.index text.data.toList (key.extract k (k + n)).data.toList = -1) := HW.out k (by omega) hlt
        go_wp2_with fail
        go_loop [6, 9] (fun h t => h = .slice none 0 0 ∧ t = .int .i64 0) (fun _ _ => 0)
        case atStart => exact ⟨rfl, rfl⟩
        case round =>
          obtain ⟨rfl, rfl⟩ := hrel
          go_wp2_with fail
          refine (Try.strings_Index text _ m _ (by omega) hm).mono ?_
          rintro e w2 ⟨rfl, hw2⟩
          subst hw2
          rw [HP.out]
          go_wp2_with fail
          go_round
          case rel => exact ⟨rfl, k + 1, by omega, by go_num⟩
          case measure => simp [intOf]; omega
      · have hki : ¬ ((k : Int) + (n : Int) ≤ (key.size : Int)) := by omega
        go_wp2_with fail
        go_ret
        exact ⟨rfl, rfl⟩

end Go.Proofs.Qxb6001218a.Lv
