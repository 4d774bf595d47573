/-
  Seat b6605216a: zzSameBytes at two slices of the same bytes: true.
-/
import Derived.Test.Qxb6605216aClone
namespace Go.Proofs.Qxb6605216a.Lv
open Go.RowKit
set_option linter.unusedVariables false

theorem Text.drewN {w : World} {b off n : Nat} {f : Nat → Int} (h : Text w b off n f) (q : Nat) : Text (w.drewN q) b off n f := by
  intro i hi
  have := h i hi
  simpa using this

set_option maxHeartbeats 1000000 in
theorem zzSameBytes (b1 o1 c1 b2 o2 c2 n : Nat) (f : Nat → Int) (w : World) (hn : n ≤ 2097152) (h1 : Text w b1 o1 n f) (h2 : Text w b2 o2 n f) :
    Calls Try.prog 18 #[.slice (some ⟨b1, o1, none⟩) n c1, .slice (some ⟨b2, o2, none⟩) n c2] w fun e w' => e = .returned (.bool true) ∧ ∃ q, w' = w.drewN q := by
  go_enter Try.func18, Try.ntmps18
  go_wp2
  go_loopw [5] (fun t wr => ∃ k : Nat, k ≤ n ∧ t = .int .i64 k ∧ Hid (∃ q, wr = w.drewN q)) (fun t _ => n - (intOf t).toNat)
  case atStart => exact ⟨0, by omega, rfl, ⟨0, rfl⟩⟩
  case round =>
    obtain ⟨k, hk, rfl, hr⟩ := hrel
    obtain ⟨q, rfl⟩ := hr
    by_cases hlt : k < n
    · have hc1 := h1 k hlt
      have hc2 := h2 k hlt
      have hki : (k : Int) < (n : Int) := by omega
      have hk0 : (0 : Int) ≤ (k : Int) := by omega
      go_wp2
      go_quiet (fail)
      go_wp2
      go_roundw
      case rel => exact ⟨k + 1, by omega, by go_num, ⟨_, rfl⟩⟩
      case measure => simp [intOf]; omega
    · go_wp2
      go_ret
      exact ⟨rfl, _, rfl⟩

end Go.Proofs.Qxb6605216a.Lv
