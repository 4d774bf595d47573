/-
  Seat b6605216a: zzJoin; zzClone at whatever slice.
-/
import Derived.Test.Qxb6605216aClone
namespace Go.Proofs.Qxb6605216a.Lv
open Go.RowKit
set_option linter.unusedVariables false

/-- A slice that may be nil, or empty at whatever place. -/
def OptText (w : World) (a : Option Addr) (n : Nat) (g : Nat → Int) : Prop := n = 0 ∨ ∃ b o, a = some ⟨b, o, none⟩ ∧ Text w b o n g

theorem OptText.later {w w' : World} {a : Option Addr} {n : Nat} {g : Nat → Int} (h : OptText w a n g) (hb : Below w.heap.size w w') : OptText w' a n g := by
  rcases h with h | ⟨b, o, h, ht⟩
  · exact Or.inl h
  · exact Or.inr ⟨b, o, h, ht.later hb⟩

def Cloned (w : World) (n : Nat) (g : Nat → Int) (e : Ending) (w' : World) : Prop := ∃ a' c', e = .returned (.slice a' n c') ∧ OptText w' a' n g ∧ Below w.heap.size w w'

theorem zzClone_opt (a : Option Addr) (n c : Nat) (g : Nat → Int) (w : World) (hn : n ≤ 2097152) (h : OptText w a n g) :
    Calls Try.prog 8 #[.slice a n c] w fun e w' => Cloned w n g e w' := by
  rcases h with rfl | ⟨b, o, rfl, ht⟩
  · have hnil := fun w => Lib.run_eql_slice_nil (P := Try.prog) w 22 5 a 0 c 0 0 Try.underlying22
    cases a with
    | none =>
      go_enter Try.func8, Try.ntmps8
      go_wp2
      go_ret
      exact ⟨none, 0, rfl, Or.inl rfl, Below.refl _ _⟩
    | some x =>
      have hmk : ∀ w : World, (Instr.makeSlice 22 (.int .i64 0) (.int .i64 0)).run Try.prog w = .ok (.slice (some ⟨w.heap.size, 0, none⟩) 0 0) (w.alloc (.cells (madeCells #[.int .u8 0] 0) 5)) := run_make_row' (P := Try.prog) 22 5 (.int .u8 0) 1 Try.underlying22 info5 rfl .i64 .i64 0 (by omega) (by omega)
      go_enter Try.func8, Try.ntmps8
      go_wp2
      go_loopw [4] (fun t wr => t = .int .i64 0 ∧ Hid (Below w.heap.size w wr)) (fun t _ => (intOf t).toNat)
      case atStart => exact ⟨rfl, (Below.refl _ _).alloc (Nat.le_refl _) _⟩
      case round =>
        obtain ⟨rfl, hr⟩ := hrel
        go_wp2
        go_ret
        exact ⟨_, _, rfl, Or.inl rfl, hr.out⟩
  · refine (zzClone b o n c g w hn ht).mono ?_
    rintro e w' ⟨rfl, hf⟩
    exact ⟨_, _, rfl, Or.inr ⟨_, _, rfl, hf.text⟩, below_of hf.since⟩

theorem filled_at {w wr : World} {n k : Nat} {f : Nat → Int} (h : Filled w wr n k f) (v : Int) (hv : v = f k) : Filled w (wr.setCell ⟨w.heap.size, k, none⟩ (.int .u8 v)) n (k + 1) f := by
  rw [hv]; exact filled_step h

/-- First f's n1 bytes, then g's. -/
def joined (n1 : Nat) (f g : Nat → Int) : Nat → Int := fun i => if i < n1 then f i else g (i - n1)

set_option maxHeartbeats 1000000 in
theorem zzJoin (b1 o1 n1 c1 : Nat) (a2 : Option Addr) (n2 c2 : Nat) (f g : Nat → Int) (w : World) (hn1 : n1 ≤ 1048576) (hn2 : n2 ≤ 1048576) (h1 : Text w b1 o1 n1 f) (h2 : OptText w a2 n2 g) :
    Calls Try.prog 12 #[.slice (some ⟨b1, o1, none⟩) n1 c1, .slice a2 n2 c2] w fun e w' => e = .returned (.slice (some ⟨w.heap.size, 0, none⟩) (n1 + n2) (n1 + n2)) ∧ Filled w w' (n1 + n2) (n1 + n2) (joined n1 f g) := by
  have hmk := run_make_row' (P := Try.prog) 22 5 (.int .u8 0) 1 Try.underlying22 info5 rfl .i64 .i64 (n1 + n2) (by omega) (by omega)
  rw [Int.natCast_add] at hmk
  have H2 := (show Hid _ from h2)
  clear h2
  go_enter Try.func12, Try.ntmps12
  go_wp2
  go_loopw [6] (fun t wr => ∃ k : Nat, k ≤ n1 ∧ t = .int .i64 k ∧ Hid (Filled w wr (n1 + n2) k (joined n1 f g))) (fun t _ => n1 - (intOf t).toNat)
  case atStart => exact ⟨0, by omega, rfl, filled_start w (n1 + n2) _⟩
  case round =>
    obtain ⟨k, hk, rfl, hr⟩ := hrel
    by_cases hlt : k < n1
    · have hc1 := (h1.later (below_of hr.out.since)) k hlt
      have hc2 := hr.out.row.cell (i := k) (by omega)
      rw [if_neg (by omega)] at hc2
      have hf2 := hr.out.row.frozen k
      have HV : Hid (f k = joined n1 f g k) := by show f k = joined n1 f g k; unfold joined; rw [if_pos hlt]
      go_wp2
      go_roundw
      case rel => exact ⟨k + 1, by omega, by go_num, (show Hid _ from filled_at hr.out _ HV.out)⟩
      case measure => simp [intOf]; omega
    · have hkn : k = n1 := by omega
      subst hkn
      go_wp2
      go_loopw [7] (fun t wr => ∃ q : Nat, q ≤ n2 ∧ t = .int .i64 q ∧ Hid (Filled w wr (k + n2) (k + q) (joined k f g))) (fun t _ => n2 - (intOf t).toNat)
      case atStart => exact ⟨0, by omega, rfl, hr⟩
      case round =>
        obtain ⟨q, hq, rfl, hr2⟩ := hrel
        by_cases hlt2 : q < n2
        · obtain ⟨b2, o2, rfl, ht2⟩ : ∃ b o, a2 = some ⟨b, o, none⟩ ∧ Text w b o n2 g := by
            rcases H2.out with h | h
            · omega
            · exact h
          have hc1 := (ht2.later (below_of hr2.out.since)) q hlt2
          have hc2 := hr2.out.row.cell (i := k + q) (by omega)
          rw [if_neg (by omega)] at hc2
          have hf2 := hr2.out.row.frozen (k + q)
          have HV : Hid (g q = joined k f g (k + q)) := by show g q = joined k f g (k + q); unfold joined; rw [if_neg (by omega), show k + q - k = q from by omega]
          clear ht2
          go_wp2
          go_roundw
          case rel => exact ⟨q + 1, by omega, by go_num, (show Hid _ from filled_at hr2.out _ HV.out)⟩
          case measure => simp [intOf]; omega
        · have hqn : q = n2 := by omega
          subst hqn
          go_wp2
          go_ret
          exact ⟨rfl, hr2.out⟩

end Go.Proofs.Qxb6605216a.Lv
