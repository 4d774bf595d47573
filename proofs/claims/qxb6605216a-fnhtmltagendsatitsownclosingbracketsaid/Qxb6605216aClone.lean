/-
  Seat b6605216a: zzClone and zzJoin (new blocks), zzSameBytes (it only reads, in an order that is drawn).
-/
import Derived.Test.Qxb6605216aScans
import Derived.Deep.OwnRows
import Derived.Deep.QuietTactic
import Derived.BigQuiet
import Derived.WalkLawsBesides
namespace Go.Proofs.Qxb6605216a.Lv
open Go.RowKit
set_option linter.unusedVariables false

theorem info5 : (Try.prog.info? 5).map (fun i => (i.zero, i.size, i.bytes)) = some (some (.int .u8 0), 1, 1) := by kernel_rfl

theorem below_of {B : Nat} {w w' : World} (h : w.Since B w') : Below B w w' := ⟨h.os, h.tape, h.output, h.size, h.block⟩

/-- A text below a new block reads as it did. -/
theorem Text.later {w w' : World} {b off n : Nat} {f : Nat → Int} (h : Text w b off n f) (hb : Below w.heap.size w w') : Text w' b off n f := by
  intro i hi
  have e := h i hi
  have hlt : b < w.heap.size := by
    refine Classical.byContradiction fun hge => ?_
    have hnone : w.heap[b]? = none := Array.getElem?_eq_none (by omega)
    simp [World.cell?, hnone] at e
  rw [hb.cell (p := ⟨b, off + i, none⟩) hlt]
  exact e

/-- The new row, k of its n bytes filled. -/
structure Filled (w wr : World) (n k : Nat) (f : Nat → Int) : Prop where
  since : w.Since w.heap.size wr
  size : wr.heap.size = w.heap.size + 1
  row : wr.rowIs w.heap.size 5 n (fun i => if i < k then .int .u8 (f i) else .int .u8 0)

theorem filled_start (w : World) (n : Nat) (f : Nat → Int) : Filled w (w.alloc (.cells (madeCells #[.int .u8 0] n) 5)) n 0 f :=
  ⟨(World.Since.refl _ _).alloc (Nat.le_refl _) _, by simp, (World.rowIs_made w _ n 5).congr (fun j _ => by simp)⟩

theorem filled_step {w wr : World} {n k : Nat} {f : Nat → Int} (h : Filled w wr n k f) : Filled w (wr.setCell ⟨w.heap.size, k, none⟩ (.int .u8 (f k))) n (k + 1) f := by
  refine ⟨h.since.setCell (Nat.le_refl _) _, by simp [h.size], (h.row.set k _).congr (fun i _ => ?_)⟩
  by_cases e : i = k
  · subst e; simp
  · rw [if_neg e]
    by_cases hlt : i < k
    · rw [if_pos hlt, if_pos (by omega)]
    · rw [if_neg hlt, if_neg (by omega)]

theorem Filled.text {w wr : World} {n : Nat} {f : Nat → Int} (h : Filled w wr n n f) : Text wr w.heap.size 0 n f := by
  intro i hi
  have := h.row.cell hi
  rw [if_pos hi] at this
  simpa using this

set_option maxHeartbeats 1000000 in
theorem zzClone (b off n c : Nat) (f : Nat → Int) (w : World) (hn : n ≤ 2097152) (ht : Text w b off n f) :
    Calls Try.prog 8 #[.slice (some ⟨b, off, none⟩) n c] w fun e w' => e = .returned (.slice (some ⟨w.heap.size, 0, none⟩) n n) ∧ Filled w w' n n f := by
  have hmk := run_make_row' (P := Try.prog) 22 5 (.int .u8 0) 1 Try.underlying22 info5 rfl .i64 .i64 n (by omega) (by omega)
  have hnil := fun w => Lib.run_eql_slice_nil (P := Try.prog) w 22 5 (some ⟨b, off, none⟩) n c 0 0 Try.underlying22
  go_enter Try.func8, Try.ntmps8
  go_wp2
  go_loopw [4] (fun t wr => ∃ k : Nat, k ≤ n ∧ t = .int .i64 k ∧ Hid (Filled w wr n k f)) (fun t _ => n - (intOf t).toNat)
  case atStart => exact ⟨0, by omega, rfl, filled_start w n f⟩
  case round =>
    obtain ⟨k, hk, rfl, hr⟩ := hrel
    by_cases hlt : k < n
    · have hc1 := (ht.later (below_of hr.out.since)) k hlt
      have hc2 := hr.out.row.cell hlt
      rw [if_neg (by omega)] at hc2
      have hf2 := hr.out.row.frozen k
      go_wp2
      go_roundw
      case rel => exact ⟨k + 1, by omega, by go_num, (show Hid _ from filled_step hr.out)⟩
      case measure => simp [intOf]; omega
    · have : k = n := by omega
      subst this
      go_wp2
      go_ret
      exact ⟨rfl, hr.out⟩

end Go.Proofs.Qxb6605216a.Lv
