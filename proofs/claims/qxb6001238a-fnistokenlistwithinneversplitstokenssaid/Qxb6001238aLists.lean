/-
  Seat b6001238a: the law's own functions on a list of strings: the two bounds, the copy, the comparison.
-/
import Derived.Test.Qxb6001238aToken
import Derived.Deep.OwnRows
import Derived.Deep.QuietTactic
import Derived.BigQuiet
namespace Go.Proofs.Qxb6001238a.Lv
open Go.RowKit
set_option linter.unusedVariables false

/-- The n cells from offset o of block b on hold the strings f 0, f 1, .. -/
def Strs (w : World) (b o n : Nat) (f : Nat → ByteArray) : Prop := ∀ i, i < n → w.cell? ⟨b, o + i, none⟩ = some (.string (f i))
/-- A list of strings that may be nil, or empty at whatever place. -/
def OptStrs (w : World) (a : Option Addr) (n : Nat) (f : Nat → ByteArray) : Prop := n = 0 ∨ ∃ b o, a = some ⟨b, o, none⟩ ∧ Strs w b o n f

theorem Strs.later {w w' : World} {b o n : Nat} {f : Nat → ByteArray} (h : Strs w b o n f) (hb : Below w.heap.size w w') : Strs w' b o n f := by
  intro i hi
  have e := h i hi
  have hlt : b < w.heap.size := by
    refine Classical.byContradiction fun hge => ?_
    have hnone : w.heap[b]? = none := Array.getElem?_eq_none (by omega)
    simp [World.cell?, hnone] at e
  rw [hb.cell (p := ⟨b, o + i, none⟩) hlt]
  exact e
theorem OptStrs.later {w w' : World} {a : Option Addr} {n : Nat} {f : Nat → ByteArray} (h : OptStrs w a n f) (hb : Below w.heap.size w w') : OptStrs w' a n f := by
  rcases h with h | ⟨b, o, h, hs⟩
  · exact Or.inl h
  · exact Or.inr ⟨b, o, h, hs.later hb⟩
theorem OptStrs.some {w : World} {a : Option Addr} {n k : Nat} {f : Nat → ByteArray} (h : OptStrs w a n f) (hk : k < n) : ∃ b o, a = .some ⟨b, o, none⟩ ∧ Strs w b o n f := by
  rcases h with h | h
  · omega
  · exact h

/-- The lengths of the first k strings together. -/
def sumTo (f : Nat → ByteArray) : Nat → Nat
  | 0 => 0
  | k + 1 => sumTo f k + (f k).size
theorem sumTo_mono (f : Nat → ByteArray) (k n : Nat) (h : k ≤ n) : sumTo f k ≤ sumTo f n := by
  induction n with
  | zero => have : k = 0 := by omega
            subst this; exact Nat.le_refl _
  | succ n ih =>
    by_cases e : k = n + 1
    · subst e; exact Nat.le_refl _
    · have := ih (by omega); show sumTo f k ≤ sumTo f n + (f n).size; omega
theorem sumTo_at (f : Nat → ByteArray) (k n : Nat) (h : k < n) : sumTo f k + (f k).size ≤ sumTo f n := sumTo_mono f (k + 1) n h

set_option maxHeartbeats 1000000 in
theorem zzBytes (a : Option Addr) (n c : Nat) (x : Int) (f : Nat → ByteArray) (w : World) (hn : n ≤ 9223372036854775807) (hf : ∀ i, (f i).size ≤ 9223372036854775807) (hl : OptStrs w a n f) :
    Calls Try.prog 12 #[.slice a n c, .int .i64 x] w fun e w' => YesPost (n + sumTo f n ≤ 1048576) w e w' := by
  have HL : Hid (OptStrs w a n f) := hl
  clear hl
  by_cases hbig : 1048576 < n
  · go_enter Try.func12, Try.ntmps12
    go_wp2_with fail
    go_ret
    exact ⟨false, rfl, (fun h => by cases h), rfl⟩
  · have hd : decide (1048576 < (n : Int)) = false := by simp; omega
    go_enter Try.func12, Try.ntmps12
    go_wp2_with fail
    go_loop [5, 6] (fun z t => ∃ k s : Nat, k ≤ n ∧ s ≤ 1048576 ∧ z = .int .i64 s ∧ t = .int .i64 k ∧ Hid (s = n + sumTo f k)) (fun _ t => n - (intOf t).toNat)
    case atStart => exact ⟨0, n, by omega, by omega, rfl, rfl, rfl⟩
    case round =>
      obtain ⟨k, s, hk, hs, rfl, rfl, hr⟩ := hrel
      by_cases hlt : k < n
      · obtain ⟨b, o, rfl, hst⟩ := OptStrs.some HL.out hlt
        have hc := hst k hlt
        clear hst
        have hfk := hf k
        by_cases h1 : 1048576 < (f k).size
        · go_wp2_with fail
          go_ret
          exact ⟨false, rfl, (fun h => by cases h), rfl⟩
        · by_cases h2 : 1048576 < s + (f k).size
          · go_wp2_with fail
            go_ret
            exact ⟨false, rfl, (fun h => by cases h), rfl⟩
          · have HN : Hid (s + (f k).size = n + sumTo f (k + 1)) := by
              have e := hr.out
              show s + (f k).size = n + (sumTo f k + (f k).size)
              omega
            go_wp2_with fail
            go_round
            case rel => exact ⟨k + 1, s + (f k).size, by omega, by omega, by go_num, by go_num, HN⟩
            case measure => simp [intOf]; omega
      · have HN : Hid (n + sumTo f n ≤ 1048576) := by
          have e : k = n := by omega
          have e2 := hr.out
          rw [e] at e2
          show n + sumTo f n ≤ 1048576
          omega
        go_wp2_with fail
        go_ret
        exact ⟨true, rfl, (fun _ => HN.out), rfl⟩

set_option maxHeartbeats 1000000 in
theorem listTooBig (a : Option Addr) (n c : Nat) (f : Nat → ByteArray) (w : World) (hn : n ≤ 1048576) (hsum : n + sumTo f n ≤ 1048576) (hl : OptStrs w a n f) :
    Calls Try.prog 13 #[.slice a n c] w fun e w' => YesPost True w e w' := by
  have HL : Hid (OptStrs w a n f) := hl
  clear hl
  by_cases hbig : 65536 < n
  · go_enter Try.func13, Try.ntmps13
    go_wp2_with fail
    go_ret
    exact ⟨true, rfl, (fun _ => trivial), rfl⟩
  · have hd : decide (65536 < (n : Int)) = false := by simp; omega
    go_enter Try.func13, Try.ntmps13
    go_wp2_with fail
    go_loop [3, 4] (fun z t => ∃ k s : Nat, k ≤ n ∧ s ≤ 1048576 ∧ z = .int .i64 s ∧ t = .int .i64 k) (fun _ t => n - (intOf t).toNat)
    case atStart => exact ⟨0, 16 * n, by omega, by omega, by go_num, rfl⟩
    case round =>
      obtain ⟨k, s, hk, hs, rfl, rfl⟩ := hrel
      by_cases hlt : k < n
      · obtain ⟨b, o, rfl, hst⟩ := OptStrs.some HL.out hlt
        have hc := hst k hlt
        clear hst
        have hfk : (f k).size ≤ 1048576 := by have := sumTo_at f k n hlt; omega
        by_cases h2 : 1048576 < s + (f k).size
        · go_wp2_with fail
          go_ret
          exact ⟨true, rfl, (fun _ => trivial), rfl⟩
        · go_wp2_with fail
          go_round
          case rel => exact ⟨k + 1, s + (f k).size, by omega, by omega, by go_num, by go_num⟩
          case measure => simp [intOf]; omega
      · go_wp2_with fail
        go_ret
        exact ⟨false, rfl, (fun _ => trivial), rfl⟩

theorem info9 : (Try.prog.info? 9).map (fun i => (i.zero, i.size, i.bytes)) = some (some (.string ⟨#[]⟩), 1, 16) := by kernel_rfl

theorem below_of {B : Nat} {w w' : World} (h : w.Since B w') : Below B w w' := ⟨h.os, h.tape, h.output, h.size, h.block⟩

/-- The new row, k of its n strings filled. -/
structure Filled (w wr : World) (n k : Nat) (f : Nat → ByteArray) : Prop where
  since : w.Since w.heap.size wr
  size : wr.heap.size = w.heap.size + 1
  row : wr.rowIs w.heap.size 9 n (fun i => if i < k then .string (f i) else .string ⟨#[]⟩)

theorem filled_start (w : World) (n : Nat) (f : Nat → ByteArray) : Filled w (w.alloc (.cells (madeCells #[.string ⟨#[]⟩] n) 9)) n 0 f :=
  ⟨(World.Since.refl _ _).alloc (Nat.le_refl _) _, by simp, (World.rowIs_made w _ n 9).congr (fun j _ => by simp)⟩

theorem filled_step {w wr : World} {n k : Nat} {f : Nat → ByteArray} (h : Filled w wr n k f) : Filled w (wr.setCell ⟨w.heap.size, k, none⟩ (.string (f k))) n (k + 1) f := by
  refine ⟨h.since.setCell (Nat.le_refl _) _, by simp [h.size], (h.row.set k _).congr (fun i _ => ?_)⟩
  by_cases e : i = k
  · subst e; simp
  · rw [if_neg e]
    by_cases hlt : i < k
    · rw [if_pos hlt, if_pos (by omega)]
    · rw [if_neg hlt, if_neg (by omega)]

theorem Filled.strs {w wr : World} {n : Nat} {f : Nat → ByteArray} (h : Filled w wr n n f) : Strs wr w.heap.size 0 n f := by
  intro i hi
  have := h.row.cell hi
  rw [if_pos hi] at this
  simpa using this

/-- What copyLines leaves: the same strings, in a row of the call's own or nowhere. -/
def Copied (w : World) (n : Nat) (f : Nat → ByteArray) (e : Ending) (w' : World) : Prop := ∃ a' c', e = .returned (.slice a' n c') ∧ n ≤ c' ∧ OptStrs w' a' n f ∧ Below w.heap.size w w'

set_option maxHeartbeats 1000000 in
theorem copyLines (a : Option Addr) (n c : Nat) (f : Nat → ByteArray) (w : World) (hn : n ≤ 1048576) (hl : OptStrs w a n f) (h0 : a = none → n = 0) :
    Calls Try.prog 14 #[.slice a n c] w fun e w' => Copied w n f e w' := by
  have HL : Hid (OptStrs w a n f) := hl
  clear hl
  have hmk := run_make_row' (P := Try.prog) 26 9 (.string ⟨#[]⟩) 16 Try.underlying26 info9 rfl .i64 .i64 n (by omega) (by omega)
  have hnil := fun w => Lib.run_eql_slice_nil (P := Try.prog) w 26 9 a n c 0 0 Try.underlying26
  cases a with
  | none =>
    have hn0 := h0 rfl
    subst hn0
    clear hmk
    go_enter Try.func14, Try.ntmps14
    go_wp2
    go_ret
    exact ⟨none, 0, rfl, Nat.le_refl _, Or.inl rfl, Below.refl _ _⟩
  | some x =>
    go_enter Try.func14, Try.ntmps14
    go_wp2
    go_loopw [4] (fun t wr => ∃ k : Nat, k ≤ n ∧ t = .int .i64 k ∧ Hid (Filled w wr n k f)) (fun t _ => n - (intOf t).toNat)
    case atStart => exact ⟨0, by omega, rfl, filled_start w n f⟩
    case round =>
      obtain ⟨k, hk, rfl, hr⟩ := hrel
      by_cases hlt : k < n
      · obtain ⟨b, o, hx, hst⟩ := OptStrs.some HL.out hlt
        injection hx with hx
        subst hx
        have hc1 := (hst.later (below_of hr.out.since)) k hlt
        have hc2 := hr.out.row.cell hlt
        rw [if_neg (by omega)] at hc2
        have hf2 := hr.out.row.frozen k
        clear hst
        go_wp2
        go_roundw
        case rel => exact ⟨k + 1, by omega, by go_num, (show Hid _ from filled_step hr.out)⟩
        case measure => simp [intOf]; omega
      · have : k = n := by omega
        subst this
        go_wp2
        go_ret
        exact ⟨_, _, rfl, Nat.le_refl _, Or.inr ⟨_, _, rfl, hr.out.strs⟩, below_of hr.out.since⟩

set_option maxHeartbeats 1000000 in
theorem sameStrings (a1 a2 : Option Addr) (n c1 c2 : Nat) (f : Nat → ByteArray) (w : World) (hn : n ≤ 1048576) (h1 : OptStrs w a1 n f) (h2 : OptStrs w a2 n f) :
    Calls Try.prog 16 #[.slice a1 n c1, .slice a2 n c2] w fun e w' => e = .returned (.bool true) ∧ ∃ q, w' = w.drewN q := by
  have H1 : Hid (OptStrs w a1 n f) := h1
  have H2 : Hid (OptStrs w a2 n f) := h2
  clear h1 h2
  go_enter Try.func16, Try.ntmps16
  go_wp2
  go_loopw [5] (fun t wr => ∃ k : Nat, k ≤ n ∧ t = .int .i64 k ∧ Hid (∃ q, wr = w.drewN q)) (fun t _ => n - (intOf t).toNat)
  case atStart => exact ⟨0, by omega, rfl, ⟨0, rfl⟩⟩
  case round =>
    obtain ⟨k, hk, rfl, hr⟩ := hrel
    obtain ⟨q, rfl⟩ := hr
    by_cases hlt : k < n
    · obtain ⟨b1, o1, rfl, hs1⟩ := OptStrs.some H1.out hlt
      obtain ⟨b2, o2, rfl, hs2⟩ := OptStrs.some H2.out hlt
      have hc1 := hs1 k hlt
      have hc2 := hs2 k hlt
      have hki : (k : Int) < (n : Int) := by omega
      have hk0 : (0 : Int) ≤ (k : Int) := by omega
      clear hs1 hs2
      go_wp2
      go_quiet (fail)
      go_wp2
      go_roundw
      case rel => exact ⟨k + 1, by omega, by go_num, ⟨_, rfl⟩⟩
      case measure => simp [intOf]; omega
    · go_wp2
      go_ret
      exact ⟨rfl, _, rfl⟩

end Go.Proofs.Qxb6001238a.Lv
