/-
  Seat b6001116a: the small functions on strings: each computes a plain function on the list of bytes.
-/
import Derived.Test.Qxb6001116aProg
import Derived.WalkKit
import Derived.LoopTactic
import Derived.WalkLawsBesides
import Derived.Lib.ConvBytes
import Derived.Lib.Strings
import Derived.Test.Qxb6001116aMath
namespace Go.Proofs.Qxb6001116a.Lv
open Go.RowKit
set_option linter.unusedVariables false

theorem ret_bool {a b : Bool} (h : a = b) : Ending.returned (.bool a) = .returned (.bool b) := by rw [h]
theorem ret_int {k : IntKind} {a b : Int} (h : a = b) : Ending.returned (.int k a) = .returned (.int k b) := by rw [h]

theorem drop_cons (s : ByteArray) (k : Nat) (h : k < s.size) : s.data.toList.drop k = s[k] :: s.data.toList.drop (k + 1) := by
  have h' : k < s.data.toList.length := by rw [← Lib.size_eq]; exact h
  rw [List.drop_eq_getElem_cons h']
  rfl
theorem drop_end (s : ByteArray) (k : Nat) (h : s.size ≤ k) : s.data.toList.drop k = [] := by
  rw [List.drop_eq_nil_iff, ← Lib.size_eq]; exact h

theorem eq_byte {c : UInt8} (n : Nat) (hn : n < 256) : ((c.toNat : Int) == (n : Int)) = (c == UInt8.ofNat n) := by
  rw [Bool.eq_iff_iff]
  simp only [beq_iff_eq]
  constructor
  · intro h
    have h2 : c.toNat = n := by omega
    rw [← h2]; simp
  · intro h
    rw [h]; simp; omega

theorem zzIsDigit (c : UInt8) (w : World) : Calls Try.prog 29 #[.int .u8 (c.toNat : Int)] w fun e w' => e = .returned (.bool (M.dig c)) ∧ w' = w := by
  go_enter Try.func29, Try.ntmps29
  go_wp2
  all_goals
    go_ret
    exact ⟨ret_bool (by rw [Bool.eq_iff_iff]; simp [M.dig]; try omega), rfl⟩

set_option maxHeartbeats 400000 in
theorem zzHasComma (s : ByteArray) (w : World) (hs : s.size ≤ 2097152) :
    Calls Try.prog 10 #[.string s] w fun e w' => e = .returned (.bool (M.hasComma s.data.toList)) ∧ w' = w := by
  go_enter Try.func10, Try.ntmps10
  go_wp2
  go_loop [3] (fun t => ∃ k : Nat, k ≤ s.size ∧ t = .int .i64 k ∧ Hid (M.hasComma (s.data.toList.drop k) = M.hasComma s.data.toList)) (fun t => s.size - (intOf t).toNat)
  case atStart => exact ⟨0, by omega, rfl, rfl⟩
  case round =>
    obtain ⟨k, hk, rfl, hr⟩ := hrel
    by_cases hlt : k < s.size
    · have HD := (show Hid _ from drop_cons s k hlt)
      by_cases hc : s[k] = 44
      · have hc' : ((s[k].toNat : Int) == 44) = true := by rw [hc]; rfl
        have HC := (show Hid _ from hc)
        clear hc
        go_wp2
        go_ret
        exact ⟨ret_bool (by rw [← hr.out, HD.out, HC.out]; rfl), rfl⟩
      · have hc' : ((s[k].toNat : Int) == 44) = false := by
          rw [show (44 : Int) = ((44 : Nat) : Int) from rfl, eq_byte 44 (by omega)]; simpa using hc
        have HC := (show Hid _ from hc)
        clear hc
        go_wp2
        go_round
        case rel =>
          refine ⟨k + 1, by omega, by go_num, ?_⟩
          have e := hr.out
          rw [HD.out] at e
          have h44 : (s[k] == 44) = false := by simpa using HC.out
          show M.hasComma (s.data.toList.drop (k + 1)) = M.hasComma s.data.toList
          rw [← e]
          simp [M.hasComma, h44]
        case measure => simp [intOf]; omega
    · go_wp2
      go_ret
      exact ⟨ret_bool (by rw [← hr.out, drop_end s k (by omega)]; rfl), rfl⟩

theorem bytes_below (w : World) (s : ByteArray) : Below w.heap.size w (Lib.bytesWorld w 5 s) := by
  refine ⟨?_, ?_, ?_, by rw [Lib.bytesWorld_size]; omega, fun k hk => Lib.bytesWorld_at_old w 5 s k hk⟩
  · unfold Lib.bytesWorld World.freeze; split <;> rfl
  · unfold Lib.bytesWorld World.freeze; split <;> rfl
  · unfold Lib.bytesWorld World.freeze; split <;> rfl

theorem bytes_cell (w : World) (s : ByteArray) (k : Nat) (h : k < s.size) : (Lib.bytesWorld w 5 s).cell? ⟨w.heap.size, k, none⟩ = some (.int .u8 (s[k].toNat : Int)) := by
  rw [Lib.bytesWorld_cell w 5 s k h]
  have h' : k < s.data.toList.length := by rw [← Lib.size_eq]; exact h
  have e : s.data.toList.getD k 0 = s[k] := by
    rw [List.getD_eq_getElem?_getD, List.getElem?_eq_getElem h']; rfl
  rw [e]

theorem empty_iff (s : ByteArray) : s.toList.isEmpty = s.data.toList.isEmpty := by rw [Lib.toList_data]
theorem size_of_empty {s : ByteArray} (h : s.data.toList.isEmpty = true) : s.size = 0 := by
  rw [Lib.size_eq, List.length_eq_zero_iff]; exact List.isEmpty_iff.1 h

set_option maxHeartbeats 400000 in
theorem isDigits (s : ByteArray) (w : World) (hs : s.size ≤ 2097152) :
    Calls Try.prog 30 #[.string s] w fun e w' => e = .returned (.bool (M.isDig s.data.toList)) ∧ Below w.heap.size w w' := by
  have hcv := fun w s => Lib.run_convert_string_bytes (P := Try.prog) w 9 30 5 s Try.underlying9 Try.underlying30 Try.underlying5
  cases hemp : s.toList.isEmpty
  · have HE := (show Hid _ from hemp)
    go_enter Try.func30, Try.ntmps30
    go_wp2
    go_loop [10] (fun t => ∃ k : Nat, k ≤ s.size ∧ t = .int .i64 k ∧ Hid ((s.data.toList.drop k).all M.dig = s.data.toList.all M.dig)) (fun t => s.size - (intOf t).toNat)
    case atStart => exact ⟨0, by omega, rfl, rfl⟩
    case round =>
      obtain ⟨k, hk, rfl, hr⟩ := hrel
      by_cases hlt : k < s.size
      · have HD := (show Hid _ from drop_cons s k hlt)
        have hcell := bytes_cell w s k hlt
        have hways : ((s[k].toNat : Int) < 48 ∧ Hid (M.dig s[k] = false)) ∨ (¬ (s[k].toNat : Int) < 48 ∧ 57 < (s[k].toNat : Int) ∧ Hid (M.dig s[k] = false)) ∨ (¬ (s[k].toNat : Int) < 48 ∧ ¬ 57 < (s[k].toNat : Int) ∧ Hid (M.dig s[k] = true)) := by
          by_cases h1 : (s[k].toNat : Int) < 48
          · exact Or.inl ⟨h1, by show M.dig s[k] = false; simp [M.dig]; omega⟩
          · by_cases h2 : 57 < (s[k].toNat : Int)
            · exact Or.inr (Or.inl ⟨h1, h2, by show M.dig s[k] = false; simp [M.dig]; omega⟩)
            · exact Or.inr (Or.inr ⟨h1, h2, by show M.dig s[k] = true; simp [M.dig]; omega⟩)
        rcases hways with ⟨h1, HG⟩ | ⟨h1, h2, HG⟩ | ⟨h1, h2, HG⟩
        · go_wp2
          go_ret
          exact ⟨ret_bool (by unfold M.isDig; rw [← hr.out, HD.out, List.all_cons, HG.out]; simp), bytes_below _ _⟩
        · go_wp2
          go_ret
          exact ⟨ret_bool (by unfold M.isDig; rw [← hr.out, HD.out, List.all_cons, HG.out]; simp), bytes_below _ _⟩
        · go_wp2
          go_round
          case rel =>
            refine ⟨k + 1, by omega, by go_num, ?_⟩
            have e := hr.out
            rw [HD.out, List.all_cons, HG.out, Bool.true_and] at e
            exact e
          case measure => simp [intOf]; omega
      · go_wp2
        go_ret
        exact ⟨ret_bool (by unfold M.isDig; rw [← hr.out, drop_end s k (by omega), ← empty_iff, HE.out]; rfl), bytes_below _ _⟩
  · have HE := (show Hid _ from hemp)
    go_enter Try.func30, Try.ntmps30
    go_wp2
    go_ret
    exact ⟨ret_bool (by unfold M.isDig; rw [← empty_iff, HE.out]; rfl), Below.refl _ _⟩

/-- zzDotAt: the first '.', or the length. -/
theorem dotAt_hit {s : ByteArray} {k : Nat} (hr : M.dotAt s.data.toList = k + M.dotAt (s.data.toList.drop k)) (h : k < s.size) (hc : s[k] = 46) : M.dotAt s.data.toList = k := by
  rw [hr, drop_cons s k h, hc]; rfl
theorem dotAt_miss {s : ByteArray} {k : Nat} (hr : M.dotAt s.data.toList = k + M.dotAt (s.data.toList.drop k)) (h : k < s.size) (hc : ¬ s[k] = 46) : M.dotAt s.data.toList = (k + 1) + M.dotAt (s.data.toList.drop (k + 1)) := by
  rw [hr, drop_cons s k h]; simp [M.dotAt, M.whole, hc]; omega

set_option maxHeartbeats 400000 in
theorem zzDotAt (s : ByteArray) (w : World) (hs : s.size ≤ 2097152) :
    Calls Try.prog 15 #[.string s] w fun e w' => e = .returned (.int .i64 ((M.dotAt s.data.toList : Nat) : Int)) ∧ w' = w := by
  go_enter Try.func15, Try.ntmps15
  go_wp2
  go_loop [3] (fun t => ∃ k : Nat, k ≤ s.size ∧ t = .int .i64 k ∧ Hid (M.dotAt s.data.toList = k + M.dotAt (s.data.toList.drop k))) (fun t => s.size - (intOf t).toNat)
  case atStart => exact ⟨0, by omega, rfl, (show _ = _ by simp)⟩
  case round =>
    obtain ⟨k, hk, rfl, hr⟩ := hrel
    by_cases hlt : k < s.size
    · by_cases hc : s[k] = 46
      · have hc' : ((s[k].toNat : Int) == 46) = true := by rw [hc]; rfl
        have HZ := (show Hid _ from dotAt_hit hr.out hlt hc)
        clear hc
        go_wp2
        go_ret
        exact ⟨ret_int (by rw [HZ.out]), rfl⟩
      · have hc' : ((s[k].toNat : Int) == 46) = false := by
          rw [show (46 : Int) = ((46 : Nat) : Int) from rfl, eq_byte 46 (by omega)]; simpa using hc
        have HZ := (show Hid _ from dotAt_miss hr.out hlt hc)
        clear hc
        go_wp2
        go_round
        case rel => exact ⟨k + 1, by omega, by go_num, HZ⟩
        case measure => simp [intOf]; omega
    · have HZ : Hid (M.dotAt s.data.toList = s.size) := by
        have e := hr.out
        rw [drop_end s k (by omega)] at e
        show M.dotAt s.data.toList = s.size
        rw [e]
        show k + 0 = s.size
        omega
      go_wp2
      go_ret
      exact ⟨ret_int (by rw [HZ.out]), rfl⟩

end Go.Proofs.Qxb6001116a.Lv
