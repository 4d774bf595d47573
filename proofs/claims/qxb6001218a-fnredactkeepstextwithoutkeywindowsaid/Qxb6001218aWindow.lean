/-
  Seat b6001218a: the law's own search for a piece of the key: zzHasAt, zzContains, zzKeyWindow, zzSomeKeyWindowIn.
-/
import Derived.Test.Qxb6001218aProg
import Derived.WalkKit
import Derived.LoopTactic
import Derived.WalkLawsBesides
import Derived.Deep.QuietTactic
import Derived.BigQuiet
import Derived.Lib.Strings
import Derived.Lib.IndexLaws
namespace Go.Proofs.Qxb6001218a.Lv
open Go.RowKit
set_option linter.unusedVariables false

theorem occ_false {s p : ByteArray} {i k : Nat} (hk : k < p.size) (hik : i + k < s.size) (hne : ¬ s[i + k] = p[k]) : Lib.occAt s.data.toList p.data.toList i = false := by
  cases h : Lib.occAt s.data.toList p.data.toList i with
  | false => rfl
  | true =>
    exfalso
    unfold Lib.occAt at h
    have hp := List.isPrefixOf_iff_prefix.1 h
    have hk' : k < p.data.toList.length := by rw [← Lib.size_eq]; exact hk
    have hik' : i + k < s.data.toList.length := by rw [← Lib.size_eq]; exact hik
    have e := List.IsPrefix.getElem hp hk'
    rw [List.getElem_drop] at e
    apply hne
    exact e.symm

/-- The answer says no only where it is no; the world is as it was but for the draws. -/
def NoPost (P : Prop) (w : World) (e : Ending) (w' : World) : Prop := ∃ (B : Bool) (q : Nat), e = .returned (.bool B) ∧ (B = false → P) ∧ w' = w.drewN q

set_option maxHeartbeats 1000000 in
theorem zzHasAt (s p : ByteArray) (x : Int) (w : World) (hs : s.size ≤ 2097152) (h0 : 0 ≤ x) (hx : x + p.size ≤ s.size) :
    Calls Try.prog 19 #[.string s, .int .i64 x, .string p] w fun e w' => NoPost (Lib.occAt s.data.toList p.data.toList x.toNat = false) w e w' := by
  obtain ⟨i, rfl⟩ := Int.eq_ofNat_of_zero_le h0
  rw [Int.toNat_natCast]
  go_enter Try.func19, Try.ntmps19
  go_wp2
  go_loopw [7] (fun t wr => ∃ k : Nat, k ≤ p.size ∧ t = .int .i64 k ∧ Hid (∃ q, wr = w.drewN q)) (fun t _ => p.size - (intOf t).toNat)
  case atStart => exact ⟨0, by omega, rfl, ⟨0, rfl⟩⟩
  case round =>
    obtain ⟨k, hk, rfl, hr⟩ := hrel
    obtain ⟨q, rfl⟩ := hr
    by_cases hlt : k < p.size
    · have hki : (k : Int) < (p.size : Int) := by omega
      have hk0 : (0 : Int) ≤ (k : Int) := by omega
      have hiki : (i : Int) + (k : Int) < (s.size : Int) := by omega
      have hik0 : (0 : Int) ≤ (i : Int) + (k : Int) := by omega
      have hik : i + k < s.size := by omega
      by_cases he : s[i + k] = p[k]
      · have he' : ((s[i + k].toNat : Int) != (p[k].toNat : Int)) = false := by rw [he]; simp
        clear he
        go_wp2
        go_quiet (fail)
        go_wp2
        go_roundw
        case rel => exact ⟨k + 1, by omega, by go_num, ⟨_, rfl⟩⟩
        case measure => simp [intOf]; omega
      · have HF : Hid (Lib.occAt s.data.toList p.data.toList i = false) := occ_false hlt hik he
        have he' : ((s[i + k].toNat : Int) != (p[k].toNat : Int)) = true := by
          rw [bne_iff_ne]
          intro h
          apply he
          have h2 : s[i + k].toNat = p[k].toNat := by omega
          exact UInt8.toNat_inj.1 h2
        clear he
        go_wp2
        go_quiet (fail)
        go_wp2
        go_ret
        exact ⟨false, q + nq, rfl, (fun _ => HF.out), World.drewN_drewN _ _ _⟩
    · go_wp2
      go_ret
      exact ⟨true, q, rfl, (fun h => by cases h), rfl⟩

theorem p_ne {p : ByteArray} (h : 0 < p.size) : p.data.toList ≠ [] := by
  intro e
  have := congrArg List.length e
  rw [← Lib.size_eq, List.length_nil] at this
  omega

set_option maxHeartbeats 1000000 in
theorem zzContains (s p : ByteArray) (w : World) (hs : s.size ≤ 2097152) (hp : 0 < p.size) (hp2 : p.size ≤ 2097152) :
    Calls Try.prog 14 #[.string s, .string p] w fun e w' => NoPost (Lib.index s.data.toList p.data.toList = -1) w e w' := by
  go_enter Try.func14, Try.ntmps14
  go_wp2_with fail
  go_loopw [5] (fun t wr => ∃ k : Nat, k ≤ s.size + 1 ∧ t = .int .i64 k ∧ Hid (∃ q, wr = w.drewN q) ∧ Hid (Lib.NoOcc s.data.toList p.data.toList k)) (fun t _ => s.size + 1 - (intOf t).toNat)
  case atStart => exact ⟨0, by omega, rfl, ⟨0, rfl⟩, Lib.NoOcc.zero _ _⟩
  case round =>
    obtain ⟨k, hk, rfl, hr, hn⟩ := hrel
    obtain ⟨q, rfl⟩ := hr
    by_cases hlt : k + p.size ≤ s.size
    · have hki : (k : Int) + (p.size : Int) ≤ (s.size : Int) := by omega
      go_wp2_with fail
      refine (zzHasAt s p _ _ hs (by omega) (by omega)).mono ?_
      rintro e w2 ⟨B, q2, rfl, hB, rfl⟩
      rw [Int.toNat_natCast] at hB
      have HB : Hid (B = false → Lib.occAt s.data.toList p.data.toList k = false) := hB
      clear hB
      cases B
      · have HN : Hid (Lib.NoOcc s.data.toList p.data.toList (k + 1)) := hn.out.succ (HB.out rfl)
        go_wp2_with fail
        go_roundw
        case rel => exact ⟨k + 1, by omega, by go_num, ⟨_, rfl⟩, HN⟩
        case measure => simp [intOf]; omega
      · go_wp2_with fail
        go_ret
        exact ⟨true, _, rfl, (fun h => by cases h), rfl⟩
    · have hki : ¬ ((k : Int) + (p.size : Int) ≤ (s.size : Int)) := by omega
      have HI : Hid (Lib.index s.data.toList p.data.toList = -1) := Lib.index_past (p_ne hp) hn.out (by rw [← Lib.size_eq, ← Lib.size_eq]; omega)
      go_wp2_with fail
      go_ret
      exact ⟨false, _, rfl, (fun _ => HI.out), rfl⟩

/-- The length of the pieces. -/
def win (key : ByteArray) : Nat := if key.size < 12 then key.size else 12

theorem zzKeyWindow (key : ByteArray) (w : World) (hk : key.size ≤ 2097152) :
    Calls Try.prog 13 #[.string key] w fun e w' => e = .returned (.int .i64 ((win key : Nat) : Int)) ∧ w' = w := by
  by_cases h : key.size < 12
  · have HW : Hid (win key = key.size) := if_pos h
    go_enter Try.func13, Try.ntmps13
    go_wp2
    go_ret
    exact ⟨by rw [HW.out]; rfl, rfl⟩
  · have HW : Hid (win key = 12) := if_neg h
    go_enter Try.func13, Try.ntmps13
    go_wp2
    go_ret
    exact ⟨by rw [HW.out]; rfl, rfl⟩

/-- No piece of the key that begins before place m stands in the text. -/
def NoWin (text key : ByteArray) (n m : Nat) : Prop := ∀ i, i < m → i + n ≤ key.size → Lib.index text.data.toList (key.extract i (i + n)).data.toList = -1

theorem piece_size {key : ByteArray} {i n : Nat} (h : i + n ≤ key.size) : (key.extract i (i + n)).size = n := by
  rw [Lib.size_eq, Lib.extract_data, List.length_take, List.length_drop, ← Lib.size_eq]; omega

/-- No piece of the key stands in the text; there is none where the key is empty. -/
def NoneIn (text key : ByteArray) (n : Nat) : Prop := n = 0 ∨ NoWin text key n (key.size + 1)

set_option maxHeartbeats 1000000 in
theorem zzSomeKeyWindowIn (text key : ByteArray) (w : World) (hs : text.size ≤ 2097152) (hk : key.size ≤ 2097152) :
    Calls Try.prog 9 #[.string text, .string key] w fun e w' => NoPost (NoneIn text key (win key)) w e w' := by
  have hwin : win key ≤ key.size := by unfold win; split <;> omega
  have HC : Hid (∀ w, Calls Try.prog 13 #[.string key] w fun e w' => e = .returned (.int .i64 ((win key : Nat) : Int)) ∧ w' = w) := fun w => zzKeyWindow key w hk
  generalize win key = n at *
  by_cases hn0 : n = 0
  · subst hn0
    go_enter Try.func9, Try.ntmps9
    go_wp2_with fail
    refine (HC.out _).mono ?_
    rintro e w1 ⟨rfl, rfl⟩
    go_wp2_with fail
    go_ret
    exact ⟨false, 0, rfl, (fun _ => Or.inl rfl), rfl⟩
  · have hn0' : ((n : Int) == 0) = false := by simp; omega
    go_enter Try.func9, Try.ntmps9
    go_wp2_with fail
    refine (HC.out _).mono ?_
    rintro e w1 ⟨rfl, rfl⟩
    go_wp2_with fail
    go_loopw [6] (fun t wr => ∃ k : Nat, k ≤ key.size + 1 ∧ t = .int .i64 k ∧ Hid (∃ q, wr = w1.drewN q) ∧ Hid (NoWin text key n k)) (fun t _ => key.size + 1 - (intOf t).toNat)
    case atStart => exact ⟨0, by omega, rfl, ⟨0, rfl⟩, fun i hi => absurd hi (Nat.not_lt_zero _)⟩
    case round =>
      obtain ⟨k, hk2, rfl, hr, hn⟩ := hrel
      obtain ⟨q, rfl⟩ := hr
      by_cases hlt : k + n ≤ key.size
      · have hki : (k : Int) + (n : Int) ≤ (key.size : Int) := by omega
        have hkn : (k : Int) ≤ (k : Int) + (n : Int) := by omega
        have HPS := (show Hid _ from piece_size hlt)
        go_wp2_with fail
        refine (zzContains text _ _ hs (by rw [HPS.out]; omega) (by rw [HPS.out]; omega)).mono ?_
        rintro e w2 ⟨B, q2, rfl, hB, rfl⟩
        have HB : Hid (B = false → Lib.index text.data.toList (key.extract k (k + n)).data.toList = -1) := hB
        clear hB
        cases B
        · have HN : Hid (NoWin text key n (k + 1)) := by
            intro i hi h2
            by_cases e : i = k
            · rw [e]; exact HB.out rfl
            · exact hn.out i (by omega) h2
          go_wp2_with fail
          go_roundw
          case rel => exact ⟨k + 1, by omega, by go_num, ⟨_, rfl⟩, HN⟩
          case measure => simp [intOf]; omega
        · go_wp2_with fail
          go_ret
          exact ⟨true, _, rfl, (fun h => by cases h), rfl⟩
      · have hki : ¬ ((k : Int) + (n : Int) ≤ (key.size : Int)) := by omega
        have HI : Hid (NoWin text key n (key.size + 1)) := fun i _ h2 => hn.out i (by omega) h2
        go_wp2_with fail
        go_ret
        exact ⟨false, _, rfl, (fun _ => Or.inr HI.out), rfl⟩

end Go.Proofs.Qxb6001218a.Lv
