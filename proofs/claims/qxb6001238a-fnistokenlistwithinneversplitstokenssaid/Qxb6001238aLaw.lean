/-
  Seat b6001238a: the walk of FnIsTokenListWithinNeverSplitsTokens.
-/
import Derived.Test.Qxb6001238aWithin
namespace Go.Proofs.Qxb6001238a.Lv
open Go.RowKit
set_option linter.unusedVariables false

theorem below_drewN' {B : Nat} {w w' : World} (h : Below B w w') (q : Nat) : Below B w (w'.drewN q) := below_drewN h q

set_option maxHeartbeats 4000000 in
set_option maxRecDepth 100000 in
theorem law (a : Option Addr) (n c : Nat) (x : Int) (f : Nat → ByteArray) (w : World) (hn : n ≤ 9223372036854775807) (hf : ∀ i, (f i).size ≤ 9223372036854775807) (hx1 : -9223372036854775808 ≤ x) (hx2 : x ≤ 9223372036854775807) (hl : OptStrs w a n f) (h0 : a = none → n = 0) :
    Calls Try.prog 5 #[.slice a n c, .int .i64 x] w fun e w' => e = .returned (.bool true) ∧ Below w.heap.size w w' := by
  have HL : Hid (OptStrs w a n f) := hl
  have HF : Hid (∀ i, (f i).size ≤ 9223372036854775807) := hf
  have H0 : Hid (a = none → n = 0) := h0
  clear hl hf h0
  go_enter Try.func5, Try.ntmps5
  go_wp2_with fail
  refine (zzBytes a n c x f _ hn HF.out HL.out).mono ?_
  rintro e w1 ⟨B, rfl, hB, rfl⟩
  have HB : Hid (B = true → n + sumTo f n ≤ 1048576) := hB
  clear hB
  cases B
  · go_wp2_with fail
    go_ret
    exact ⟨rfl, Below.refl _ _⟩
  · have hsum := HB.out rfl
    clear HB
    go_wp2_with fail
    refine (listTooBig a n c f _ (by omega) hsum HL.out).mono ?_
    rintro e w2 ⟨B, rfl, _, rfl⟩
    cases B
    · by_cases hneg : x < 0
      · go_wp2_with fail
        go_ret
        exact ⟨rfl, Below.refl _ _⟩
      · have hdneg : decide (x < 0) = false := by simp; omega
        go_wp2_with fail
        go_loop [5] (fun t => ∃ k : Nat, k ≤ n ∧ t = .int .i64 k ∧ Hid (∀ i, i < k → NoComma (f i))) (fun t => n - (intOf t).toNat)
        case atStart => exact ⟨0, by omega, rfl, fun i h => absurd h (Nat.not_lt_zero _)⟩
        case round =>
          obtain ⟨k, hk, rfl, hr⟩ := hrel
          by_cases hlt : k < n
          · obtain ⟨b, o, rfl, hst⟩ := OptStrs.some HL.out hlt
            have hc := hst k hlt
            have hfk : (f k).size ≤ 2097152 := by have := sumTo_at f k n hlt; omega
            clear hst
            go_wp2_with fail
            refine (IsToken (f k) _ hfk).mono ?_
            rintro e w3 ⟨B, rfl, hB, rfl⟩
            have HB : Hid (B = true → NoComma (f k)) := hB
            clear hB
            cases B
            · go_wp2_with fail
              go_ret
              exact ⟨rfl, Below.refl _ _⟩
            · have HN : Hid (∀ i, i < k + 1 → NoComma (f i)) := by
                intro i hi
                by_cases e : i = k
                · rw [e]; exact HB.out rfl
                · exact hr.out i (by omega)
              go_wp2_with fail
              go_round
              case rel => exact ⟨k + 1, by omega, by go_num, HN⟩
              case measure => simp [intOf]; omega
          · have HNC : Hid (∀ i, i < n → NoComma (f i)) := fun i hi => hr.out i (by omega)
            go_wp2_with fail
            refine (copyLines a n c f _ (by omega) HL.out H0.out).mono ?_
            rintro e w3 ⟨a', c', rfl, hcc, ho3, hb3⟩
            have HO : Hid (OptStrs w3 a' n f) := ho3
            have HB3 : Hid (Below w2.heap.size w2 w3) := hb3
            clear ho3 hb3
            go_wp2_with fail
            refine (ListWithin a' n c' x f _ hcc (by omega) hx2 hsum HNC.out HO.out).mono ?_
            rintro e w4 hw4
            rcases hw4 with ⟨rfl, rfl⟩ | ⟨i, g, c2, rfl, hcut⟩
            · go_wp2_with fail
              refine (sameStrings a' a' n c' c' f _ (by omega) HO.out HO.out).mono ?_
              rintro e w5 ⟨rfl, q, rfl⟩
              go_wp2_with fail
              go_ret
              exact ⟨rfl, below_drewN' HB3.out q⟩
            · have hin := hcut.lt
              obtain ⟨b', o', rfl, hst⟩ := OptStrs.some HO.out hin
              have HST : Hid (Strs w4 b' o' n f) := hst.later hcut.below
              have HOLD : Hid (∀ j, j < i → w4.cell? ⟨g, j, none⟩ = some (.string (f j))) := hcut.old
              have hlast := hcut.last
              have HB4 : Hid (Below w2.heap.size w2 w4) := HB3.out.trans (hcut.below.mono HB3.out.size)
              have hii : (i : Int) < (i : Int) + 1 := by omega
              have hnz : ((i : Int) + 1 == 0) = false := by simp; omega
              have hng : decide ((n : Int) < (i : Int) + 1) = false := by simp; omega
              clear hcut hst HO
              go_wp2_with fail
              go_loopw [9] (fun t wr => ∃ j : Nat, j ≤ i ∧ t = .int .i64 j ∧ Hid (∃ q, wr = w4.drewN q)) (fun t _ => i - (intOf t).toNat)
              case atStart => exact ⟨0, by omega, rfl, ⟨0, rfl⟩⟩
              case round =>
                obtain ⟨j, hj, rfl, hr2⟩ := hrel
                obtain ⟨q, rfl⟩ := hr2
                by_cases hji : j < i
                · have hc1 := HOLD.out j hji
                  have hc2 := HST.out j (by omega)
                  have hj0 : (0 : Int) ≤ (j : Int) := by omega
                  have hj1 : (j : Int) < (i : Int) + 1 := by omega
                  have hj2 : (j : Int) < (n : Int) := by omega
                  have hj3 : (j : Int) < (i : Int) := by omega
                  go_wp2_with fail
                  go_quiet (fail)
                  go_wp2_with fail
                  go_roundw
                  case rel => exact ⟨j + 1, by omega, by go_num, ⟨_, rfl⟩⟩
                  case measure => simp [intOf]; omega
                · go_wp2_with fail
                  go_ret
                  exact ⟨rfl, below_drewN' HB4.out _⟩
    · go_wp2_with fail
      go_ret
      exact ⟨rfl, Below.refl _ _⟩

end Go.Proofs.Qxb6001238a.Lv
