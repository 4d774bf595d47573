/-
  Seat b6001218a: 'Rows.FnRedactKeepsTextWithoutKeyWindowSaid'. The frame is the seat's shell (proof-skeleton.mjs), its last row turned from 'Grown' to 'Below', its wrap the one that keeps the world's shape (Derived/HandedShaped.lean: internal/bytealg.MaxLen holds some integer); the walk is ours.
-/
import Derived.Test.Qxb6001218aRows
import Derived.WalkKit
import Derived.ProofKit
import Derived.OpenShut
import Derived.ShutString
import Derived.ChangeOld
import Derived.Below
import Derived.HandedShaped
import Derived.Test.Qxb6001218aRedact
namespace Go.Proofs.Qxb6001218a.fnRedactKeepsTextWithoutKeyWindow
open Go.ChangeShapes Go.WideShapes Go.ChangeAt Go.RowKit
open Go.ChangeMaps (open_string shut_string)
set_option linter.unusedVariables false

theorem own : ownKnob Try.prog.godebug = none := by kernel_rfl

/-! ### STEP 1: THE WALK -/
theorem zzBytes (s t : ByteArray) (w : World) (hn : s.size + t.size ≤ 1048576) :
    Calls Try.prog 10 #[.string s, .string t] w fun e w' => e = .returned (.bool true) ∧ w' = w := by
  go_enter Try.func10, Try.ntmps10
  go_wp2
  go_ret
  exact ⟨rfl, rfl⟩

theorem zzBytes_no (s t : ByteArray) (w : World) (m1 : s.size ≤ 9223372036854775807) (m2 : t.size ≤ 9223372036854775807) (hn : 1048576 < s.size + t.size) :
    Calls Try.prog 10 #[.string s, .string t] w fun e w' => e = .returned (.bool false) ∧ w' = w := by
  by_cases h1 : 1048576 < s.size
  · go_enter Try.func10, Try.ntmps10
    go_wp2
    go_ret
    exact ⟨rfl, rfl⟩
  · by_cases h2 : 1048576 < t.size
    · go_enter Try.func10, Try.ntmps10
      go_wp2
      go_ret
      exact ⟨rfl, rfl⟩
    · go_enter Try.func10, Try.ntmps10
      go_wp2
      go_ret
      exact ⟨rfl, rfl⟩

theorem zzRedact (text key : ByteArray) (m : Int) (w : World) (hs : text.size ≤ 2097152) (hk : key.size ≤ 2097152) (hm : w.cell? ⟨0, 0, none⟩ = some (.int .i64 m)) (hno : Lv.NoneIn text key (Lv.win key)) :
    Calls Try.prog 8 #[.string text, .string key] w fun e w' => e = .returned (.string text) ∧ w' = w := by
  have HNO : Hid (Lv.NoneIn text key (Lv.win key)) := hno
  clear hno
  go_enter Try.func8, Try.ntmps8
  go_wp2_with fail
  refine (Lv.redact text key m _ hs hk hm HNO.out).mono ?_
  rintro e w1 ⟨rfl, hw⟩
  subst hw
  go_wp2_with fail
  go_ret
  exact ⟨rfl, rfl⟩

set_option maxHeartbeats 1000000 in
theorem walk (a0 : ByteArray) (a1 : ByteArray) (w0 : a0.size ≤ maxLen) (w1 : a1.size ≤ maxLen) (m : Int) (w : World) (hm : w.cell? ⟨0, 0, none⟩ = some (.int .i64 m)) :
    Calls Try.prog 4 #[.string a0, .string a1] w fun e w' => e = .returned (.bool true) ∧ Below w.heap.size w w' := by
  unfold maxLen at w0 w1
  by_cases hbig : 1048576 < a0.size + a1.size
  · go_enter Try.func4, Try.ntmps4
    go_wp2_with (go_at_call 10; refine (zzBytes_no _ _ _ (by omega) (by omega) hbig).mono ?_; rintro e w' ⟨rfl, rfl⟩)
    go_ret
    exact ⟨rfl, Below.refl _ _⟩
  · have hle : a0.size + a1.size ≤ 1048576 := by omega
    by_cases h0 : 4096 < a0.size
    · go_enter Try.func4, Try.ntmps4
      go_wp2_with (go_at_call 10; refine (zzBytes _ _ _ hle).mono ?_; rintro e w' ⟨rfl, rfl⟩)
      go_ret
      exact ⟨rfl, Below.refl _ _⟩
    · by_cases h1 : 4096 < a1.size
      · go_enter Try.func4, Try.ntmps4
        go_wp2_with (go_at_call 10; refine (zzBytes _ _ _ hle).mono ?_; rintro e w' ⟨rfl, rfl⟩)
        go_ret
        exact ⟨rfl, Below.refl _ _⟩
      · go_enter Try.func4, Try.ntmps4
        go_wp2_with (go_at_call 10; refine (zzBytes _ _ _ hle).mono ?_; rintro e w' ⟨rfl, rfl⟩)
        refine (Lv.zzSomeKeyWindowIn a0 a1 _ (by omega) (by omega)).mono ?_
        rintro e w2 ⟨B, q, rfl, hB, rfl⟩
        have HB : Hid (B = false → Lv.NoneIn a0 a1 (Lv.win a1)) := hB
        clear hB
        cases B
        · have HN : Hid (Lv.NoneIn a0 a1 (Lv.win a1)) := HB.out rfl
          go_wp2_with fail
          refine (zzRedact a0 a1 m _ (by omega) (by omega) (by exact hm) HN.out).mono ?_
          rintro e w3 ⟨rfl, hw3⟩
          subst hw3
          go_wp2_with fail
          go_ret
          exact ⟨rfl, below_drewN (Below.refl _ _) q⟩
        · go_wp2_with fail
          go_ret
          exact ⟨rfl, below_drewN (Below.refl _ _) q⟩

/-! ### THE ROW's STEP: WRITTEN OUT: LEAVE IT -/
set_option maxRecDepth 100000 in
theorem lifted (os : Os) (started : os.Started) (H : Type) (enc : TypeId × Value → H) :
    ReturnsInHanded {} Try.checked os 4 .any (Rows.fnRedactKeepsTextWithoutKeyWindowSpec.pre6 enc Try.prog Try.f4 Rows.fnRedactKeepsTextWithoutKeyWindowRow.domain false) (Rows.fnRedactKeepsTextWithoutKeyWindowSpec.post enc Try.prog Try.f4 false true false false) := by
  refine returnsInHanded_of_change_shaped (C := Try.checked) own started (by kernel_rfl) Try.func4
    (ChangeSpec.witness6 (enc := enc) (C := Try.checked) false ⟨#[], #[.string ByteArray.empty, .string ByteArray.empty], []⟩ 8 (by kernel_rfl) (by kernel_rfl) (by kernel_rfl) (by kernel_rfl)) ?_
  intro W base args ds gs before hval0 hW hcnd _ hsh _
  obtain ⟨m, hm⟩ : ∃ m, W.cell? ⟨0, 0, none⟩ = some (.int .i64 m) := Try.laysM143.s1_3 W hsh
  have hval : ∀ (j : Nat) t v, Try.f4.params[j]? = some t → args[j]? = some v → Value.okWide Try.prog W .any base t v := hval0
  have hW' := hW
  obtain ⟨p, q, hA0, hV, rfl, hfz, hnd⟩ := hW
  have hA : DataW.TrodAll enc Try.prog W 0 (fun _ => true) true Try.f4.params.toList args.toList ds p := hA0
  rw [Try.params4] at hA hval
  obtain ⟨v0, vs0, d0, ds0, p0, q0, hargs, rfl, rfl, h0, r0⟩ := trodAll_cons hA
  obtain ⟨v1, vs1, d1, ds1, p1, q1, rfl, rfl, rfl, h1, r1⟩ := trodAll_cons r0
  obtain ⟨rfl, rfl, rfl⟩ := trodAll_nil r1
  obtain rfl : args = #[v0, v1] := by cases args; simp_all
  obtain ⟨rfl, rfl⟩ := trodVars_none hV
  obtain ⟨a0, rfl, rfl, rfl, w0⟩ := open_string Try.underlying9 (hval 0 9 v0 rfl rfl) h0
  obtain ⟨a1, rfl, rfl, rfl, w1⟩ := open_string Try.underlying9 (hval 1 9 v1 rfl rfl) h1
  clear hA0 hval0
  refine (walk a0 a1 w0 w1 m W hm).mono fun e W' ⟨he, bel⟩ => ?_
  subst he
  exact ⟨_, rfl, _, _, _, [], _, [], hW', trodAll_mk1 (shut_bool Try.underlying4 _), (trodAll_cons_mk (shut_string Try.underlying9 w0) (trodAll_cons_mk (shut_string Try.underlying9 w1) trodAll_mk0)), rfl, bel.frame _, fun h => by cases h⟩

theorem over : Rows.fnRedactKeepsTextWithoutKeyWindowRow.holds Try.pinned (OpenSpec.ofChange Rows.fnRedactKeepsTextWithoutKeyWindowSpec) :=
  OpenClaim.holds_of_wide 4 Try.f4 rfl rfl rfl rfl rfl rfl rfl ⟨rfl, rfl, rfl, rfl, rfl⟩ rfl rfl rfl rfl rfl (by kernel_rfl) Try.func4 (by kernel_rfl)
    (of_decide_eq_true (by kernel_rfl)) (by unfold Func.isWrapper; first | (rw [if_pos (by decide +kernel)]; kernel_rfl) | (rw [if_neg (by decide +kernel)]; exact ⟨rfl, rfl⟩))
    (fun os started H enc _ => lifted os started H enc)

/-- ████ THE STATEMENT ████ -/
theorem proved : Rows.FnRedactKeepsTextWithoutKeyWindowSaid :=
  over
#print axioms proved
end Go.Proofs.Qxb6001218a.fnRedactKeepsTextWithoutKeyWindow
