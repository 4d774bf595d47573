/-
  Seat b6001116a: 'Rows.FnGroupStripCommasRestoresSaid'. The frame is the seat's shell (proof-skeleton.mjs), its last row turned from 'Grown' to 'Below' (the call's own new blocks bear marks); the walk is ours.
-/
import Derived.Test.Qxb6001116aRows
import Derived.WalkKit
import Derived.ProofKit
import Derived.OpenShut
import Derived.ShutString
import Derived.ChangeOld
import Derived.Below
import Derived.Test.Qxb6001116aGroup
import Derived.Test.Qxb6001116aCommas
namespace Go.Proofs.Qxb6001116a.fnGroupStripCommasRestores
open Go.ChangeShapes Go.WideShapes Go.ChangeAt Go.RowKit
open Go.ChangeMaps (open_string shut_string)
set_option linter.unusedVariables false

theorem own : ownKnob Try.prog.godebug = none := by kernel_rfl

/-! ### STEP 1: THE WALK -/
theorem zzBytes (s : ByteArray) (w : World) (hn : s.size ≤ 1048576) :
    Calls Try.prog 9 #[.string s] w fun e w' => e = .returned (.bool true) ∧ w' = w := by
  go_enter Try.func9, Try.ntmps9
  go_wp2
  go_ret
  exact ⟨rfl, rfl⟩

theorem zzBytes_no (s : ByteArray) (w : World) (hm : s.size ≤ 9223372036854775807) (hn : 1048576 < s.size) :
    Calls Try.prog 9 #[.string s] w fun e w' => e = .returned (.bool false) ∧ w' = w := by
  go_enter Try.func9, Try.ntmps9
  go_wp2
  go_ret
  exact ⟨rfl, rfl⟩

set_option maxHeartbeats 1000000 in
theorem walk (a0 : ByteArray) (w0 : a0.size ≤ maxLen) (w : World) :
    Calls Try.prog 3 #[.string a0] w fun e w' => e = .returned (.bool true) ∧ Below w.heap.size w w' := by
  unfold maxLen at w0
  by_cases hbig : 1048576 < a0.size
  · go_enter Try.func3, Try.ntmps3
    go_wp2_with (go_at_call 9; refine (zzBytes_no _ _ (by omega) hbig).mono ?_; rintro e w' ⟨rfl, rfl⟩)
    go_ret
    exact ⟨rfl, Below.refl _ _⟩
  · have hle : a0.size ≤ 1048576 := by omega
    cases hc : M.hasComma a0.data.toList
    · have HL : Hid (M.noCommas (M.group a0.data.toList) = a0.data.toList) := M.strip_law hc
      have hgs : (⟨(M.group a0.data.toList).toArray⟩ : ByteArray).size ≤ 8388608 := by
        rw [Lv.size_mk]
        have := M.group_len a0.data.toList
        rw [← Lib.size_eq] at this
        omega
      go_enter Try.func3, Try.ntmps3
      go_wp2_with (go_at_call 9; refine (zzBytes _ _ hle).mono ?_; rintro e w' ⟨rfl, rfl⟩)
      refine (Lv.zzHasComma _ _ (by omega)).mono ?_
      rintro e w1 ⟨rfl, rfl⟩
      go_wp2_with fail
      refine (Lv.Group _ _ (by omega)).mono ?_
      rintro e w2 ⟨rfl, hb⟩
      have HB : Hid (Below w1.heap.size w1 w2) := hb
      clear hb
      go_wp2_with fail
      refine (Lv.zzRemoveCommas _ _ hgs).mono ?_
      rintro e w3 ⟨rfl, hb⟩
      have HB2 : Hid (Below w1.heap.size w1 w3) := HB.out.trans (hb.mono HB.out.size)
      clear hb
      rw [show (⟨(M.group a0.data.toList).toArray⟩ : ByteArray).data.toList = M.group a0.data.toList from rfl, HL.out, Lv.self_is]
      go_wp2_with fail
      go_ret
      exact ⟨rfl, HB2.out⟩
    · go_enter Try.func3, Try.ntmps3
      go_wp2_with (go_at_call 9; refine (zzBytes _ _ hle).mono ?_; rintro e w' ⟨rfl, rfl⟩)
      refine (Lv.zzHasComma _ _ (by omega)).mono ?_
      rintro e w1 ⟨rfl, rfl⟩
      go_wp2_with fail
      go_ret
      exact ⟨rfl, Below.refl _ _⟩

/-! ### THE ROW's STEP: WRITTEN OUT: LEAVE IT -/
set_option maxRecDepth 100000 in
theorem lifted (os : Os) (started : os.Started) (H : Type) (enc : TypeId × Value → H) :
    ReturnsInHanded {} Try.checked os 3 .any (Rows.fnGroupStripCommasRestoresSpec.pre6 enc Try.prog Try.f3 Rows.fnGroupStripCommasRestoresRow.domain false) (Rows.fnGroupStripCommasRestoresSpec.post enc Try.prog Try.f3 false true false false) := by
  refine returnsInHanded_of_change (C := Try.checked) own started (by kernel_rfl) Try.func3
    (ChangeSpec.witness6 (enc := enc) (C := Try.checked) false ⟨#[], #[.string ByteArray.empty], []⟩ 8 (by kernel_rfl) (by kernel_rfl) (by kernel_rfl) (by kernel_rfl)) ?_
  intro W base args ds gs before hval0 hW hcnd _
  have hval : ∀ (j : Nat) t v, Try.f3.params[j]? = some t → args[j]? = some v → Value.okWide Try.prog W .any base t v := hval0
  have hW' := hW
  obtain ⟨p, q, hA0, hV, rfl, hfz, hnd⟩ := hW
  have hA : DataW.TrodAll enc Try.prog W 0 (fun _ => true) true Try.f3.params.toList args.toList ds p := hA0
  rw [Try.params3] at hA hval
  obtain ⟨v0, vs0, d0, ds0, p0, q0, hargs, rfl, rfl, h0, r0⟩ := trodAll_cons hA
  obtain ⟨rfl, rfl, rfl⟩ := trodAll_nil r0
  obtain rfl : args = #[v0] := by cases args; simp_all
  obtain ⟨rfl, rfl⟩ := trodVars_none hV
  obtain ⟨a0, rfl, rfl, rfl, w0⟩ := open_string Try.underlying9 (hval 0 9 v0 rfl rfl) h0
  clear hA0 hval0
  refine (walk a0 w0 W).mono fun e W' ⟨he, bel⟩ => ?_
  subst he
  exact ⟨_, rfl, _, _, _, [], _, [], hW', trodAll_mk1 (shut_bool Try.underlying4 _), (trodAll_cons_mk (shut_string Try.underlying9 w0) trodAll_mk0), rfl, bel.frame _, fun h => by cases h⟩

theorem over : Rows.fnGroupStripCommasRestoresRow.holds Try.pinned (OpenSpec.ofChange Rows.fnGroupStripCommasRestoresSpec) :=
  OpenClaim.holds_of_wide 3 Try.f3 rfl rfl rfl rfl rfl rfl rfl ⟨rfl, rfl, rfl, rfl, rfl⟩ rfl rfl rfl rfl rfl (by kernel_rfl) Try.func3 (by kernel_rfl)
    (of_decide_eq_true (by kernel_rfl)) (by unfold Func.isWrapper; first | (rw [if_pos (by decide +kernel)]; kernel_rfl) | (rw [if_neg (by decide +kernel)]; exact ⟨rfl, rfl⟩))
    (fun os started H enc _ => lifted os started H enc)

/-- ████ THE STATEMENT ████ -/
theorem proved : Rows.FnGroupStripCommasRestoresSaid :=
  over
#print axioms proved
end Go.Proofs.Qxb6001116a.fnGroupStripCommasRestores
