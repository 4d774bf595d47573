/-
  Seat b6001116a: 'Rows.FnGroupShapeSaid'. The frame is the seat's shell (proof-skeleton.mjs), its last row turned from 'Grown' to 'Below' (the call's own new blocks bear marks); the walk is ours.
-/
import Derived.Test.Qxb6001116aRows
import Derived.WalkKit
import Derived.ProofKit
import Derived.OpenShut
import Derived.ShutString
import Derived.ChangeOld
import Derived.Below
import Derived.Test.Qxb6001116aGroup
import Derived.Test.Qxb6001116aForm
import Derived.Deep.QuietTactic
import Derived.BigQuiet
import Derived.Lib.IndexBytes
namespace Go.Proofs.Qxb6001116a.fnGroupShape
open Go.ChangeShapes Go.WideShapes Go.ChangeAt Go.RowKit
open Go.ChangeMaps (open_string shut_string)
set_option linter.unusedVariables false

theorem own : ownKnob Try.prog.godebug = none := by kernel_rfl

/-! ### STEP 1: THE WALK -/
theorem zzBytes (s : ByteArray) (w : World) (hn : s.size ≤ 1048576) :
    Calls Try.prog 13 #[.string s] w fun e w' => e = .returned (.bool true) ∧ w' = w := by
  go_enter Try.func13, Try.ntmps13
  go_wp2
  go_ret
  exact ⟨rfl, rfl⟩

theorem zzBytes_no (s : ByteArray) (w : World) (hm : s.size ≤ 9223372036854775807) (hn : 1048576 < s.size) :
    Calls Try.prog 13 #[.string s] w fun e w' => e = .returned (.bool false) ∧ w' = w := by
  go_enter Try.func13, Try.ntmps13
  go_wp2
  go_ret
  exact ⟨rfl, rfl⟩

theorem dotAt_le (s : ByteArray) : M.dotAt s.data.toList ≤ s.size := by
  have := Lv.whole_len s.data.toList
  rw [← Lib.size_eq] at this
  exact this

set_option maxHeartbeats 1000000 in
theorem walk (a0 : ByteArray) (w0 : a0.size ≤ maxLen) (w : World) :
    Calls Try.prog 4 #[.string a0] w fun e w' => e = .returned (.bool true) ∧ Below w.heap.size w w' := by
  unfold maxLen at w0
  by_cases hbig : 1048576 < a0.size
  · go_enter Try.func4, Try.ntmps4
    go_wp2_with (go_at_call 13; refine (zzBytes_no _ _ (by omega) hbig).mono ?_; rintro e w' ⟨rfl, rfl⟩)
    go_ret
    exact ⟨rfl, Below.refl _ _⟩
  · have hle : a0.size ≤ 1048576 := by omega
    cases hok : M.okL a0.data.toList
    · go_enter Try.func4, Try.ntmps4
      go_wp2_with (go_at_call 13; refine (zzBytes _ _ hle).mono ?_; rintro e w' ⟨rfl, rfl⟩)
      refine (Lv.zzValidForm _ _ (by omega)).mono ?_
      rintro e w1 ⟨rfl, rfl⟩
      go_wp2_with fail
      go_ret
      exact ⟨rfl, Below.refl _ _⟩
    · obtain ⟨hsh1, hsh2⟩ := M.shape_law hok
      have hgs : (⟨(M.group a0.data.toList).toArray⟩ : ByteArray).size ≤ 2097152 := by
        rw [Lv.size_mk]
        have := M.group_len a0.data.toList
        rw [← Lib.size_eq] at this
        omega
      have HG : Hid (∀ w, Calls Try.prog 12 #[.string a0] w fun e w' => e = .returned (.string ⟨(M.group a0.data.toList).toArray⟩) ∧ Below w.heap.size w w') := fun w => Lv.Group a0 w (by omega)
      obtain ⟨g, hg⟩ : ∃ g : ByteArray, g = ⟨(M.group a0.data.toList).toArray⟩ := ⟨_, rfl⟩
      have hgd : M.group a0.data.toList = g.data.toList := by rw [hg]
      rw [← hg] at HG hgs
      rw [hgd] at hsh1 hsh2
      have hk1 := dotAt_le g
      have hk2 := dotAt_le a0
      have HD1 : Hid (∀ w, Calls Try.prog 15 #[.string g] w fun e w' => e = .returned (.int .i64 ((M.dotAt g.data.toList : Nat) : Int)) ∧ w' = w) := fun w => Lv.zzDotAt g w (by omega)
      have HD2 : Hid (∀ w, Calls Try.prog 15 #[.string a0] w fun e w' => e = .returned (.int .i64 ((M.dotAt a0.data.toList : Nat) : Int)) ∧ w' = w) := fun w => Lv.zzDotAt a0 w (by omega)
      generalize M.dotAt g.data.toList = k at *
      generalize M.dotAt a0.data.toList = d at *
      have HW : Hid (M.wg (g.extract 0 k).data.toList 0 0 = true) := by
        show M.wg (g.extract 0 k).data.toList 0 0 = true
        rw [Lib.extract_data]; simpa using hsh1
      have heq : ((g.extract k g.size).toList == (a0.extract d a0.size).toList) = true := by
        rw [beq_iff_eq, Lib.toList_data, Lib.toList_data, Lib.extract_to_end, Lib.extract_to_end]; exact hsh2
      have hxs : (g.extract 0 k).size ≤ 8388608 := by
        rw [Lib.size_eq, Lib.extract_data]
        have := List.length_take_le (k - 0) (g.data.toList.drop 0)
        simp
        omega
      have c1 : (0 : Int) ≤ (k : Int) := by omega
      have c2 : (k : Int) ≤ (g.size : Int) := by omega
      have c3 : (0 : Int) ≤ (d : Int) := by omega
      have c4 : (d : Int) ≤ (a0.size : Int) := by omega
      clear hsh1 hsh2 hg hgd
      go_enter Try.func4, Try.ntmps4
      go_wp2_with (go_at_call 13; refine (zzBytes _ _ hle).mono ?_; rintro e w' ⟨rfl, rfl⟩)
      refine (Lv.zzValidForm _ _ (by omega)).mono ?_
      rintro e w1 ⟨rfl, rfl⟩
      go_wp2_with fail
      refine (HG.out _).mono ?_
      rintro e w2 ⟨rfl, hb⟩
      have HB : Hid (Below w1.heap.size w1 w2) := hb
      clear hb
      go_wp2_with fail
      refine (HD1.out _).mono ?_
      rintro e w3 ⟨rfl, rfl⟩
      go_wp2_with fail
      refine (Lv.zzWellGrouped _ _ hxs HW.out).mono ?_
      rintro e w4 ⟨rfl, rfl⟩
      go_wp2_with fail
      go_quiet ((go_at_call 15; exact Calls.quiet_of_same (HD2.out _)))
      go_wp2_with fail
      go_ret
      exact ⟨rfl, below_drewN HB.out _⟩

/-! ### THE ROW's STEP: WRITTEN OUT: LEAVE IT -/
set_option maxRecDepth 100000 in
theorem lifted (os : Os) (started : os.Started) (H : Type) (enc : TypeId × Value → H) :
    ReturnsInHanded {} Try.checked os 4 .any (Rows.fnGroupShapeSpec.pre6 enc Try.prog Try.f4 Rows.fnGroupShapeRow.domain false) (Rows.fnGroupShapeSpec.post enc Try.prog Try.f4 false true false false) := by
  refine returnsInHanded_of_change (C := Try.checked) own started (by kernel_rfl) Try.func4
    (ChangeSpec.witness6 (enc := enc) (C := Try.checked) false ⟨#[], #[.string ByteArray.empty], []⟩ 8 (by kernel_rfl) (by kernel_rfl) (by kernel_rfl) (by kernel_rfl)) ?_
  intro W base args ds gs before hval0 hW hcnd _
  have hval : ∀ (j : Nat) t v, Try.f4.params[j]? = some t → args[j]? = some v → Value.okWide Try.prog W .any base t v := hval0
  have hW' := hW
  obtain ⟨p, q, hA0, hV, rfl, hfz, hnd⟩ := hW
  have hA : DataW.TrodAll enc Try.prog W 0 (fun _ => true) true Try.f4.params.toList args.toList ds p := hA0
  rw [Try.params4] at hA hval
  obtain ⟨v0, vs0, d0, ds0, p0, q0, hargs, rfl, rfl, h0, r0⟩ := trodAll_cons hA
  obtain ⟨rfl, rfl, rfl⟩ := trodAll_nil r0
  obtain rfl : args = #[v0] := by cases args; simp_all
  obtain ⟨rfl, rfl⟩ := trodVars_none hV
  obtain ⟨a0, rfl, rfl, rfl, w0⟩ := open_string Try.underlying9 (hval 0 9 v0 rfl rfl) h0
  clear hA0 hval0
  refine (walk a0 w0 W).mono fun e W' ⟨he, bel⟩ => ?_
  subst he
  exact ⟨_, rfl, _, _, _, [], _, [], hW', trodAll_mk1 (shut_bool Try.underlying4 _), (trodAll_cons_mk (shut_string Try.underlying9 w0) trodAll_mk0), rfl, bel.frame _, fun h => by cases h⟩

theorem over : Rows.fnGroupShapeRow.holds Try.pinned (OpenSpec.ofChange Rows.fnGroupShapeSpec) :=
  OpenClaim.holds_of_wide 4 Try.f4 rfl rfl rfl rfl rfl rfl rfl ⟨rfl, rfl, rfl, rfl, rfl⟩ rfl rfl rfl rfl rfl (by kernel_rfl) Try.func4 (by kernel_rfl)
    (of_decide_eq_true (by kernel_rfl)) (by unfold Func.isWrapper; first | (rw [if_pos (by decide +kernel)]; kernel_rfl) | (rw [if_neg (by decide +kernel)]; exact ⟨rfl, rfl⟩))
    (fun os started H enc _ => lifted os started H enc)

/-- ████ THE STATEMENT ████ -/
theorem proved : Rows.FnGroupShapeSaid :=
  over
#print axioms proved
end Go.Proofs.Qxb6001116a.fnGroupShape
