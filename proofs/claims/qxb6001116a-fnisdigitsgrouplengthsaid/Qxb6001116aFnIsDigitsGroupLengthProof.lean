/-
  Seat b6001116a: 'Rows.FnIsDigitsGroupLengthSaid'. The frame is the seat's shell (proof-skeleton.mjs), its last row turned from 'Grown' to 'Below' (the call's own new blocks bear marks); the walk is ours.
-/
import Derived.Test.Qxb6001116aRows
import Derived.WalkKit
import Derived.ProofKit
import Derived.OpenShut
import Derived.ShutString
import Derived.ChangeOld
import Derived.Below
import Derived.Test.Qxb6001116aGroup
namespace Go.Proofs.Qxb6001116a.fnIsDigitsGroupLength
open Go.ChangeShapes Go.WideShapes Go.ChangeAt Go.RowKit
open Go.ChangeMaps (open_string shut_string)
set_option linter.unusedVariables false

theorem own : ownKnob Try.prog.godebug = none := by kernel_rfl

/-! ### STEP 1: THE WALK -/
theorem zzBytes (s : ByteArray) (w : World) (hn : s.size ≤ 1048576) :
    Calls Try.prog 18 #[.string s] w fun e w' => e = .returned (.bool true) ∧ w' = w := by
  go_enter Try.func18, Try.ntmps18
  go_wp2
  go_ret
  exact ⟨rfl, rfl⟩

theorem zzBytes_no (s : ByteArray) (w : World) (hm : s.size ≤ 9223372036854775807) (hn : 1048576 < s.size) :
    Calls Try.prog 18 #[.string s] w fun e w' => e = .returned (.bool false) ∧ w' = w := by
  go_enter Try.func18, Try.ntmps18
  go_wp2
  go_ret
  exact ⟨rfl, rfl⟩

theorem zzisDigits (s : ByteArray) (w : World) (hs : s.size ≤ 2097152) :
    Calls Try.prog 19 #[.string s] w fun e w' => e = .returned (.bool (M.isDig s.data.toList)) ∧ Below w.heap.size w w' := by
  go_enter Try.func19, Try.ntmps19
  go_wp2_with fail
  refine (Lv.isDigits _ _ hs).mono ?_
  rintro e w1 ⟨rfl, hb⟩
  have HB : Hid (Below w.heap.size w w1) := hb
  clear hb
  go_wp2_with fail
  go_ret
  exact ⟨rfl, HB.out⟩

set_option maxHeartbeats 1000000 in
theorem walk (a0 : ByteArray) (w0 : a0.size ≤ maxLen) (w : World) :
    Calls Try.prog 6 #[.string a0] w fun e w' => e = .returned (.bool true) ∧ Below w.heap.size w w' := by
  unfold maxLen at w0
  by_cases hbig : 1048576 < a0.size
  · go_enter Try.func6, Try.ntmps6
    go_wp2_with (go_at_call 18; refine (zzBytes_no _ _ (by omega) hbig).mono ?_; rintro e w' ⟨rfl, rfl⟩)
    go_ret
    exact ⟨rfl, Below.refl _ _⟩
  · have hle : a0.size ≤ 1048576 := by omega
    cases hc : M.isDig a0.data.toList
    · go_enter Try.func6, Try.ntmps6
      go_wp2_with (go_at_call 18; refine (zzBytes _ _ hle).mono ?_; rintro e w' ⟨rfl, rfl⟩)
      refine (zzisDigits _ _ (by omega)).mono ?_
      rintro e w1 ⟨rfl, hb⟩
      have HB : Hid (Below w'.heap.size w' w1) := hb
      clear hb
      go_wp2_with fail
      go_ret
      exact ⟨rfl, HB.out⟩
    · obtain ⟨l1, l2⟩ := M.digits_law hc
      rw [← Lib.size_eq] at l1
      have hpos : 0 < a0.size := by
        rw [Lib.size_eq]
        exact List.length_pos_iff.2 (M.isDig_all hc).1
      have hsz : (⟨(M.group a0.data.toList).toArray⟩ : ByteArray).size = a0.size + (a0.size - 1) / 3 := by rw [Lv.size_mk, l1]
      have hdt : M.dotAt (⟨(M.group a0.data.toList).toArray⟩ : ByteArray).data.toList = (⟨(M.group a0.data.toList).toArray⟩ : ByteArray).size := by rw [Lv.size_mk]; exact l2
      have HG : Hid (∀ w, Calls Try.prog 12 #[.string a0] w fun e w' => e = .returned (.string ⟨(M.group a0.data.toList).toArray⟩) ∧ Below w.heap.size w w') := fun w => Lv.Group a0 w (by omega)
      generalize (⟨(M.group a0.data.toList).toArray⟩ : ByteArray) = g at *
      have hg2 : g.size ≤ 2097152 := by omega
      have HZ : Hid (g.size = a0.size + (a0.size - 1) / 3) := hsz
      have HD : Hid (M.dotAt g.data.toList = g.size) := hdt
      have ht : ((g.size : Int) == (a0.size : Int) + ((a0.size : Int) - 1) / 3) = true := by
        rw [beq_iff_eq, hsz]; omega
      clear hsz hdt l1 l2
      go_enter Try.func6, Try.ntmps6
      go_wp2_with (go_at_call 18; refine (zzBytes _ _ hle).mono ?_; rintro e w' ⟨rfl, rfl⟩)
      refine (zzisDigits _ _ (by omega)).mono ?_
      rintro e w1 ⟨rfl, hb⟩
      have HB : Hid (Below w'.heap.size w' w1) := hb
      clear hb
      go_wp2_with fail
      refine (HG.out _).mono ?_
      rintro e w2 ⟨rfl, hb⟩
      have HB2 : Hid (Below w'.heap.size w' w2) := HB.out.trans (hb.mono HB.out.size)
      clear hb
      go_wp2_with fail
      refine (Lv.zzDotAt _ _ (by omega)).mono ?_
      rintro e w3 ⟨rfl, rfl⟩
      rw [HD.out]
      go_wp2_with fail
      go_ret
      exact ⟨rfl, HB2.out⟩

/-! ### THE ROW's STEP: WRITTEN OUT: LEAVE IT -/
set_option maxRecDepth 100000 in
theorem lifted (os : Os) (started : os.Started) (H : Type) (enc : TypeId × Value → H) :
    ReturnsInHanded {} Try.checked os 6 .any (Rows.fnIsDigitsGroupLengthSpec.pre6 enc Try.prog Try.f6 Rows.fnIsDigitsGroupLengthRow.domain false) (Rows.fnIsDigitsGroupLengthSpec.post enc Try.prog Try.f6 false true false false) := by
  refine returnsInHanded_of_change (C := Try.checked) own started (by kernel_rfl) Try.func6
    (ChangeSpec.witness6 (enc := enc) (C := Try.checked) false ⟨#[], #[.string ByteArray.empty], []⟩ 8 (by kernel_rfl) (by kernel_rfl) (by kernel_rfl) (by kernel_rfl)) ?_
  intro W base args ds gs before hval0 hW hcnd _
  have hval : ∀ (j : Nat) t v, Try.f6.params[j]? = some t → args[j]? = some v → Value.okWide Try.prog W .any base t v := hval0
  have hW' := hW
  obtain ⟨p, q, hA0, hV, rfl, hfz, hnd⟩ := hW
  have hA : DataW.TrodAll enc Try.prog W 0 (fun _ => true) true Try.f6.params.toList args.toList ds p := hA0
  rw [Try.params6] at hA hval
  obtain ⟨v0, vs0, d0, ds0, p0, q0, hargs, rfl, rfl, h0, r0⟩ := trodAll_cons hA
  obtain ⟨rfl, rfl, rfl⟩ := trodAll_nil r0
  obtain rfl : args = #[v0] := by cases args; simp_all
  obtain ⟨rfl, rfl⟩ := trodVars_none hV
  obtain ⟨a0, rfl, rfl, rfl, w0⟩ := open_string Try.underlying9 (hval 0 9 v0 rfl rfl) h0
  clear hA0 hval0
  refine (walk a0 w0 W).mono fun e W' ⟨he, bel⟩ => ?_
  subst he
  exact ⟨_, rfl, _, _, _, [], _, [], hW', trodAll_mk1 (shut_bool Try.underlying4 _), (trodAll_cons_mk (shut_string Try.underlying9 w0) trodAll_mk0), rfl, bel.frame _, fun h => by cases h⟩

theorem over : Rows.fnIsDigitsGroupLengthRow.holds Try.pinned (OpenSpec.ofChange Rows.fnIsDigitsGroupLengthSpec) :=
  OpenClaim.holds_of_wide 6 Try.f6 rfl rfl rfl rfl rfl rfl rfl ⟨rfl, rfl, rfl, rfl, rfl⟩ rfl rfl rfl rfl rfl (by kernel_rfl) Try.func6 (by kernel_rfl)
    (of_decide_eq_true (by kernel_rfl)) (by unfold Func.isWrapper; first | (rw [if_pos (by decide +kernel)]; kernel_rfl) | (rw [if_neg (by decide +kernel)]; exact ⟨rfl, rfl⟩))
    (fun os started H enc _ => lifted os started H enc)

/-- ████ THE STATEMENT ████ -/
theorem proved : Rows.FnIsDigitsGroupLengthSaid :=
  over
#print axioms proved
end Go.Proofs.Qxb6001116a.fnIsDigitsGroupLength
