/-
  Seat b6001116a: 'Rows.FnGroupUnchangedExactlySaid'. The frame is the seat's shell (proof-skeleton.mjs), its last row turned from 'Grown' to 'Below' (the call's own new blocks bear marks); the walk is ours.
-/
import Derived.Test.Qxb6001116aRows
import Derived.WalkKit
import Derived.ProofKit
import Derived.OpenShut
import Derived.ShutString
import Derived.ChangeOld
import Derived.Below
import Derived.Test.Qxb6001116aGroup
import Derived.Test.Qxb6001116aForm
namespace Go.Proofs.Qxb6001116a.fnGroupUnchangedExactly
open Go.ChangeShapes Go.WideShapes Go.ChangeAt Go.RowKit
open Go.ChangeMaps (open_string shut_string)
set_option linter.unusedVariables false

theorem own : ownKnob Try.prog.godebug = none := by kernel_rfl

/-! ### STEP 1: THE WALK -/
theorem zzBytes (s : ByteArray) (w : World) (hn : s.size ≤ 1048576) :
    Calls Try.prog 17 #[.string s] w fun e w' => e = .returned (.bool true) ∧ w' = w := by
  go_enter Try.func17, Try.ntmps17
  go_wp2
  go_ret
  exact ⟨rfl, rfl⟩

theorem zzBytes_no (s : ByteArray) (w : World) (hm : s.size ≤ 9223372036854775807) (hn : 1048576 < s.size) :
    Calls Try.prog 17 #[.string s] w fun e w' => e = .returned (.bool false) ∧ w' = w := by
  go_enter Try.func17, Try.ntmps17
  go_wp2
  go_ret
  exact ⟨rfl, rfl⟩

/-- Whether Group's answer is another string. -/
theorem neq_iff (s : ByteArray) : ((⟨(M.group s.data.toList).toArray⟩ : ByteArray) = s) ↔ M.group s.data.toList = s.data.toList := by
  constructor
  · intro h
    have := congrArg (fun b : ByteArray => b.data.toList) h
    simpa using this
  · intro h
    rw [h, Lv.self_is]

set_option maxHeartbeats 1000000 in
theorem walk (a0 : ByteArray) (w0 : a0.size ≤ maxLen) (w : World) :
    Calls Try.prog 5 #[.string a0] w fun e w' => e = .returned (.bool true) ∧ Below w.heap.size w w' := by
  unfold maxLen at w0
  by_cases hbig : 1048576 < a0.size
  · go_enter Try.func5, Try.ntmps5
    go_wp2_with (go_at_call 17; refine (zzBytes_no _ _ (by omega) hbig).mono ?_; rintro e w' ⟨rfl, rfl⟩)
    go_ret
    exact ⟨rfl, Below.refl _ _⟩
  · have hle : a0.size ≤ 1048576 := by omega
    have hl := M.changed_law a0.data.toList
    rw [← neq_iff] at hl
    have HG : Hid (∀ w, Calls Try.prog 12 #[.string a0] w fun e w' => e = .returned (.string ⟨(M.group a0.data.toList).toArray⟩) ∧ Below w.heap.size w w') := fun w => Lv.Group a0 w (by omega)
    generalize (⟨(M.group a0.data.toList).toArray⟩ : ByteArray) = g at *
    have hway : ((g.toList == a0.toList) = true ∧ M.okL a0.data.toList = false) ∨ ((g.toList == a0.toList) = true ∧ M.okL a0.data.toList = true ∧ M.dotAt a0.data.toList < 4) ∨ ((g.toList == a0.toList) = false ∧ M.okL a0.data.toList = true ∧ 4 ≤ M.dotAt a0.data.toList) := by
      by_cases hok : M.okL a0.data.toList = true
      · by_cases hd : 4 ≤ M.dotAt a0.data.toList
        · refine Or.inr (Or.inr ⟨?_, hok, hd⟩)
          have hne : ¬ g = a0 := fun e => (hl.1 e) ⟨hok, hd⟩
          rw [beq_eq_false_iff_ne]
          intro e
          apply hne
          rw [Lib.toList_data, Lib.toList_data] at e
          exact Lv.bytes_ext e
        · exact Or.inr (Or.inl ⟨by rw [hl.2 (fun x => hd x.2)]; simp, hok, by omega⟩)
      · exact Or.inl ⟨by rw [hl.2 (fun x => hok x.1)]; simp, by simpa using hok⟩
    clear hl
    rcases hway with ⟨h1, h2⟩ | ⟨h1, h2, h3⟩ | ⟨h1, h2, h3⟩
    · go_enter Try.func5, Try.ntmps5
      go_wp2_with (go_at_call 17; refine (zzBytes _ _ hle).mono ?_; rintro e w' ⟨rfl, rfl⟩)
      refine (HG.out _).mono ?_
      rintro e w1 ⟨rfl, hb⟩
      have HB : Hid (Below w'.heap.size w' w1) := hb
      clear hb
      go_wp2_with fail
      refine (Lv.zzValidForm _ _ (by omega)).mono ?_
      rintro e w2 ⟨rfl, rfl⟩
      go_wp2_with fail
      go_ret
      exact ⟨rfl, HB.out⟩
    · have h3' : ((M.dotAt a0.data.toList : Nat) : Int) < 4 := by omega
      have h3'' : decide ((4 : Int) ≤ ((M.dotAt a0.data.toList : Nat) : Int)) = false := by simp; omega
      go_enter Try.func5, Try.ntmps5
      go_wp2_with (go_at_call 17; refine (zzBytes _ _ hle).mono ?_; rintro e w' ⟨rfl, rfl⟩)
      refine (HG.out _).mono ?_
      rintro e w1 ⟨rfl, hb⟩
      have HB : Hid (Below w'.heap.size w' w1) := hb
      clear hb
      go_wp2_with fail
      refine (Lv.zzValidForm _ _ (by omega)).mono ?_
      rintro e w2 ⟨rfl, rfl⟩
      go_wp2_with fail
      refine (Lv.zzDotAt _ _ (by omega)).mono ?_
      rintro e w3 ⟨rfl, rfl⟩
      go_wp2_with fail
      go_ret
      exact ⟨rfl, HB.out⟩
    · have h3'' : decide ((4 : Int) ≤ ((M.dotAt a0.data.toList : Nat) : Int)) = true := by simp; omega
      go_enter Try.func5, Try.ntmps5
      go_wp2_with (go_at_call 17; refine (zzBytes _ _ hle).mono ?_; rintro e w' ⟨rfl, rfl⟩)
      refine (HG.out _).mono ?_
      rintro e w1 ⟨rfl, hb⟩
      have HB : Hid (Below w'.heap.size w' w1) := hb
      clear hb
      go_wp2_with fail
      refine (Lv.zzValidForm _ _ (by omega)).mono ?_
      rintro e w2 ⟨rfl, rfl⟩
      go_wp2_with fail
      refine (Lv.zzDotAt _ _ (by omega)).mono ?_
      rintro e w3 ⟨rfl, rfl⟩
      go_wp2_with fail
      go_ret
      exact ⟨rfl, HB.out⟩

/-! ### THE ROW's STEP: WRITTEN OUT: LEAVE IT -/
set_option maxRecDepth 100000 in
theorem lifted (os : Os) (started : os.Started) (H : Type) (enc : TypeId × Value → H) :
    ReturnsInHanded {} Try.checked os 5 .any (Rows.fnGroupUnchangedExactlySpec.pre6 enc Try.prog Try.f5 Rows.fnGroupUnchangedExactlyRow.domain false) (Rows.fnGroupUnchangedExactlySpec.post enc Try.prog Try.f5 false true false false) := by
  refine returnsInHanded_of_change (C := Try.checked) own started (by kernel_rfl) Try.func5
    (ChangeSpec.witness6 (enc := enc) (C := Try.checked) false ⟨#[], #[.string ByteArray.empty], []⟩ 8 (by kernel_rfl) (by kernel_rfl) (by kernel_rfl) (by kernel_rfl)) ?_
  intro W base args ds gs before hval0 hW hcnd _
  have hval : ∀ (j : Nat) t v, Try.f5.params[j]? = some t → args[j]? = some v → Value.okWide Try.prog W .any base t v := hval0
  have hW' := hW
  obtain ⟨p, q, hA0, hV, rfl, hfz, hnd⟩ := hW
  have hA : DataW.TrodAll enc Try.prog W 0 (fun _ => true) true Try.f5.params.toList args.toList ds p := hA0
  rw [Try.params5] at hA hval
  obtain ⟨v0, vs0, d0, ds0, p0, q0, hargs, rfl, rfl, h0, r0⟩ := trodAll_cons hA
  obtain ⟨rfl, rfl, rfl⟩ := trodAll_nil r0
  obtain rfl : args = #[v0] := by cases args; simp_all
  obtain ⟨rfl, rfl⟩ := trodVars_none hV
  obtain ⟨a0, rfl, rfl, rfl, w0⟩ := open_string Try.underlying9 (hval 0 9 v0 rfl rfl) h0
  clear hA0 hval0
  refine (walk a0 w0 W).mono fun e W' ⟨he, bel⟩ => ?_
  subst he
  exact ⟨_, rfl, _, _, _, [], _, [], hW', trodAll_mk1 (shut_bool Try.underlying4 _), (trodAll_cons_mk (shut_string Try.underlying9 w0) trodAll_mk0), rfl, bel.frame _, fun h => by cases h⟩

theorem over : Rows.fnGroupUnchangedExactlyRow.holds Try.pinned (OpenSpec.ofChange Rows.fnGroupUnchangedExactlySpec) :=
  OpenClaim.holds_of_wide 5 Try.f5 rfl rfl rfl rfl rfl rfl rfl ⟨rfl, rfl, rfl, rfl, rfl⟩ rfl rfl rfl rfl rfl (by kernel_rfl) Try.func5 (by kernel_rfl)
    (of_decide_eq_true (by kernel_rfl)) (by unfold Func.isWrapper; first | (rw [if_pos (by decide +kernel)]; kernel_rfl) | (rw [if_neg (by decide +kernel)]; exact ⟨rfl, rfl⟩))
    (fun os started H enc _ => lifted os started H enc)

/-- ████ THE STATEMENT ████ -/
theorem proved : Rows.FnGroupUnchangedExactlySaid :=
  over
#print axioms proved
end Go.Proofs.Qxb6001116a.fnGroupUnchangedExactly
