/-
  Seat b6605216a: 'Rows.FnHTMLTagMatchesCommonMarkGrammarSaid'. The frame is the seat's shell (proof-skeleton.mjs); the walk is ours.
-/
import Derived.Test.Qxb6605216aRows
import Derived.WalkKit
import Derived.ProofKit
import Derived.OpenShut
import Derived.ShutString
import Derived.ChangeOld
import Derived.Below
import Derived.Test.Qxb6605216aTag
namespace Go.Proofs.Qxb6605216a.fnHTMLTagMatchesCommonMarkGrammar
open Go.ChangeShapes Go.WideShapes Go.ChangeAt Go.RowKit
open Go.ChangeMaps (open_string shut_string)
set_option linter.unusedVariables false

theorem own : ownKnob Try.prog.godebug = none := by kernel_rfl
theorem laidOut : laidOutB Try.prog = true := by kernel_rfl

/-- WHAT THE WALK IS TOLD OF A SLICE OF INTEGERS THAT CAME IN: it is nil; or it leads to a row of 'cap' cells, the numbers 'zs' (the first 'len' are its elements, the rest its spare room), each fitting its kind. -/
def IsRow (k : IntKind) (w : World) (a : Option Addr) (len cap : Nat) (zs : List Int) : Prop :=
  (a = none ∧ len = 0 ∧ cap = 0 ∧ zs = []) ∨
  ∃ x, a = some x ∧ len ≤ cap ∧ cap ≤ maxLen ∧ zs.length = cap ∧ (∀ i, i < zs.length → w.cell? (x.add i) = some (.int k (zs.getD i 0))) ∧ ∀ n ∈ zs, (Lit.int k n).wf = true

/-! ### STEP 1: THE WALK -/
open Go.Proofs.Qxb6605216a.Lv in
theorem zzBytes (a : Option Addr) (n c : Nat) (w : World) (hn : n ≤ 1048576) :
    Calls Try.prog 15 #[.slice a n c] w fun e w' => e = .returned (.bool true) ∧ w' = w := by
  go_enter Try.func15, Try.ntmps15
  go_wp2
  go_ret
  exact ⟨rfl, rfl⟩

theorem zzBytes_no (a : Option Addr) (n c : Nat) (w : World) (hn : 1048576 < n) :
    Calls Try.prog 15 #[.slice a n c] w fun e w' => e = .returned (.bool false) ∧ w' = w := by
  go_enter Try.func15, Try.ntmps15
  go_wp2
  go_ret
  exact ⟨rfl, rfl⟩

set_option maxHeartbeats 1000000 in
theorem walk (a0 : Option Addr) (len0 cap0 : Nat) (z0 : List Int) (w : World) (w0 : IsRow .u8 w a0 len0 cap0 z0) :
    Calls Try.prog 5 #[.slice a0 len0 cap0] w fun e w' => e = .returned (.bool true) ∧ Below w.heap.size w w' := by
  by_cases hbig : 1048576 < len0
  · go_enter Try.func5, Try.ntmps5
    go_wp2_with (go_at_call 15; refine (zzBytes_no _ _ _ _ hbig).mono ?_; rintro e w' ⟨rfl, rfl⟩)
    go_ret
    exact ⟨rfl, Below.refl _ _⟩
  · have hle : len0 ≤ 1048576 := by omega
    by_cases hz : len0 = 0
    · subst hz
      go_enter Try.func5, Try.ntmps5
      go_wp2_with (go_at_call 15; refine (zzBytes _ _ _ _ (by omega)).mono ?_; rintro e w' ⟨rfl, rfl⟩)
      go_ret
      exact ⟨rfl, Below.refl _ _⟩
    · rcases w0 with ⟨_, h, _, _⟩ | ⟨x, rfl, hl, hm, hzl, hcell, hwz⟩
      · exact absurd h hz
      · have hz' : ((len0 : Int) == 0) = false := by simp; omega
        obtain ⟨b, off, spot⟩ := x
        have hspot : spot = none := by simpa [Addr.add] using World.cell?_spot (hcell 0 (by omega))
        subst hspot
        have ht : Lv.Text w b off len0 (fun i => z0.getD i 0) := fun i hi => by rw [← Lv.addr_add]; exact hcell i (by omega)
        have hb : ∀ i, 0 ≤ (fun i => z0.getD i 0) i ∧ (fun i => z0.getD i 0) i ≤ 255 := fun i => by simpa using range_u8 hwz i
        generalize (fun i => z0.getD i 0) = f at ht hb
        clear hcell hwz
        go_enter Try.func5, Try.ntmps5
        go_wp2_with (go_at_call 15; refine (zzBytes _ _ _ _ hle).mono ?_; rintro e w' ⟨rfl, rfl⟩)
        refine (Lv.zzClone b off len0 cap0 f _ (by omega) ht).mono ?_
        rintro e w1 ⟨rfl, hf⟩
        have ht1 := hf.text
        have hbel := Lv.below_of hf.since
        clear ht
        have H1 := (show Hid _ from ht1)
        have H2 := (show Hid _ from hbel)
        clear ht1 hbel hf
        by_cases hs : M.size f len0 = 0
        · have HS := (show Hid _ from hs)
          clear hs
          go_wp2_with fail
          refine (Lv.html_no _ 0 len0 len0 f _ (by omega) (by omega) (by omega) hb (by omega) HS.out H1.out).mono ?_
          rintro e w2 ⟨rfl, rfl⟩
          go_wp2_with fail
          refine (Lv.model_no _ 0 len0 len0 f _ (by omega) HS.out H1.out).mono ?_
          rintro e w3 ⟨rfl, rfl⟩
          have hnil := fun w => Lib.run_eql_slice_nil (P := Try.prog) w 22 5 none 0 0 0 0 Try.underlying22
          go_wp2_with fail
          go_ret
          exact ⟨rfl, H2.out⟩
        · obtain ⟨r, hr⟩ : ∃ r, M.size f len0 = r := ⟨_, rfl⟩
          obtain ⟨g1, g2, g3⟩ := Lv.size_facts hr (by omega)
          obtain ⟨a, ha⟩ : ∃ a, M.nameAt f len0 = a := ⟨_, rfl⟩
          obtain ⟨l, hl2⟩ : ∃ l, M.nameEnd f len0 - M.nameAt f len0 = l := ⟨_, rfl⟩
          have k1 : a < len0 := by omega
          have k2 : a + l ≤ len0 := by omega
          have k3 : ¬ r = 0 := by omega
          have k4 : ((r : Int) == 0) = false := by simp; omega
          have k5 : ¬ len0 = a := by omega
          have HR := (show Hid _ from hr)
          have HA := (show Hid _ from ha)
          have HL := (show Hid _ from hl2)
          clear hs hr ha hl2 g1 g2 g3
          go_wp2_with fail
          refine (Lv.html_yes _ 0 len0 len0 r a l f _ (by omega) (by omega) (by omega) hb (by omega) HR.out k3 HA.out HL.out H1.out).mono ?_
          rintro e w2 ⟨rfl, rfl⟩
          go_wp2_with fail
          refine (Lv.model_yes _ 0 len0 len0 r a l f _ (by omega) HR.out k3 HA.out HL.out H1.out).mono ?_
          rintro e w3 ⟨rfl, rfl⟩
          go_wp2_with fail
          have HT := (show Hid _ from Lv.Text.part H1.out k2)
          refine (Lv.zzSameBytes _ a _ _ a _ l (fun k => f (a + k)) _ (by omega) HT.out HT.out).mono ?_
          rintro e w4 ⟨rfl, q, rfl⟩
          go_wp2_with fail
          go_ret
          exact ⟨rfl, Lv.below_drewN H2.out q⟩

/-! ### THE ROW's STEP: WRITTEN OUT: LEAVE IT -/
set_option maxRecDepth 100000 in
theorem lifted (os : Os) (started : os.Started) (H : Type) (enc : TypeId × Value → H) :
    ReturnsInHanded {} Try.checked os 5 .any (Rows.fnHTMLTagMatchesCommonMarkGrammarSpec.pre6 enc Try.prog Try.f5 Rows.fnHTMLTagMatchesCommonMarkGrammarRow.domain false) (Rows.fnHTMLTagMatchesCommonMarkGrammarSpec.post enc Try.prog Try.f5 false true false false) := by
  refine returnsInHanded_of_change (C := Try.checked) own started (by kernel_rfl) Try.func5
    (ChangeSpec.witness6 (enc := enc) (C := Try.checked) false ⟨#[], #[.slice none 0 0], []⟩ 8 (by kernel_rfl) (by kernel_rfl) (by kernel_rfl) (by kernel_rfl)) ?_
  intro W base args ds gs before hval0 hW hcnd _
  have hval : ∀ (j : Nat) t v, Try.f5.params[j]? = some t → args[j]? = some v → Value.okWide Try.prog W .any base t v := hval0
  have hW' := hW
  obtain ⟨p, q, hA0, hV, rfl, hfz, hnd⟩ := hW
  have hA : DataW.TrodAll enc Try.prog W 0 (fun _ => true) true Try.f5.params.toList args.toList ds p := hA0
  rw [Try.params5] at hA hval
  obtain ⟨v0, vs0, d0, ds0, p0, q0, hargs, rfl, rfl, h0, r0⟩ := trodAll_cons hA
  obtain ⟨rfl, rfl, rfl⟩ := trodAll_nil r0
  obtain rfl : args = #[v0] := by cases args; simp_all
  obtain ⟨rfl, rfl⟩ := trodVars_none hV
  obtain ⟨a0, len0, cap0, rfl⟩ := okWide_slice Try.underlying22 (hval 0 22 v0 rfl rfl)
  have k0 := h0
  have lt0 : ∀ x ∈ p0, x.block < W.heap.size := by obtain ⟨m, hm⟩ := k0; exact DataW.trod_lt m _ _ _ hm
  obtain ⟨z0, w0⟩ : ∃ zs, IsRow .u8 W a0 len0 cap0 zs := by
    obtain ⟨fuel, hf⟩ := h0
    rcases open_ints Try.underlying22 Try.underlying5 (by kernel_rfl) hf with ⟨hcs, _⟩ | ⟨x, l, c, zs, hcs, _, hl, hm, hz, _, hcell, hwz⟩
    · simp [Value.cells] at hcs
      obtain ⟨rfl, rfl, rfl⟩ := hcs
      exact ⟨[], .inl ⟨rfl, rfl, rfl, rfl⟩⟩
    · simp [Value.cells] at hcs
      obtain ⟨rfl, rfl, rfl⟩ := hcs
      exact ⟨zs, .inr ⟨_, rfl, hl, hm, by simpa using hz, hcell, hwz⟩⟩
  clear hA0 hval0
  refine (walk a0 len0 cap0 z0 W w0).mono fun e W' ⟨he, bel⟩ => ?_
  subst he
  exact ⟨_, rfl, _, _, _, [], _, [], hW', trodAll_mk1 (shut_bool Try.underlying4 _), (trodAll_cons_mk (Below.trod laidOut (by kernel_rfl) (of_decide_eq_true (by kernel_rfl)) k0 bel lt0) trodAll_mk0), rfl, bel.frame _, fun h => by cases h⟩

theorem over : Rows.fnHTMLTagMatchesCommonMarkGrammarRow.holds Try.pinned (OpenSpec.ofChange Rows.fnHTMLTagMatchesCommonMarkGrammarSpec) :=
  OpenClaim.holds_of_wide 5 Try.f5 rfl rfl rfl rfl rfl rfl rfl ⟨rfl, rfl, rfl, rfl, rfl⟩ rfl rfl rfl rfl rfl (by kernel_rfl) Try.func5 (by kernel_rfl)
    (of_decide_eq_true (by kernel_rfl)) (by unfold Func.isWrapper; first | (rw [if_pos (by decide +kernel)]; kernel_rfl) | (rw [if_neg (by decide +kernel)]; exact ⟨rfl, rfl⟩))
    (fun os started H enc _ => lifted os started H enc)

/-- ████ THE STATEMENT ████ -/
theorem proved : Rows.FnHTMLTagMatchesCommonMarkGrammarSaid := over
#print axioms proved
end Go.Proofs.Qxb6605216a.fnHTMLTagMatchesCommonMarkGrammar
