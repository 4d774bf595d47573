/-
  Seat b6001238a: 'Rows.FnIsTokenListWithinNeverSplitsTokensSaid'. The frame is the guide's own way (howto/shells/bytes-and-an-int) at a slice of strings and an int; the walk is ours (Qxb6001238aLaw).
-/
import Derived.Test.Qxb6001238aRows
import Derived.WalkKit
import Derived.ProofKit
import Derived.OpenShut
import Derived.ShutString
import Derived.ChangeOld
import Derived.Below
import Derived.SliceStrings
import Derived.Test.Qxb6001238aLaw
namespace Go.Proofs.Qxb6001238a.fnIsTokenListWithinNeverSplitsTokens
open Go.ChangeShapes Go.WideShapes Go.ChangeAt Go.RowKit
set_option linter.unusedVariables false

theorem own : ownKnob Try.prog.godebug = none := by kernel_rfl
theorem laidOut : laidOutB Try.prog = true := by kernel_rfl

/-- What the walk is told of a slice of strings that came in: it is nil; or it leads to a row of 'cap' cells, the strings 'ss'. -/
def IsList (w : World) (a : Option Addr) (len cap : Nat) (ss : List ByteArray) : Prop :=
  (a = none ∧ len = 0 ∧ cap = 0 ∧ ss = []) ∨
  ∃ x, a = some x ∧ len ≤ cap ∧ cap ≤ maxLen ∧ ss.length = cap ∧ (∀ i, i < ss.length → w.cell? (x.add i) = some (.string (ss.getD i ByteArray.empty))) ∧ ∀ s ∈ ss, s.size ≤ maxLen

theorem addr_add (b off i : Nat) : (⟨b, off, none⟩ : Addr).add i = ⟨b, off + i, none⟩ := by
  unfold Addr.add
  by_cases h : i = 0
  · subst h; simp
  · simp [h]

theorem size_getD (ss : List ByteArray) (h : ∀ s ∈ ss, s.size ≤ maxLen) (i : Nat) : (ss.getD i ByteArray.empty).size ≤ 9223372036854775807 := by
  rw [List.getD_eq_getElem?_getD]
  by_cases hi : i < ss.length
  · rw [List.getElem?_eq_getElem hi]
    have := h _ (List.getElem_mem hi)
    unfold maxLen at this
    simpa using this
  · rw [List.getElem?_eq_none (by omega)]
    exact Nat.zero_le _

/-! ### STEP 1: THE WALK -/
theorem walk (a0 : Option Addr) (len0 cap0 : Nat) (z0 : List ByteArray) (a1 : Int) (w : World) (w0 : IsList w a0 len0 cap0 z0) (w1 : (Lit.int .i64 a1).wf = true) :
    Calls Try.prog 5 #[.slice a0 len0 cap0, .int .i64 a1] w fun e w' => e = .returned (.bool true) ∧ Below w.heap.size w w' := by
  have hb : -9223372036854775808 ≤ a1 ∧ a1 ≤ 9223372036854775807 := by
    have := bounds_i64 w1
    omega
  rcases w0 with ⟨rfl, rfl, rfl, rfl⟩ | ⟨x, rfl, hl, hm, hz, hcell, hws⟩
  · exact Lv.law none 0 0 a1 (fun _ => ByteArray.empty) w (by omega) (fun _ => Nat.zero_le _) hb.1 hb.2 (Or.inl rfl) (fun _ => rfl)
  · unfold maxLen at hm
    refine Lv.law (some x) len0 cap0 a1 (fun i => z0.getD i ByteArray.empty) w (by omega) (size_getD z0 hws) hb.1 hb.2 ?_ (fun h => by cases h)
    by_cases h0 : len0 = 0
    · exact Or.inl h0
    · obtain ⟨b, off, spot⟩ := x
      have hspot : spot = none := by simpa [Addr.add] using World.cell?_spot (hcell 0 (by omega))
      subst hspot
      exact Or.inr ⟨b, off, rfl, fun i hi => by rw [← addr_add]; exact hcell i (by omega)⟩

/-! ### THE ROW's STEP: WRITTEN OUT: LEAVE IT -/
set_option maxRecDepth 100000 in
theorem lifted (os : Os) (started : os.Started) (H : Type) (enc : TypeId × Value → H) :
    ReturnsInHanded {} Try.checked os 5 .any (Rows.fnIsTokenListWithinNeverSplitsTokensSpec.pre6 enc Try.prog Try.f5 Rows.fnIsTokenListWithinNeverSplitsTokensRow.domain false) (Rows.fnIsTokenListWithinNeverSplitsTokensSpec.post enc Try.prog Try.f5 false true false false) := by
  refine returnsInHanded_of_change (C := Try.checked) own started (by kernel_rfl) Try.func5
    (ChangeSpec.witness6 (enc := enc) (C := Try.checked) false ⟨#[], #[.slice none 0 0, .int .i64 0], []⟩ 8 (by kernel_rfl) (by kernel_rfl) (by kernel_rfl) (by kernel_rfl)) ?_
  intro W base args ds gs before hval0 hW hcnd _
  have hval : ∀ (j : Nat) t v, Try.f5.params[j]? = some t → args[j]? = some v → Value.okWide Try.prog W .any base t v := hval0
  have hW' := hW
  obtain ⟨p, q, hA0, hV, rfl, hfz, hnd⟩ := hW
  have hA : DataW.TrodAll enc Try.prog W 0 (fun _ => true) true Try.f5.params.toList args.toList ds p := hA0
  rw [Try.params5] at hA hval
  obtain ⟨v0, vs0, d0, ds0, p0, q0, hargs, rfl, rfl, h0, r0⟩ := trodAll_cons hA
  obtain ⟨v1, vs1, d1, ds1, p1, q1, rfl, rfl, rfl, h1, r1⟩ := trodAll_cons r0
  obtain ⟨rfl, rfl, rfl⟩ := trodAll_nil r1
  obtain rfl : args = #[v0, v1] := by cases args; simp_all
  obtain ⟨rfl, rfl⟩ := trodVars_none hV
  obtain ⟨a0, len0, cap0, rfl⟩ := okWide_slice Try.underlying26 (hval 0 26 v0 rfl rfl)
  have k0 := h0
  have lt0 : ∀ x ∈ p0, x.block < W.heap.size := by obtain ⟨m, hm⟩ := k0; exact DataW.trod_lt m _ _ _ hm
  obtain ⟨z0, w0⟩ : ∃ ss, IsList W a0 len0 cap0 ss := by
    obtain ⟨fuel, hf⟩ := h0
    rcases open_strings Try.underlying26 Try.underlying9 (by kernel_rfl) hf with ⟨hcs, _⟩ | ⟨x, l, c, zs, hcs, _, hl, hm, hz, _, hcell, hwz⟩
    · simp [Value.cells] at hcs
      obtain ⟨rfl, rfl, rfl⟩ := hcs
      exact ⟨[], .inl ⟨rfl, rfl, rfl, rfl⟩⟩
    · simp [Value.cells] at hcs
      obtain ⟨rfl, rfl, rfl⟩ := hcs
      exact ⟨zs, .inr ⟨_, rfl, hl, hm, by simpa using hz, hcell, hwz⟩⟩
  obtain ⟨a1, rfl, rfl, rfl, w1⟩ := open_int Try.underlying3 (hval 1 3 v1 rfl rfl) h1
  clear hA0 hval0
  refine (walk a0 len0 cap0 z0 a1 W w0 w1).mono fun e W' ⟨he, bel⟩ => ?_
  subst he
  exact ⟨_, rfl, _, _, _, [], _, [], hW', trodAll_mk1 (shut_bool Try.underlying4 _), (trodAll_cons_mk (Below.trod laidOut (by kernel_rfl) (of_decide_eq_true (by kernel_rfl)) k0 bel lt0) (trodAll_cons_mk (shut_int Try.underlying3 w1) trodAll_mk0)), rfl, bel.frame _, fun h => by cases h⟩

theorem over : Rows.fnIsTokenListWithinNeverSplitsTokensRow.holds Try.pinned (OpenSpec.ofChange Rows.fnIsTokenListWithinNeverSplitsTokensSpec) :=
  OpenClaim.holds_of_wide 5 Try.f5 rfl rfl rfl rfl rfl rfl rfl ⟨rfl, rfl, rfl, rfl, rfl⟩ rfl rfl rfl rfl rfl (by kernel_rfl) Try.func5 (by kernel_rfl)
    (of_decide_eq_true (by kernel_rfl)) (by unfold Func.isWrapper; first | (rw [if_pos (by decide +kernel)]; kernel_rfl) | (rw [if_neg (by decide +kernel)]; exact ⟨rfl, rfl⟩))
    (fun os started H enc _ => lifted os started H enc)

/-- ████ THE STATEMENT ████ -/
theorem proved : Rows.FnIsTokenListWithinNeverSplitsTokensSaid := over
#print axioms proved
end Go.Proofs.Qxb6001238a.fnIsTokenListWithinNeverSplitsTokens
