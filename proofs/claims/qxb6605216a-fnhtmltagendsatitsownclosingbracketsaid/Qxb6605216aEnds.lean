/-
  Seat b6605216a: FnHTMLTagEndsAtItsOwnClosingBracket behind its length tests.
-/
import Derived.Test.Qxb6605216aTag
import Derived.Test.Qxb6605216aMath2
import Derived.Test.Qxb6605216aJoin
namespace Go.Proofs.Qxb6605216a.Lv
open Go.RowKit
set_option linter.unusedVariables false

theorem zzBytes6 (a1 a2 : Option Addr) (n1 c1 n2 c2 : Nat) (w : World) (hn : n1 + n2 ≤ 1048576) :
    Calls Try.prog 19 #[.slice a1 n1 c1, .slice a2 n2 c2] w fun e w' => e = .returned (.bool true) ∧ w' = w := by
  go_enter Try.func19, Try.ntmps19
  go_wp2
  go_ret
  exact ⟨rfl, rfl⟩

theorem zzBytes6_no (a1 a2 : Option Addr) (n1 c1 n2 c2 : Nat) (w : World) (m1 : n1 ≤ 9223372036854775807) (m2 : n2 ≤ 9223372036854775807) (hn : 1048576 < n1 + n2) :
    Calls Try.prog 19 #[.slice a1 n1 c1, .slice a2 n2 c2] w fun e w' => e = .returned (.bool false) ∧ w' = w := by
  by_cases h1 : 1048576 < n1
  · go_enter Try.func19, Try.ntmps19
    go_wp2
    go_ret
    exact ⟨rfl, rfl⟩
  · by_cases h2 : 1048576 < n2
    · go_enter Try.func19, Try.ntmps19
      go_wp2
      go_ret
      exact ⟨rfl, rfl⟩
    · go_enter Try.func19, Try.ntmps19
      go_wp2
      go_ret
      exact ⟨rfl, rfl⟩

theorem Text.short {w : World} {b o n m : Nat} {f : Nat → Int} (h : Text w b o n f) (hm : m ≤ n) : Text w b o m f := fun i hi => h i (by omega)

set_option maxHeartbeats 4000000 in
set_option maxRecDepth 100000 in
/-- The call behind its length tests: s is not empty. -/
theorem ends_main (b off len0 cap0 : Nat) (f : Nat → Int) (a1 : Option Addr) (len1 cap1 : Nat) (g : Nat → Int) (w : World) (hle0 : len0 ≤ 524288) (hle1 : len1 ≤ 524288) (hz : ¬ len0 = 0) (hb : ∀ i, 0 ≤ f i ∧ f i ≤ 255) (hbg : ∀ i, 0 ≤ g i ∧ g i ≤ 255)
    (ht : Text w b off len0 f) (htl : OptText w a1 len1 g) :
    Calls Try.prog 6 #[.slice (some ⟨b, off, none⟩) len0 cap0, .slice a1 len1 cap1] w fun e w' => e = .returned (.bool true) ∧ Below w.heap.size w w' := by
  have hz' : ((len0 : Int) == 0) = false := by simp; omega
  have hd0 : decide (524288 < (len0 : Int)) = false := by simp; omega
  have HTL : Hid (OptText w a1 len1 g) := htl
  clear htl
  go_enter Try.func6, Try.ntmps6
  go_wp2_with (go_at_call 19; refine (zzBytes6 _ _ _ _ _ _ _ (by omega)).mono ?_; rintro e w' ⟨rfl, rfl⟩)
  refine (zzClone b off len0 cap0 f _ (by omega) ht).mono ?_
  rintro e w1 ⟨rfl, hf⟩
  have H1 : Hid (Text w1 w'.heap.size 0 len0 f) := hf.text
  have B1 : Hid (Below w'.heap.size w' w1) := below_of hf.since
  have HTL1 : Hid (OptText w1 a1 len1 g) := OptText.later HTL.out B1.out
  clear ht hf HTL
  generalize hN : w'.heap.size = N at *
  have HN := (show Hid _ from hN)
  clear hN
  go_wp2_with fail
  refine (zzClone_opt a1 len1 cap1 g _ (by omega) HTL1.out).mono ?_
  rintro e w2 ⟨a2, c2, rfl, ho2, hb2⟩
  have H2 : Hid (Text w2 N 0 len0 f) := Text.later H1.out hb2
  have O2 : Hid (OptText w2 a2 len1 g) := ho2
  have B2 := (show Hid (Below N w' w2) from B1.out.trans (hb2.mono (by have := B1.out.size; have := HN.out; omega)))
  clear H1 HTL1 ho2 hb2 B1
  by_cases hs : M.size f len0 = 0
  · have HS := (show Hid _ from hs)
    clear hs
    go_wp2_with fail
    refine (html_no _ 0 len0 len0 f _ (by omega) (by omega) (by omega) hb (by omega) HS.out H2.out).mono ?_
    rintro e w3 ⟨rfl, rfl⟩
    go_wp2_with fail
    refine (model_no _ 0 len0 len0 f _ (by omega) HS.out H2.out).mono ?_
    rintro e w4 ⟨rfl, rfl⟩
    have hnil := fun w => Lib.run_eql_slice_nil (P := Try.prog) w 22 5 none 0 0 0 0 Try.underlying22
    go_wp2_with fail
    go_ret
    exact ⟨rfl, by rw [HN.out]; exact B2.out⟩
  · obtain ⟨r, hr⟩ : ∃ r, M.size f len0 = r := ⟨_, rfl⟩
    have W := M.size_whole f len0 r hr (by omega)
    obtain ⟨g1, g2, g3⟩ := size_facts hr (by omega)
    obtain ⟨a, ha⟩ : ∃ a, M.nameAt f len0 = a := ⟨_, rfl⟩
    obtain ⟨l, hl2⟩ : ∃ l, M.nameEnd f len0 - M.nameAt f len0 = l := ⟨_, rfl⟩
    have k0 := W.two
    have k1 := W.le
    have k2 : a + l < r := by have := W.nlt; omega
    have k3 : ¬ r = 0 := by omega
    have k4 : ((r : Int) == 0) = false := by simp; omega
    have k5 : (f (r - 1) != 62) = false := by rw [W.close]; rfl
    have k6 := H2.out (r - 1) (by omega)
    rw [Nat.zero_add] at k6
    obtain ⟨p, hp⟩ : ∃ p, r = p + 1 := ⟨r - 1, by omega⟩
    subst hp
    rw [Nat.add_sub_cancel] at k5 k6
    have C1 := (show Hid _ from W.cut)
    have A1 := (show Hid _ from W.alike f (p + 1) (Nat.le_refl _) (fun _ _ => rfl))
    have A2 := (show Hid _ from W.alike (joined (p + 1) f g) (p + 1 + len1) (by omega) (fun i hi => by unfold joined; rw [if_pos hi]))
    have hbj : ∀ i, 0 ≤ joined (p + 1) f g i ∧ joined (p + 1) f g i ≤ 255 := fun i => by
      unfold joined
      split
      · exact hb i
      · exact hbg _
    have HR := (show Hid _ from hr)
    have HA := (show Hid _ from ha)
    have HL := (show Hid _ from hl2)
    clear hs hr ha hl2 g1 g2 g3 W
    go_wp2_with fail
    refine (html_yes _ 0 len0 len0 (p + 1) a l f _ (by omega) (by omega) (by omega) hb (by omega) HR.out k3 HA.out HL.out H2.out).mono ?_
    rintro e w3 ⟨rfl, rfl⟩
    go_wp2_with fail
    refine (model_yes _ 0 len0 len0 (p + 1) a l f _ (by omega) HR.out k3 HA.out HL.out H2.out).mono ?_
    rintro e w4 ⟨rfl, rfl⟩
    go_wp2_with fail
    refine (html_yes _ 0 (p + 1) len0 (p + 1) a l f _ (by omega) (by omega) (by omega) hb (by omega) A1.out.1 k3 (A1.out.2.1.trans HA.out) (by rw [A1.out.2.1, A1.out.2.2]; exact HL.out) (Text.short H2.out (by omega))).mono ?_
    rintro e w5 ⟨rfl, rfl⟩
    have T1 : Hid (Text w5 N a l (fun k => f (a + k))) := Text.part H2.out (by omega)
    go_wp2_with fail
    refine (zzSameBytes _ a _ _ a _ l (fun k => f (a + k)) _ (by omega) T1.out T1.out).mono ?_
    rintro e w6 ⟨rfl, q, rfl⟩
    have H3 : Hid (Text (w5.drewN q) N 0 len0 f) := Text.drewN H2.out q
    go_wp2_with fail
    refine (html_no _ 0 p len0 f _ (by omega) (by omega) (by omega) hb (by omega) (by simpa using C1.out) (Text.short H3.out (by omega))).mono ?_
    rintro e w7 ⟨rfl, hw7⟩
    subst hw7
    go_wp2_with fail
    refine (zzJoin N 0 (p + 1) len0 a2 len1 c2 f g _ (by omega) (by omega) (Text.short H3.out (by omega)) (OptText.later O2.out (below_drewN (Below.refl _ _) q))).mono ?_
    rintro e w8 ⟨rfl, hf8⟩
    have T8 : Hid (Text w8 (w5.drewN q).heap.size 0 (p + 1 + len1) (joined (p + 1) f g)) := hf8.text
    have B8 : Hid (Below (w5.drewN q).heap.size (w5.drewN q) w8) := below_of hf8.since
    have H8 : Hid (Text w8 N 0 len0 f) := Text.later H3.out B8.out
    have BT : Hid (Below N w' w8) := Below.trans (below_drewN B2.out q) (B8.out.mono (by have h1 := B2.out.size; have h2 := HN.out; show N ≤ w5.heap.size; omega))
    clear hf8 B8 B2 O2 H3 H2 T1
    generalize (w5.drewN q).heap.size = N3 at *
    go_wp2_with fail
    refine (html_yes _ 0 (p + 1 + len1) (p + 1 + len1) (p + 1) a l (joined (p + 1) f g) _ (by omega) (by omega) (by omega) hbj (by omega) A2.out.1 k3 (A2.out.2.1.trans HA.out) (by rw [A2.out.2.1, A2.out.2.2]; exact HL.out) T8.out).mono ?_
    rintro e w9 ⟨rfl, hw9⟩
    subst hw9
    have T9 : Hid (Text w9 N a l (fun k => f (a + k))) := Text.part H8.out (by omega)
    have T10 : Hid (Text w9 N3 a l (fun k => f (a + k))) := by
      intro i hi
      have h1 := (Text.part T8.out (show a + l ≤ p + 1 + len1 from by omega)) i hi
      have h2 : joined (p + 1) f g (a + i) = f (a + i) := by unfold joined; rw [if_pos (by omega)]
      simp only [h2] at h1
      exact h1
    go_wp2_with fail
    refine (zzSameBytes _ a _ _ a _ l (fun k => f (a + k)) _ (by omega) T10.out T9.out).mono ?_
    rintro e w10 ⟨rfl, q2, rfl⟩
    go_wp2_with fail
    go_ret
    exact ⟨rfl, by rw [HN.out]; exact below_drewN BT.out q2⟩

end Go.Proofs.Qxb6605216a.Lv
