/-
  Seat b6001116a: strings.Cut at ".", split.
-/
import Derived.Test.Qxb6001116aLeaves
import Derived.Test.Qxb6001116aShelf
import Derived.Lib.IndexLaws
import Derived.RegionTactic
namespace Go.Proofs.Qxb6001116a.Lv
open Go.RowKit
set_option linter.unusedVariables false

theorem idx_miss : ∀ {l : List UInt8}, Lib.indexByte l 46 = -1 → M.whole l = l ∧ M.frac l = [] ∧ M.dot l = false := by
  intro l h
  refine M.whole_of_no46 fun c hc e => ?_
  obtain ⟨k, hk, hck⟩ := List.mem_iff_getElem.1 hc
  exact Lib.indexByte_none h k (by rw [List.getElem?_eq_getElem hk, hck, e])

theorem idx_hit : ∀ {l : List UInt8} {i : Nat}, Lib.indexByte l 46 = (i : Int) → M.whole l = l.take i ∧ M.frac l = l.drop (i + 1) ∧ M.dot l = true ∧ i < l.length
  | [], i, h => by simp [Lib.indexByte] at h
  | c :: l, i, h => by
    unfold Lib.indexByte at h
    by_cases hc : c = 46
    · subst hc
      simp at h
      have : i = 0 := by omega
      subst this
      simp [M.whole, M.frac, M.dot]
    · rw [if_neg (by simpa using hc)] at h
      split at h
      · omega
      · have hge := Lib.indexByte_ge l 46
        rename_i hl
        have hne : Lib.indexByte l 46 ≠ -1 := fun e => hl (by simp [e])
        obtain ⟨i', rfl⟩ : ∃ i', i = i' + 1 := ⟨i - 1, by omega⟩
        obtain ⟨h1, h2, h3, h4⟩ := idx_hit (l := l) (i := i') (by omega)
        simp [M.whole, M.frac, M.dot, hc, h1, h2, h3]
        omega

theorem bytes_ext {a b : ByteArray} (h : a.data.toList = b.data.toList) : a = b := by
  cases a with
  | mk x =>
    cases b with
    | mk y =>
      have : x = y := Array.toList_inj.1 h
      rw [this]

theorem take_is (s : ByteArray) (i : Nat) : (⟨(s.data.toList.take i).toArray⟩ : ByteArray) = s.extract 0 i := by
  apply bytes_ext
  rw [Lib.extract_data]
  simp
theorem drop_is (s : ByteArray) (i : Nat) : (⟨(s.data.toList.drop i).toArray⟩ : ByteArray) = s.extract i s.size := by
  apply bytes_ext
  rw [Lib.extract_data, List.take_of_length_le (by rw [List.length_drop, ← Lib.size_eq]; exact Nat.le_refl _)]
theorem self_is (s : ByteArray) : (⟨s.data.toList.toArray⟩ : ByteArray) = s := by
  apply bytes_ext; simp

set_option maxHeartbeats 2000000 in
set_option maxRecDepth 100000 in
theorem liteCut (s : ByteArray) (w : World) (hs : s.size ≤ 2097152) :
    Calls Try.prog 35 #[.string s, .string ⟨#[46]⟩] w fun e w' => e = .returned (.tuple #[.string ⟨(M.whole s.data.toList).toArray⟩, .string ⟨(M.frac s.data.toList).toArray⟩, .bool (M.dot s.data.toList)]) ∧ ∃ n, w' = w.drewN n := by
  have hge := Lib.indexByte_ge s.data.toList 46
  by_cases hm : Lib.indexByte s.data.toList 46 = -1
  · obtain ⟨e1, e2, e3⟩ := idx_miss hm
    rw [e1, e2, e3, self_is]
    have HM := (show Hid _ from hm)
    clear hm e1 e2 e3 hge
    go_enter Try.func35, Try.ntmps35
    go_wp2_with (go_at_call 41; refine (Try.stringslite_Index_one _ _ _).mono ?_; rintro e w' ⟨rfl, rfl⟩; rw [HM.out])
    go_ret3
    exact ⟨rfl, 0, rfl⟩
  · obtain ⟨i, hi⟩ := Int.eq_ofNat_of_zero_le (show 0 ≤ Lib.indexByte s.data.toList 46 from by omega)
    obtain ⟨e1, e2, e3, e4⟩ := idx_hit hi
    rw [e1, e2, e3, take_is, drop_is]
    rw [← Lib.size_eq] at e4
    have HI := (show Hid _ from hi)
    have c1 : (0 : Int) ≤ ↑i := by omega
    have c2 : (↑i : Int) ≤ ↑s.size := by omega
    have c3 : (0 : Int) ≤ ↑i + 1 := by omega
    have c4 : (↑i + 1 : Int) ≤ ↑s.size := by omega
    clear hi e1 e2 e3 hge hm
    go_enter Try.func35, Try.ntmps35
    go_wp2_with (go_at_call 41; refine (Try.stringslite_Index_one _ _ _).mono ?_; rintro e w' ⟨rfl, rfl⟩; rw [HI.out])
    go_region
    go_wp2
    go_ret3
    exact ⟨rfl, 1, rfl⟩

set_option maxHeartbeats 1000000 in
theorem stringsCut (s : ByteArray) (w : World) (hs : s.size ≤ 2097152) :
    Calls Try.prog 32 #[.string s, .string ⟨#[46]⟩] w fun e w' => e = .returned (.tuple #[.string ⟨(M.whole s.data.toList).toArray⟩, .string ⟨(M.frac s.data.toList).toArray⟩, .bool (M.dot s.data.toList)]) ∧ ∃ n, w' = w.drewN n := by
  go_enter Try.func32, Try.ntmps32
  go_wp2_with (go_at_call 35; refine (liteCut _ _ hs).mono ?_; rintro e w' ⟨rfl, n, rfl⟩)
  go_ret3
  exact ⟨rfl, n, rfl⟩

theorem whole_len (l : List UInt8) : (M.whole l).length ≤ l.length := by
  have e := congrArg List.length (M.cut_eq l)
  rw [List.length_append] at e
  omega
theorem frac_len (l : List UInt8) : (M.frac l).length ≤ l.length := by
  induction l with
  | nil => exact Nat.le_refl _
  | cons c l ih =>
    by_cases h : c = 46
    · simp [M.frac, h]
    · simp [M.frac, h]; omega
theorem size_mk (l : List UInt8) : (⟨l.toArray⟩ : ByteArray).size = l.length := by rw [Lib.size_eq]

def splitV (l : List UInt8) : Value := .tuple #[.string ⟨(M.whole l).toArray⟩, .string ⟨(M.frac l).toArray⟩, .bool (M.okL l)]

set_option maxHeartbeats 1000000 in
theorem split (s : ByteArray) (w : World) (hs : s.size ≤ 2097152) :
    Calls Try.prog 25 #[.string s] w fun e w' => e = .returned (splitV s.data.toList) ∧ Below w.heap.size w w' := by
  have hw : (⟨(M.whole s.data.toList).toArray⟩ : ByteArray).size ≤ 2097152 := by rw [size_mk]; have := whole_len s.data.toList; rw [← Lib.size_eq] at this; omega
  have hf : (⟨(M.frac s.data.toList).toArray⟩ : ByteArray).size ≤ 2097152 := by rw [size_mk]; have := frac_len s.data.toList; rw [← Lib.size_eq] at this; omega
  have HO : Hid (M.okL s.data.toList = (M.isDig (M.whole s.data.toList) && (!M.dot s.data.toList || M.isDig (M.frac s.data.toList)))) := rfl
  unfold splitV
  generalize M.okL s.data.toList = ok at *
  have HC := (show Hid _ from fun w => stringsCut s w hs)
  generalize M.whole s.data.toList = lw at *
  generalize M.frac s.data.toList = lf at *
  generalize M.dot s.data.toList = d at *
  cases h1 : M.isDig lw
  · have e : ok = false := by rw [HO.out, h1]; rfl
    subst e
    go_enter Try.func25, Try.ntmps25
    go_wp2_with fail
    refine (HC.out _).mono ?_
    rintro e w1 ⟨rfl, n, rfl⟩
    go_wp2_with fail
    refine (isDigits _ _ hw).mono ?_
    rintro e w2 ⟨rfl, hb⟩
    have HB := (show Hid _ from hb)
    clear hb
    go_wp2_with fail
    go_ret3
    exact ⟨rfl, (below_drewN (Below.refl _ _) n).trans HB.out⟩
  · cases d
    · have e : ok = true := by rw [HO.out, h1]; rfl
      subst e
      go_enter Try.func25, Try.ntmps25
      go_wp2_with fail
      refine (HC.out _).mono ?_
      rintro e w1 ⟨rfl, n, rfl⟩
      go_wp2_with fail
      refine (isDigits _ _ hw).mono ?_
      rintro e w2 ⟨rfl, hb⟩
      have HB := (show Hid _ from hb)
      clear hb
      go_wp2_with fail
      go_ret3
      exact ⟨rfl, (below_drewN (Below.refl _ _) n).trans HB.out⟩
    · have e : ok = M.isDig lf := by rw [HO.out, h1]; rfl
      subst e
      go_enter Try.func25, Try.ntmps25
      go_wp2_with fail
      refine (HC.out _).mono ?_
      rintro e w1 ⟨rfl, n, rfl⟩
      go_wp2_with fail
      refine (isDigits _ _ hw).mono ?_
      rintro e w2 ⟨rfl, hb⟩
      have HB : Hid (Below w.heap.size w w2) := (below_drewN (Below.refl _ _) n).trans hb
      clear hb
      go_wp2_with fail
      refine (isDigits _ _ hf).mono ?_
      rintro e w3 ⟨rfl, hb⟩
      have HB2 : Hid (Below w.heap.size w w3) := HB.out.trans (hb.mono HB.out.size)
      clear hb
      go_wp2_with fail
      go_ret3
      exact ⟨rfl, HB2.out⟩

end Go.Proofs.Qxb6001116a.Lv
