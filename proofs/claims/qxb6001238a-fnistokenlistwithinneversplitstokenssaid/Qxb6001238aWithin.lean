/-
  Seat b6001238a: ListWithin at a list of strings without commas.
-/
import Derived.Test.Qxb6001238aLists
import Derived.ArgAppend
import Derived.Lib.LastIndexByte
namespace Go.Proofs.Qxb6001238a.Lv
open Go.RowKit
set_option linter.unusedVariables false

/-- The cut list: the first i strings as they were, then the empty one, in a row of the call's own. -/
structure Cut (w : World) (n : Nat) (f : Nat → ByteArray) (i g : Nat) (w' : World) : Prop where
  lt : i < n
  old : ∀ j, j < i → w'.cell? ⟨g, j, none⟩ = some (.string (f j))
  last : w'.cell? ⟨g, i, none⟩ = some (.string ⟨#[]⟩)
  below : Below w.heap.size w w'

def Within (w : World) (a : Option Addr) (n c : Nat) (f : Nat → ByteArray) (e : Ending) (w' : World) : Prop :=
  (e = .returned (.tuple #[.slice a n c, .bool false]) ∧ w' = w) ∨
  ∃ i g c', e = .returned (.tuple #[.slice (some ⟨g, 0, none⟩) (i + 1) c', .bool true]) ∧ Cut w n f i g w'

/-- The head of a string without commas: LastIndexByte finds none. -/
theorem last_none {s : ByteArray} (h : NoComma s) (r : Nat) : Lib.lastIndexByte (s.extract 0 r) 44 = -1 := by
  rcases Lib.lastIndexByte_spec (s.extract 0 r) 44 with h1 | ⟨i, hi, h1, h2, _⟩
  · exact h1.1
  · exfalso
    have hl : (s.extract 0 r).data.toList = s.data.toList.take r := by rw [Lib.extract_data]; simp
    have hi' : i < (s.data.toList.take r).length := by rw [← hl, ← Lib.size_eq]; exact hi
    have hi2 : i < s.data.toList.length := by rw [List.length_take] at hi'; omega
    have his : i < s.size := by rw [Lib.size_eq]; exact hi2
    have e : (s.extract 0 r).data[i]! = s[i] := by
      have hsz : i < (s.extract 0 r).data.size := hi
      rw [getElem!_pos _ i hsz, ← Array.getElem_toList]
      simp only [hl]
      rw [List.getElem_take]
      rfl
    rw [e] at h2
    apply h i his
    have h3 : s[i].toNat = 44 := by omega
    exact UInt8.toNat_inj.1 (by rw [h3]; rfl)

/-- What the append of one string behind the first k leaves. -/
theorem cut_of {w W w' : World} {B n k g m cap : Nat} {xs : List Value} {f : Nat → ByteArray} (hk : k < n) (hb : Below w.heap.size w W) (hg : W.grownBy w' none)
    (hown : w'.ownsRow B 9 1 (.slice (some ⟨g, 0, none⟩) m cap) m xs) (hm : m = k + 1) (hxs : xs = ((List.range k).map fun j => Value.string (f j)) ++ [.string ⟨#[]⟩]) : Cut w n f k g w' := by
  subst hm
  subst hxs
  refine ⟨hk, fun j hj => ?_, ?_, hb.grown hg hb.size (fun q hq => by cases hq)⟩
  · rw [hown.cellAt j (by omega), List.getElem?_append_left (by simpa using hj)]
    simp [hj]
  · rw [hown.cellAt k (by omega), List.getElem?_append_right (by simp)]
    simp

theorem extract_none (s : ByteArray) : s.extract 0 0 = (⟨#[]⟩ : ByteArray) := by
  have h : (s.extract 0 0).data.toList = [] := by rw [Lib.extract_data]; simp
  cases e : s.extract 0 0 with
  | mk x =>
    rw [e] at h
    have : x = #[] := Array.toList_inj.1 (by simpa using h)
    rw [this]

theorem olds_at {w : World} {b o n k j : Nat} {f : Nat → ByteArray} {ob : Obj} {q : Addr} {u : Value} (h : Strs w b o n f) (hk : k ≤ n) (hq : (some ⟨b, o, none⟩ : Option Addr) = some q) (hj : ((List.range k).map fun j => Value.string (f j))[j]? = some u) : (w.alloc ob).cell? (q.add j) = some u := by
  injection hq with hq
  subst hq
  have hjk : j < k := by
    have := (List.getElem?_eq_some_iff.1 hj).1
    simpa using this
  have e : u = .string (f j) := by
    simp [hjk] at hj
    exact hj.symm
  rw [e, Addr.add_lit]
  have hs := h.later ((Below.refl _ _).alloc (Nat.le_refl _) ob) j (by omega)
  exact hs

set_option maxHeartbeats 4000000 in
set_option maxRecDepth 100000 in
theorem ListWithin (a : Option Addr) (n c : Nat) (x : Int) (f : Nat → ByteArray) (w : World) (hc : n ≤ c) (hx0 : 0 ≤ x) (hx : x ≤ 9223372036854775807) (hsum : n + sumTo f n ≤ 1048576) (hnc : ∀ i, i < n → NoComma (f i)) (hl : OptStrs w a n f) :
    Calls Try.prog 15 #[.slice a n c, .int .i64 x] w fun e w' => Within w a n c f e w' := by
  obtain ⟨i0, hi, hz0, hz1, hz2⟩ := info_parts info9
  have HL : Hid (OptStrs w a n f) := hl
  have HNC : Hid (∀ i, i < n → NoComma (f i)) := hnc
  clear hl hnc
  go_enter Try.func15, Try.ntmps15
  go_wp2_with fail
  go_loop [6, 13] (fun z t => ∃ k s : Nat, k ≤ n ∧ s ≤ sumTo f k + k ∧ (s : Int) ≤ x ∧ z = .int .i64 s ∧ t = .int .i64 k) (fun _ t => n - (intOf t).toNat)
  case atStart => exact ⟨0, 0, by omega, by omega, by omega, rfl, rfl⟩
  case round =>
    obtain ⟨k, s, hk, hs, hsx, rfl, rfl⟩ := hrel
    by_cases hlt : k < n
    · obtain ⟨b, o, rfl, hst⟩ := OptStrs.some HL.out hlt
      have HST : Hid (Strs w b o n f) := hst
      have hck := hst k hlt
      have hnk : Hid (NoComma (f k)) := HNC.out k hlt
      have hsk := sumTo_at f k n hlt
      have hsk1 : sumTo f (k + 1) = sumTo f k + (f k).size := rfl
      have HS1 : Hid (sumTo f (k + 1) = sumTo f k + (f k).size) := hsk1
      clear hst HL HNC hsk1
      by_cases hk0 : k = 0
      · subst hk0
        have hck0 : w.cell? ⟨b, o, none⟩ = some (.string (f 0)) := by simpa using hck
        clear hck
        by_cases hfit : (s : Int) + ((f 0).size : Int) ≤ x
        · go_wp2_with fail
          go_round
          case rel => exact ⟨1, s + (f 0).size, by omega, by have : sumTo f 1 = sumTo f 0 + (f 0).size := rfl; omega, by omega, by go_num, rfl⟩
          case measure => simp [intOf]; omega
        · by_cases hroom : (s : Int) < x
          · obtain ⟨r, hr⟩ : ∃ r : Nat, x = (s : Int) + (r : Int) := ⟨(x - s).toNat, by omega⟩
            subst hr
            have hr0 : (0 : Int) < (r : Int) := by omega
            have hrl : r < (f 0).size := by omega
            have hrli : (r : Int) < ((f 0).size : Int) := by omega
            have hb44 : (((f 0)[r].toNat : Int) != 44) = true := by
              rw [bne_iff_ne]
              intro e
              apply hnk.out r hrl
              have h3 : (f 0)[r].toNat = 44 := by omega
              exact UInt8.toNat_inj.1 (by rw [h3]; rfl)
            have HLN : Hid (Lib.lastIndexByte ((f 0).extract 0 r) 44 = -1) := last_none hnk.out r
            have hmx : max (-1 : Int) 0 = 0 := by decide
            have hex : ((f 0).extract 0 r).extract 0 0 = (⟨#[]⟩ : ByteArray) := extract_none _
            go_wp2_with fail
            refine (Try.strings_LastIndexByte _ _ (by rw [Lib.size_eq, Lib.extract_data]; have := List.length_take_le (r - 0) ((f 0).data.toList.drop 0); omega) _).mono ?_
            rintro e w1 ⟨rfl, hw1⟩
            subst hw1
            rw [HLN.out]
            go_wp2_with (at_builtin; refine wpList_append_grows _ rfl _ _ 26 rfl 9 i0 (.string ⟨#[]⟩) 1 16 Try.underlying26 hi hz0 hz1 hz2 rfl (by decide) (some ⟨b, o, none⟩) 0 0 ((List.range 0).map fun j => Value.string (f j)) rfl (by intro h; cases h) ?hloA ?holdsA ⟨w1.heap.size, 0, none⟩ 1 1 [.string ⟨#[]⟩] rfl rfl ?c1A ?c2A ?c3A ?c4A ?c5A ?_)
            case hloA => simp
            case holdsA => intro q hq j u hj; exact olds_at HST.out (by omega) hq hj
            case c1A =>
              intro j u hj
              match j, hj with
              | 0, hj => simp at hj; subst hj; simp [Addr.add]; try rfl
            case c2A => intro u hu; simp at hu; subst hu; rfl
            case c3A => omega
            case c4A => unfold maxLen; omega
            case c5A => omega
            intro v' w2 hown' hgrow
            obtain ⟨g, cap, hv⟩ : ∃ g cap, v' = .slice (some ⟨g, 0, none⟩) 1 cap := by
              rcases hown'.2 with ⟨_, h0⟩ | ⟨g, cap, cur, hv, _⟩
              · omega
              · exact ⟨g, cap, hv⟩
            rw [hv] at hown' ⊢
            have CUT : Hid (Cut w1 n f 0 g w2) := cut_of hlt ((Below.refl _ _).alloc (Nat.le_refl _) _) hgrow hown' (by omega) (by first | rfl | simp)
            clear hown' hgrow hv
            go_wp2_with fail
            go_ret2
            exact Or.inr ⟨0, g, cap, rfl, CUT.out⟩
          · go_wp2_with (at_builtin; refine wpList_append_grows _ rfl _ _ 26 rfl 9 i0 (.string ⟨#[]⟩) 1 16 Try.underlying26 hi hz0 hz1 hz2 rfl (by decide) (some ⟨b, o, none⟩) 0 0 ((List.range 0).map fun j => Value.string (f j)) rfl (by intro h; cases h) ?hloB ?holdsB ⟨w.heap.size, 0, none⟩ 1 1 [.string ⟨#[]⟩] rfl rfl ?c1B ?c2B ?c3B ?c4B ?c5B ?_)
            case c2B => rfl
            case c4B => unfold maxLen; omega
            intro v' w2 hown' hgrow
            obtain ⟨g, cap, hv⟩ : ∃ g cap, v' = .slice (some ⟨g, 0, none⟩) 1 cap := by
              rcases hown'.2 with ⟨_, h0⟩ | ⟨g, cap, cur, hv, _⟩
              · omega
              · exact ⟨g, cap, hv⟩
            rw [hv] at hown' ⊢
            have CUT : Hid (Cut w n f 0 g w2) := cut_of hlt ((Below.refl _ _).alloc (Nat.le_refl _) _) hgrow hown' (by omega) (by first | rfl | simp)
            clear hown' hgrow hv
            go_wp2_with fail
            go_ret2
            exact Or.inr ⟨0, g, cap, rfl, CUT.out⟩
      · have hkp : (0 : Int) < (k : Int) := by omega
        by_cases hfit : (s : Int) + 1 + ((f k).size : Int) ≤ x
        · go_wp2_with fail
          go_round
          case rel => exact ⟨k + 1, s + 1 + (f k).size, by omega, by have := HS1.out; omega, by omega, by go_num, by go_num⟩
          case measure => simp [intOf]; omega
        · by_cases hroom : (s : Int) + 1 < x
          · obtain ⟨r, hr⟩ : ∃ r : Nat, x = (s : Int) + 1 + (r : Int) := ⟨(x - s - 1).toNat, by omega⟩
            subst hr
            have hr0 : (0 : Int) < (r : Int) := by omega
            have hrl : r < (f k).size := by omega
            have hrli : (r : Int) < ((f k).size : Int) := by omega
            have hb44 : (((f k)[r].toNat : Int) != 44) = true := by
              rw [bne_iff_ne]
              intro e
              apply hnk.out r hrl
              have h3 : (f k)[r].toNat = 44 := by omega
              exact UInt8.toNat_inj.1 (by rw [h3]; rfl)
            have HLN : Hid (Lib.lastIndexByte ((f k).extract 0 r) 44 = -1) := last_none hnk.out r
            have hmx : max (-1 : Int) 0 = 0 := by decide
            have hex : ((f k).extract 0 r).extract 0 0 = (⟨#[]⟩ : ByteArray) := extract_none _
            go_wp2_with fail
            refine (Try.strings_LastIndexByte _ _ (by rw [Lib.size_eq, Lib.extract_data]; have := List.length_take_le (r - 0) ((f k).data.toList.drop 0); omega) _).mono ?_
            rintro e w1 ⟨rfl, hw1⟩
            subst hw1
            rw [HLN.out]
            go_wp2_with (at_builtin; refine wpList_append_grows _ rfl _ _ 26 rfl 9 i0 (.string ⟨#[]⟩) 1 16 Try.underlying26 hi hz0 hz1 hz2 rfl (by decide) (some ⟨b, o, none⟩) k k ((List.range k).map fun j => Value.string (f j)) rfl (by intro h; cases h) ?hloC ?holdsC ⟨w1.heap.size, 0, none⟩ 1 1 [.string ⟨#[]⟩] rfl rfl ?c1C ?c2C ?c3C ?c4C ?c5C ?_)
            case hloC => simp
            case holdsC => intro q hq j u hj; exact olds_at HST.out (by omega) hq hj
            case c1C =>
              intro j u hj
              match j, hj with
              | 0, hj => simp at hj; subst hj; simp [Addr.add]; try rfl
            case c2C => intro u hu; simp at hu; subst hu; rfl
            case c3C => omega
            case c4C => unfold maxLen; omega
            case c5C => omega
            intro v' w2 hown' hgrow
            obtain ⟨g, cap, hv⟩ : ∃ g cap, v' = .slice (some ⟨g, 0, none⟩) (k + 1) cap := by
              rcases hown'.2 with ⟨_, h0⟩ | ⟨g, cap, cur, hv, _⟩
              · omega
              · exact ⟨g, cap, hv⟩
            rw [hv] at hown' ⊢
            have CUT : Hid (Cut w1 n f k g w2) := cut_of hlt ((Below.refl _ _).alloc (Nat.le_refl _) _) hgrow hown' (by omega) (by first | rfl | simp)
            clear hown' hgrow hv
            go_wp2_with fail
            go_ret2
            exact Or.inr ⟨k, g, cap, rfl, CUT.out⟩
          · go_wp2_with (at_builtin; refine wpList_append_grows _ rfl _ _ 26 rfl 9 i0 (.string ⟨#[]⟩) 1 16 Try.underlying26 hi hz0 hz1 hz2 rfl (by decide) (some ⟨b, o, none⟩) k k ((List.range k).map fun j => Value.string (f j)) rfl (by intro h; cases h) ?hloD ?holdsD ⟨w.heap.size, 0, none⟩ 1 1 [.string ⟨#[]⟩] rfl rfl ?c1D ?c2D ?c3D ?c4D ?c5D ?_)
            case holdsD =>
              intro j a hj
              have := olds_at (ob := .cells #[.string ⟨#[]⟩] 9) (u := .string (f a)) HST.out (show k ≤ n from by omega) rfl (show ((List.range k).map fun j => Value.string (f j))[j]? = some (.string (f a)) from by rw [List.getElem?_map, hj]; rfl)
              rwa [Addr.add_lit] at this
            case c2D => rfl
            case c4D => unfold maxLen; omega
            case c5D => omega
            intro v' w2 hown' hgrow
            obtain ⟨g, cap, hv⟩ : ∃ g cap, v' = .slice (some ⟨g, 0, none⟩) (k + 1) cap := by
              rcases hown'.2 with ⟨_, h0⟩ | ⟨g, cap, cur, hv, _⟩
              · omega
              · exact ⟨g, cap, hv⟩
            rw [hv] at hown' ⊢
            have CUT : Hid (Cut w n f k g w2) := cut_of hlt ((Below.refl _ _).alloc (Nat.le_refl _) _) hgrow hown' (by omega) (by first | rfl | simp)
            clear hown' hgrow hv
            go_wp2_with fail
            go_ret2
            exact Or.inr ⟨k, g, cap, rfl, CUT.out⟩
    · go_wp2_with fail
      go_ret2
      exact Or.inl ⟨rfl, rfl⟩

end Go.Proofs.Qxb6001238a.Lv
