/-
  Seat b6605216a: zzTagModel, the laws' own model of a tag.
-/
import Derived.Test.Qxb6605216aAttr
import Derived.Test.Qxb6605216aClose
namespace Go.Proofs.Qxb6605216a.Lv
open Go.RowKit
set_option linter.unusedVariables false

/-- What zzTagModel answers: the size, the name's place and length, or three zeros. -/
def modelV (f : Nat → Int) (n : Nat) : Value :=
  if M.size f n = 0 then .tuple #[.int .i64 0, .int .i64 0, .int .i64 0] else .tuple #[.int .i64 ((M.size f n : Nat) : Int), .int .i64 ((M.nameAt f n : Nat) : Int), .int .i64 ((M.nameEnd f n - M.nameAt f n : Nat) : Int)]

theorem modelV_no {f : Nat → Int} {n : Nat} (h : M.size f n = 0) : Ending.returned (.tuple #[.int .i64 0, .int .i64 0, .int .i64 0]) = .returned (modelV f n) := by
  unfold modelV; rw [if_pos h]
theorem modelV_yes {f : Nat → Int} {n : Nat} {r a l : Int} (h : ((M.size f n : Nat) : Int) = r) (hr : ¬ r = 0) (ha : ((M.nameAt f n : Nat) : Int) = a) (hl : ((M.nameEnd f n - M.nameAt f n : Nat) : Int) = l) : Ending.returned (.tuple #[.int .i64 r, .int .i64 a, .int .i64 l]) = .returned (modelV f n) := by
  unfold modelV; rw [if_neg (by omega), h, ha, hl]

theorem tne_no {f : Nat → Int} {n p : Nat} (h : p < n → M.letter (f p) = false) : tagNameEnd f n p = -1 := by
  unfold tagNameEnd; rw [if_neg (fun x => by rw [h x.1] at x; cases x.2)]
theorem tne_yes {f : Nat → Int} {n p : Nat} (h : p < n) (hl : M.letter (f p) = true) : tagNameEnd f n p = ((M.sk M.nameC f n (p + 1) : Nat) : Int) := by
  unfold tagNameEnd; rw [if_pos ⟨h, hl⟩]

set_option maxHeartbeats 2000000 in
set_option maxRecDepth 100000 in
theorem model_close (b off n c : Nat) (f : Nat → Int) (w : World) (hn : n ≤ 2097152) (h1 : 1 < n) (hf1 : f 1 = 47) (ht : Text w b off n f) :
    Calls Try.prog 17 #[.slice (some ⟨b, off, none⟩) n c] w fun e w' => e = .returned (modelV f n) ∧ w' = w := by
  have HC := (show Hid _ from isClose_t h1 hf1)
  have HA := (show Hid _ from at_t HC)
  have hf1' : (f 1 == 47) = true := by simp [hf1]
  have hc1 := ht 1 h1
  have h1i : (1 : Int) < (n : Int) := by omega
  clear hf1
  by_cases h2 : 2 < n ∧ M.letter (f 2) = true
  · obtain ⟨h2n, hl⟩ := h2
    have HS := (show Hid _ from size_close HC h2n hl)
    have HT := (show Hid _ from tne_yes h2n hl)
    have HE := (show Hid _ from nameEnd_is HA rfl)
    have pge := M.sk_ge M.nameC f n (2 + 1)
    have ple := M.sk_le M.nameC f n (2 + 1) h2n
    clear hl
    go_enter Try.func17, Try.ntmps17
    go_wp2_with fail
    refine (zzTagNameEnd b off n c f 2 _ hn (by omega) ht).mono ?_
    rintro e w1 ⟨rfl, rfl⟩
    rw [HT.out]
    generalize hp : M.sk M.nameC f n (2 + 1) = p at *
    clear hp
    have jge := M.sk_ge M.blank f n p
    have jle := M.sk_le M.blank f n p (by omega)
    go_wp2_with fail
    refine (zzSkipBlanks b off n c f _ _ hn (by omega) (by omega) ht).mono ?_
    rintro e w2 ⟨rfl, rfl⟩
    rw [Int.toNat_natCast]
    generalize hj : M.sk M.blank f n p = j at *
    have HJ := (show Hid _ from hj)
    clear hj
    by_cases hjn : j < n
    · have hcj := ht j hjn
      by_cases hfj : f j = 62
      · have HZ := (show Hid _ from close_yes HS HE HJ hjn hfj)
        have hfj' : (f j == 62) = true := by simp [hfj]
        clear hfj
        go_wp2_with fail
        go_ret3
        exact ⟨modelV_yes (by rw [HZ.out]; omega) (by omega) (by rw [HA.out]; rfl) (by rw [HE.out, HA.out]; omega), rfl⟩
      · have HZ := (show Hid _ from close_no HS HE HJ (fun _ => hfj))
        have hfj' : (f j == 62) = false := by simp [hfj]
        clear hfj
        go_wp2_with fail
        go_ret3
        exact ⟨modelV_no HZ.out, rfl⟩
    · have HZ := (show Hid _ from close_no HS HE HJ (fun h => absurd h hjn))
      go_wp2_with fail
      go_ret3
      exact ⟨modelV_no HZ.out, rfl⟩
  · have hno : 2 < n → M.letter (f 2) = false := fun h => by
      cases e : M.letter (f 2) with
      | true => exact absurd ⟨h, e⟩ h2
      | false => rfl
    have HS := (show Hid _ from size_no HA hno)
    have HT := (show Hid _ from tne_no hno)
    clear hno h2
    go_enter Try.func17, Try.ntmps17
    go_wp2_with fail
    refine (zzTagNameEnd b off n c f 2 _ hn (by omega) ht).mono ?_
    rintro e w1 ⟨rfl, rfl⟩
    rw [HT.out]
    go_wp2_with fail
    go_ret3
    exact ⟨modelV_no HS.out, rfl⟩

theorem tail_yes47 {f : Nat → Int} {n p j : Nat} (hj : M.sk M.blank f n p = j) (h1 : j + 1 < n) (h2 : f j = 47) (h3 : f (j + 1) = 62) : M.tailOf f n p = j + 2 := by
  have e : M.jOf f n p = j := hj
  unfold M.tailOf; rw [e, if_pos ⟨by omega, h2⟩, if_pos ⟨h1, h3⟩]
theorem tail_no47 {f : Nat → Int} {n p j : Nat} (hj : M.sk M.blank f n p = j) (h1 : j < n) (h2 : f j = 47) (h3 : j + 1 < n → ¬ f (j + 1) = 62) : M.tailOf f n p = 0 := by
  have e : M.jOf f n p = j := hj
  unfold M.tailOf; rw [e, if_pos ⟨h1, h2⟩, if_neg (fun x => h3 x.1 x.2)]
theorem tail_yes {f : Nat → Int} {n p j : Nat} (hj : M.sk M.blank f n p = j) (h1 : j < n) (h3 : f j = 62) : M.tailOf f n p = j + 1 := by
  have e : M.jOf f n p = j := hj
  unfold M.tailOf; rw [e, if_neg (by rw [h3]; omega), if_pos ⟨h1, h3⟩]
theorem tail_no {f : Nat → Int} {n p j : Nat} (hj : M.sk M.blank f n p = j) (h1 : j < n → ¬ f j = 47) (h3 : j < n → ¬ f j = 62) : M.tailOf f n p = 0 := by
  have e : M.jOf f n p = j := hj
  unfold M.tailOf; rw [e, if_neg (fun x => h1 x.1 x.2), if_neg (fun x => h3 x.1 x.2)]

theorem mopen_size {f : Nat → Int} {n p k r : Nat} (hs : M.size f n = M.tag f n (M.nameEnd f n)) (he : M.nameEnd f n = p) (hr : M.tag f n k = M.tag f n p) (h : M.tag f n k = M.tailOf f n k) (h2 : M.tailOf f n k = r) : M.size f n = r := by
  rw [hs, he, ← hr, h, h2]

set_option maxHeartbeats 4000000 in
set_option maxRecDepth 100000 in
theorem model_open (b off n c : Nat) (f : Nat → Int) (w : World) (hn : n ≤ 2097152) (hf1 : 1 < n → ¬ f 1 = 47) (ht : Text w b off n f) :
    Calls Try.prog 17 #[.slice (some ⟨b, off, none⟩) n c] w fun e w' => e = .returned (modelV f n) ∧ w' = w := by
  have HC := (show Hid _ from isClose_f hf1)
  have HA := (show Hid _ from at_f HC)
  by_cases h2 : 1 < n ∧ M.letter (f 1) = true
  · obtain ⟨h1n, hl⟩ := h2
    have hf1' : (f 1 == 47) = false := by simp [hf1 h1n]
    have hc1 := ht 1 h1n
    have h1i : (1 : Int) < (n : Int) := by omega
    clear hf1
    have HS := (show Hid _ from size_open HC h1n hl)
    have HT := (show Hid _ from tne_yes h1n hl)
    have HE := (show Hid _ from nameEnd_is HA rfl)
    have pge := M.sk_ge M.nameC f n (1 + 1)
    have ple := M.sk_le M.nameC f n (1 + 1) h1n
    clear hl
    go_enter Try.func17, Try.ntmps17
    go_wp2_with fail
    refine (zzTagNameEnd b off n c f 1 _ hn (by omega) ht).mono ?_
    rintro e w1 ⟨rfl, rfl⟩
    rw [HT.out]
    generalize hp : M.sk M.nameC f n (1 + 1) = p at *
    clear hp
    have hp0 : ¬ ((p : Int) < 0) := by omega
    go_wp2_with fail
    go_loop [8] (fun t => ∃ k : Nat, k ≤ n ∧ t = .int .i64 k ∧ Hid (M.tag f n k = M.tag f n p)) (fun t => n - (intOf t).toNat)
    case atStart => exact ⟨p, by omega, rfl, rfl⟩
    case round =>
      obtain ⟨k, hk, rfl, hr⟩ := hrel
      have ale := M.attrEnd_le f n k hk
      have agt := M.attrEnd_gt f n k
      have atl := M.tag_tail f n k hk
      have ata := M.tag_attr f n k hk
      go_wp2_with fail
      refine (zzAttribute b off n c f _ _ hn (by omega) (by omega) ht).mono ?_
      rintro e w2 ⟨rfl, rfl⟩
      rw [Int.toNat_natCast]
      generalize ha : M.attrEnd f n k = a at *
      clear ha
      by_cases ha0 : a < 0
      · have HT2 := (show Hid _ from atl ha0)
        clear agt atl ata
        have jge := M.sk_ge M.blank f n k
        have jle := M.sk_le M.blank f n k hk
        go_wp2_with fail
        refine (zzSkipBlanks b off n c f _ _ hn (by omega) (by omega) ht).mono ?_
        rintro e w3 ⟨rfl, rfl⟩
        rw [Int.toNat_natCast]
        generalize hj : M.sk M.blank f n k = j at *
        have HJ := (show Hid _ from hj)
        clear hj
        by_cases hjn : j < n
        · have hcj := ht j hjn
          by_cases h47 : f j = 47
          · have h47' : (f j == 47) = true := by simp [h47]
            by_cases hj1 : j + 1 < n
            · have hcj1 := ht (j + 1) hj1
              by_cases h62 : f (j + 1) = 62
              · have HZ := (show Hid _ from mopen_size HS HE hr HT2 (tail_yes47 HJ hj1 h47 h62))
                have h62' : (f (j + 1) == 62) = true := by simp [h62]
                clear h47 h62
                go_wp2_with fail
                go_ret3
                exact ⟨modelV_yes (by rw [HZ.out]; omega) (by omega) (by rw [HA.out]; rfl) (by rw [HE.out, HA.out]; omega), rfl⟩
              · have HZ := (show Hid _ from mopen_size HS HE hr HT2 (tail_no47 HJ hjn h47 (fun _ => h62)))
                have h62' : (f (j + 1) == 62) = false := by simp [h62]
                clear h47 h62
                go_wp2_with fail
                go_ret3
                exact ⟨modelV_no HZ.out, rfl⟩
            · have HZ := (show Hid _ from mopen_size HS HE hr HT2 (tail_no47 HJ hjn h47 (fun h => absurd h hj1)))
              have hj1' : ¬ ((j : Int) + 1 < (n : Int)) := by omega
              clear h47
              go_wp2_with fail
              go_ret3
              exact ⟨modelV_no HZ.out, rfl⟩
          · have h47' : (f j == 47) = false := by simp [h47]
            by_cases h62 : f j = 62
            · have HZ := (show Hid _ from mopen_size HS HE hr HT2 (tail_yes HJ hjn h62))
              have h62' : (f j == 62) = true := by simp [h62]
              clear h47 h62
              go_wp2_with fail
              go_ret3
              exact ⟨modelV_yes (by rw [HZ.out]; omega) (by omega) (by rw [HA.out]; rfl) (by rw [HE.out, HA.out]; omega), rfl⟩
            · have HZ := (show Hid _ from mopen_size HS HE hr HT2 (tail_no HJ (fun _ => h47) (fun _ => h62)))
              have h62' : (f j == 62) = false := by simp [h62]
              clear h47 h62
              go_wp2_with fail
              go_ret3
              exact ⟨modelV_no HZ.out, rfl⟩
        · have HZ := (show Hid _ from mopen_size HS HE hr HT2 (tail_no HJ (fun h => absurd h hjn) (fun h => absurd h hjn)))
          go_wp2_with fail
          go_ret3
          exact ⟨modelV_no HZ.out, rfl⟩
      · have h12 := agt (by omega)
        have HY := (show Hid _ from ata (by omega))
        clear agt atl ata
        obtain ⟨m, rfl⟩ := Int.eq_ofNat_of_zero_le (show 0 ≤ a from by omega)
        go_wp2_with fail
        go_round
        case rel => exact ⟨m, by omega, rfl, (show Hid _ from HY.out.symm.trans hr.out)⟩
        case measure => simp [intOf]; omega
  · have hno : 1 < n → M.letter (f 1) = false := fun h => by
      cases e : M.letter (f 1) with
      | true => exact absurd ⟨h, e⟩ h2
      | false => rfl
    have HS := (show Hid _ from size_no HA hno)
    have HT := (show Hid _ from tne_no hno)
    clear hno h2
    by_cases h1n : 1 < n
    · have hf1' : (f 1 == 47) = false := by simp [hf1 h1n]
      have hc1 := ht 1 h1n
      have h1i : (1 : Int) < (n : Int) := by omega
      clear hf1
      go_enter Try.func17, Try.ntmps17
      go_wp2_with fail
      refine (zzTagNameEnd b off n c f 1 _ hn (by omega) ht).mono ?_
      rintro e w1 ⟨rfl, rfl⟩
      rw [HT.out]
      go_wp2_with fail
      go_ret3
      exact ⟨modelV_no HS.out, rfl⟩
    · have h1i : ¬ ((1 : Int) < (n : Int)) := by omega
      clear hf1
      go_enter Try.func17, Try.ntmps17
      go_wp2_with fail
      refine (zzTagNameEnd b off n c f 1 _ hn (by omega) ht).mono ?_
      rintro e w1 ⟨rfl, rfl⟩
      rw [HT.out]
      go_wp2_with fail
      go_ret3
      exact ⟨modelV_no HS.out, rfl⟩

theorem zzTagModel (b off n c : Nat) (f : Nat → Int) (w : World) (hn : n ≤ 2097152) (ht : Text w b off n f) :
    Calls Try.prog 17 #[.slice (some ⟨b, off, none⟩) n c] w fun e w' => e = .returned (modelV f n) ∧ w' = w := by
  by_cases h : 1 < n ∧ f 1 = 47
  · exact model_close b off n c f w hn h.1 h.2 ht
  · exact model_open b off n c f w hn (fun a b => h ⟨a, b⟩) ht

end Go.Proofs.Qxb6605216a.Lv
