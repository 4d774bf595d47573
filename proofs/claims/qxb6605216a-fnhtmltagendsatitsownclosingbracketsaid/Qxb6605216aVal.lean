/-
  Seat b6605216a: the program's own attributeValueEnd.
-/
import Derived.Test.Qxb6605216aHtml
namespace Go.Proofs.Qxb6605216a.Lv
open Go.RowKit
set_option linter.unusedVariables false

theorem byte_inj {a b : Int} (ha : 0 ≤ a ∧ a ≤ 255) (hb : 0 ≤ b ∧ b ≤ 255) (h : UInt8.ofNat a.toNat = UInt8.ofNat b.toNat) : a = b := by
  have e := congrArg UInt8.toNat h
  simp only [UInt8.toNat_ofNat'] at e
  omega

theorem bytes_get (g : Nat → Int) (m k : Nat) : (Lib.bytesOf ((List.range m).map g))[k]? = if k < m then some (UInt8.ofNat (g k).toNat) else none := by
  unfold Lib.bytesOf
  rw [List.map_map, List.getElem?_map]
  by_cases h : k < m
  · rw [if_pos h, List.getElem?_range h]; rfl
  · rw [if_neg h, List.getElem?_eq_none (by simp; omega)]; rfl

theorem idx_sk (g : Nat → Int) (m : Nat) (q : Int) (hg : ∀ i, 0 ≤ g i ∧ g i ≤ 255) (hq : 0 ≤ q ∧ q ≤ 255) :
    Lib.indexByte (Lib.bytesOf ((List.range m).map g)) (UInt8.ofNat q.toNat) = if M.sk (fun c => c != q) g m 0 < m then ((M.sk (fun c => c != q) g m 0 : Nat) : Int) else -1 := by
  have hge := Lib.indexByte_ge (Lib.bytesOf ((List.range m).map g)) (UInt8.ofNat q.toNat)
  by_cases h : Lib.indexByte (Lib.bytesOf ((List.range m).map g)) (UInt8.ofNat q.toNat) = -1
  · have hn := Lib.indexByte_none h
    have e : M.sk (fun c => c != q) g m 0 = m := by
      refine M.sk_eq (by omega) (Nat.le_refl _) (fun a _ ha => ?_) (fun x => by omega)
      have := hn a
      rw [bytes_get, if_pos ha] at this
      simp only [bne_iff_ne]
      intro hqa
      exact this (by rw [hqa])
    rw [h, e, if_neg (by omega)]
  · obtain ⟨o, ho⟩ := Int.eq_ofNat_of_zero_le (show 0 ≤ Lib.indexByte (Lib.bytesOf ((List.range m).map g)) (UInt8.ofNat q.toNat) from by omega)
    obtain ⟨h1, h2⟩ := Lib.indexByte_some ho
    have hom : o < m := by
      rw [bytes_get] at h1
      by_cases hx : o < m
      · exact hx
      · rw [if_neg hx] at h1; cases h1
    have e : M.sk (fun c => c != q) g m 0 = o := by
      refine M.sk_eq (by omega) (by omega) (fun a _ ha => ?_) (fun _ => ?_)
      · have := h2 a ha
        rw [bytes_get, if_pos (by omega)] at this
        simp only [bne_iff_ne]
        intro hqa
        exact this (by rw [hqa])
      · rw [bytes_get, if_pos hom] at h1
        have := byte_inj (hg o) hq (Option.some.inj h1)
        simp [this]
    rw [ho, e, if_pos hom]

/-- The bytes from place a on. -/
theorem Text.from {w : World} {b off n : Nat} {f : Nat → Int} (h : Text w b off n f) (a : Nat) : Text w b (off + a) (n - a) (fun k => f (a + k)) := by
  intro i hi
  have := h (a + i) (by omega)
  rw [show off + a + i = off + (a + i) from by omega]
  exact this

/-- What bytes.IndexByte of the rest gives, and what the value's end is then. -/
theorem quoted (f : Nat → Int) (n i : Nat) (hb : ∀ i, 0 ≤ f i ∧ f i ≤ 255) (hin : i < n) (hq : f i = 34 ∨ f i = 39) :
    (∃ d : Nat, Lib.indexByte (Lib.bytesOf ((List.range (n - (i + 1))).map fun k => f (i + 1 + k))) ((f i).toNat.toUInt8) = (d : Int) ∧ i + 1 + d < n ∧ M.valEnd f n i = (i : Int) + 1 + (d : Int) + 1) ∨
    (Lib.indexByte (Lib.bytesOf ((List.range (n - (i + 1))).map fun k => f (i + 1 + k))) ((f i).toNat.toUInt8) = -1 ∧ M.valEnd f n i = -1) := by
  have HI : Lib.indexByte (Lib.bytesOf ((List.range (n - (i + 1))).map fun k => f (i + 1 + k))) ((f i).toNat.toUInt8) = _ := idx_sk (fun k => f (i + 1 + k)) (n - (i + 1)) (f i) (fun k => hb _) (hb i)
  have HS := M.sk_shift (fun c => c != f i) f n (i + 1) hin
  have HV : M.valEnd f n i = if M.sk (fun c => c != f i) f n (i + 1) < n then ((M.sk (fun c => c != f i) f n (i + 1) : Nat) : Int) + 1 else -1 := by
    unfold M.valEnd
    rw [if_neg (by omega), if_pos hq]
  rw [HI, HV, ← HS]
  by_cases hm : M.sk (fun c => c != f i) (fun k => f (i + 1 + k)) (n - (i + 1)) 0 < n - (i + 1)
  · rw [if_pos hm]
    exact Or.inl ⟨_, rfl, by omega, by rw [if_pos (by omega)]; omega⟩
  · rw [if_neg hm]
    exact Or.inr ⟨rfl, by rw [if_neg (by omega)]⟩

/-- What strings.IndexByte of the six signs that end a bare value says. -/
theorem six (c : Int) (hc : 0 ≤ c ∧ c ≤ 255) : (Lib.indexByte [34, 39, 61, 60, 62, 96] (UInt8.ofNat c.toNat) < 0) ↔ ¬ (c = 34 ∨ c = 39 ∨ c = 61 ∨ c = 60 ∨ c = 62 ∨ c = 96) := by
  have key : ∀ m : Fin 256, (Lib.indexByte [34, 39, 61, 60, 62, 96] (UInt8.ofNat m.val) < 0) ↔ ¬ (m.val = 34 ∨ m.val = 39 ∨ m.val = 61 ∨ m.val = 60 ∨ m.val = 62 ∨ m.val = 96) := by decide +kernel
  have := key ⟨c.toNat, by omega⟩
  rw [this]
  simp only []
  omega

set_option maxHeartbeats 1000000 in
theorem attributeValueEnd (b off n c : Nat) (f : Nat → Int) (x : Int) (w : World) (hn : n ≤ 2097152) (hcap : n ≤ c) (hcap2 : c ≤ 2097152) (hb : ∀ i, 0 ≤ f i ∧ f i ≤ 255) (h0 : 0 ≤ x) (hx : x ≤ n) (ht : Text w b off n f) :
    Calls Try.prog 32 #[.slice (some ⟨b, off, none⟩) n c, .int .i64 x] w fun e w' => e = .returned (.int .i64 (M.valEnd f n x.toNat)) ∧ w' = w := by
  obtain ⟨i, rfl⟩ := Int.eq_ofNat_of_zero_le h0
  rw [Int.toNat_natCast]
  by_cases hin : i < n
  · have hc0 := ht i hin
    have hg : ((i : Int) == (n : Int)) = false := by simp; omega
    by_cases hq : f i = 34 ∨ f i = 39
    · have hwhat := quoted f n i hb hin hq
      have h1 : (f i == 34) = true ∨ (f i == 34) = false ∧ (f i == 39) = true := by
        rcases hq with hq | hq <;> simp [hq]
      clear hq
      rcases hwhat with ⟨d, hd, hd2, hv⟩ | ⟨hd, hv⟩
      · have HD := (show Hid _ from hd)
        have HV := (show Hid _ from hv)
        clear hd hv
        rcases h1 with h1 | ⟨h1, h2⟩
        all_goals
          by_cases hci : c = i + 1
          · exfalso; omega
          · go_enter Try.func32, Try.ntmps32
            go_wp2_with fail
            refine (Try.bytes_IndexByte b _ _ _ ((List.range (n - (i + 1))).map fun k => f (i + 1 + k)) _ _ (by simp) ?hc).mono ?_
            case hc =>
              intro k hk
              have := ht.from (i + 1) k hk
              simpa [hk] using this
            rintro e w1 ⟨rfl, rfl⟩
            rw [HD.out]
            go_wp2_with fail
            go_ret
            exact ⟨ret_int HV.out.symm, rfl⟩
      · have HD := (show Hid _ from hd)
        have HV := (show Hid _ from hv)
        clear hd hv
        rcases h1 with h1 | ⟨h1, h2⟩
        all_goals
          go_enter Try.func32, Try.ntmps32
          go_wp2_with fail
          all_goals
            refine (Try.bytes_IndexByte b _ _ _ ((List.range (n - (i + 1))).map fun k => f (i + 1 + k)) _ _ (by simp) ?hc).mono ?_
            case hc =>
              intro k hk
              first
                | (exfalso; omega)
                | (have := ht.from (i + 1) k hk
                   simpa [hk] using this)
            rintro e w1 ⟨rfl, rfl⟩
            rw [HD.out]
            go_wp2_with fail
            go_ret
            exact ⟨ret_int HV.out.symm, rfl⟩
    · have HQ := (show Hid _ from hq)
      have h1 : (f i == 34) = false := by simp; exact fun e => hq (Or.inl e)
      have h2 : (f i == 39) = false := by simp; exact fun e => hq (Or.inr e)
      clear hq
      go_enter Try.func32, Try.ntmps32
      go_wp2_with fail
      go_loop [7] (fun t => ∃ k : Nat, k ≤ n ∧ t = .int .i64 k ∧ Hid (M.sk M.unq f n k = M.sk M.unq f n i)) (fun t => n - (intOf t).toNat)
      case atStart => exact ⟨i, by omega, by go_num, rfl⟩
      case round =>
        obtain ⟨k, hk, rfl, hr⟩ := hrel
        by_cases hlt : k < n
        · have hc := ht k hlt
          have h6 := six (f k) (hb k)
          cases hu : M.unq (f k)
          · have HV := (show Hid _ from val_u hin HQ.out (hr.out.symm.trans (M.sk_stop hlt hu)))
            have hways : (M.blank (f k) = true) ∨ (M.blank (f k) = false ∧ 0 ≤ Lib.indexByte [34, 39, 61, 60, 62, 96] (UInt8.ofNat (f k).toNat)) := by
              cases hbl : M.blank (f k)
              · refine Or.inr ⟨rfl, ?_⟩
                simp [M.unq] at hu
                simp [M.blank] at hbl
                omega
              · exact Or.inl rfl
            clear h6 hu
            have hki0 : ((k : Int) == (i : Int)) = true ∧ Hid (k = i) ∨ ((k : Int) == (i : Int)) = false ∧ Hid (¬ k = i) := by
              by_cases hki : k = i
              · exact Or.inl ⟨by simp; omega, hki⟩
              · exact Or.inr ⟨by simp; omega, hki⟩
            rcases hways with hb1 | ⟨hb1, hb2⟩
            all_goals
              rcases hki0 with ⟨hki, HK⟩ | ⟨hki, HK⟩
              · go_wp2_with (first
                  | (go_at_call 39; refine (isSpaceOrTab _ _).mono ?_; rintro e w' ⟨rfl, rfl⟩)
                  | (go_at_call 28; refine (Try.strings_IndexByte _ _ _).mono ?_; rintro e w' ⟨rfl, rfl⟩))
                go_ret
                exact ⟨ret_int (by rw [HV.out, if_pos HK.out]), rfl⟩
              · go_wp2_with (first
                  | (go_at_call 39; refine (isSpaceOrTab _ _).mono ?_; rintro e w' ⟨rfl, rfl⟩)
                  | (go_at_call 28; refine (Try.strings_IndexByte _ _ _).mono ?_; rintro e w' ⟨rfl, rfl⟩))
                go_ret
                exact ⟨ret_int (by rw [HV.out, if_neg HK.out]), rfl⟩
          · have HB := (show Hid _ from hu)
            have hb1 : M.blank (f k) = false := by
              simp [M.unq] at hu
              simp [M.blank]
              omega
            have hb2 : Lib.indexByte [34, 39, 61, 60, 62, 96] (UInt8.ofNat (f k).toNat) < 0 := by
              simp [M.unq] at hu
              omega
            clear h6 hu
            go_wp2_with (first
              | (go_at_call 39; refine (isSpaceOrTab _ _).mono ?_; rintro e w' ⟨rfl, rfl⟩)
              | (go_at_call 28; refine (Try.strings_IndexByte _ _ _).mono ?_; rintro e w' ⟨rfl, rfl⟩))
            go_round
            case rel => exact ⟨k + 1, by omega, by go_num, by rw [← M.sk_step hlt HB]; exact hr⟩
            case measure => simp [intOf]; omega
        · have HV := (show Hid _ from val_u hin HQ.out (hr.out.symm.trans (M.sk_ge_end (by omega))))
          have hki' : ((k : Int) == (i : Int)) = false := by simp; omega
          go_wp2_with fail
          go_ret
          exact ⟨ret_int (by rw [HV.out, if_neg (by omega)]), rfl⟩
  · have hge : ((i : Int) == (n : Int)) = true := by simp; omega
    go_enter Try.func32, Try.ntmps32
    go_wp2_with fail
    go_ret
    exact ⟨ret_int (val_end (by omega)).symm, rfl⟩

end Go.Proofs.Qxb6605216a.Lv
