/-
  Seat b6001116a: zzRemoveCommas.
-/
import Derived.Test.Qxb6001116aBuilder
import Derived.Laws.IdiomStrings
import Derived.Laws.BytesArg
namespace Go.Proofs.Qxb6001116a.Lv
open Go.RowKit
set_option linter.unusedVariables false

/-- At the head of the loop: the row v of the call's own holds m; m and what is still to come are the whole. -/
def Taking (N : Nat) (s : ByteArray) (w : World) (k : Nat) (v : Value) (wr : World) : Prop :=
  ∃ m : List UInt8, wr.ownsRow N 5 1 v m.length (Lib.byteCells m) ∧ m ++ M.noCommas (s.data.toList.drop k) = M.noCommas s.data.toList ∧ Below N w wr

theorem noCommas_cons (c : UInt8) (l : List UInt8) : M.noCommas (c :: l) = if c = 44 then M.noCommas l else c :: M.noCommas l := by
  unfold M.noCommas
  rw [List.filter_cons]
  by_cases h : c = 44
  · rw [if_neg (by simp [h]), if_pos h]
  · rw [if_pos (by simp [h]), if_neg h]
theorem noCommas_len (l : List UInt8) : (M.noCommas l).length ≤ l.length := List.length_filter_le _ _

set_option maxHeartbeats 2000000 in
set_option maxRecDepth 100000 in
theorem zzRemoveCommas (s : ByteArray) (w : World) (hs : s.size ≤ 8388608) :
    Calls Try.prog 11 #[.string s] w fun e w' => e = .returned (.string ⟨(M.noCommas s.data.toList).toArray⟩) ∧ Below w.heap.size w w' := by
  obtain ⟨i0, hi, hz0, hz1, hz2⟩ := info_parts info5
  have hmk : ∀ w : World, (Instr.makeSlice 30 (.int .i64 0) (.int .i64 (s.size : Int))).run Try.prog w = .ok (.slice (some ⟨w.heap.size, 0, none⟩) 0 s.size) (w.alloc (.cells (madeCells #[.int .u8 0] s.size) 5)) := by
    intro w
    have := run_make (P := Try.prog) w 30 5 i0 (.int .u8 0) Try.underlying30 hi hz0 .i64 .i64 0 (s.size : Int) (by omega) (by omega) (by rw [hz2]; omega) (by omega)
    rw [hz1] at this
    simp only [Nat.mul_one, Int.toNat_natCast, Int.toNat_zero] at this
    exact this
  go_enter Try.func11, Try.ntmps11
  go_wp2
  go_loopw [3, 4] (fun v i wr => ∃ k : Nat, k ≤ s.size ∧ i = .int .i64 k ∧ Hid (Taking w.heap.size s w k v wr)) (fun _ i _ => s.size - (intOf i).toNat)
  case atStart => exact ⟨0, by omega, rfl, ⟨[], by simpa [Lib.byteCells] using World.ownsRow_made (base := w.heap.size) (e := 5) (size := 1) w (madeCells #[.int .u8 0] s.size) s.size (Nat.le_refl _) (by unfold maxLen; omega) (by simp [size_madeCells]), rfl, (Below.refl _ _).alloc (Nat.le_refl _) _⟩⟩
  case round =>
    obtain ⟨k, hk, rfl, hr⟩ := hrel
    obtain ⟨m, hm1, hm2, hm3⟩ := hr
    have hml : m.length ≤ 8388608 := by
      have e := congrArg List.length hm2
      have e2 := noCommas_len s.data.toList
      rw [← Lib.size_eq] at e2
      rw [List.length_append] at e
      omega
    have HM2 : Hid (m ++ M.noCommas (s.data.toList.drop k) = M.noCommas s.data.toList) := hm2
    have HM3 : Hid (Below w.heap.size w wr) := hm3
    have hsz : w.heap.size ≤ wr.heap.size := hm3.size
    clear hm2 hm3
    by_cases hlt : k < s.size
    · have HD := (show Hid _ from drop_cons s k hlt)
      by_cases hc : s[k] = 44
      · have hc' : ((s[k].toNat : Int) != 44) = false := by rw [hc]; rfl
        have HG : Hid (Taking w.heap.size s w (k + 1) u3 wr) := by
          refine ⟨m, hm1, ?_, HM3.out⟩
          have e := HM2.out
          rw [HD.out, noCommas_cons, if_pos hc] at e
          exact e
        have HM1 : Hid (wr.ownsRow w.heap.size 5 1 u3 m.length (Lib.byteCells m)) := hm1
        clear hc hm1
        go_wp2
        go_roundw
        case rel => exact ⟨k + 1, by omega, by go_num, HG⟩
        case measure => simp [intOf]; omega
      · have hc' : ((s[k].toNat : Int) != 44) = true := by
          have e := eq_byte (c := s[k]) 44 (by omega)
          have e2 : (s[k] == (UInt8.ofNat 44)) = false := by simpa using hc
          rw [e2] at e
          simp only [bne, Bool.not_eq_true', ← e]
          rfl
        have HE : Hid ((m ++ [s[k]]) ++ M.noCommas (s.data.toList.drop (k + 1)) = M.noCommas s.data.toList) := by
          have e := HM2.out
          rw [HD.out, noCommas_cons, if_neg hc] at e
          show (m ++ [s[k]]) ++ M.noCommas (s.data.toList.drop (k + 1)) = M.noCommas s.data.toList
          rw [List.append_assoc]
          exact e
        have hown := hm1
        clear hc hm1
        go_wp2_with (at_builtin; refine wpList_append_own _ rfl _ _ 30 rfl w.heap.size 5 i0 (.int .u8 0) 1 1 Try.underlying30 hi hz0 hz1 hz2 rfl (by decide) _ _ _ rfl (hown.alloc _) ⟨wr.heap.size, 0, none⟩ 1 1 [.int .u8 (s[k].toNat : Int)] rfl rfl ?c1 ?c2 ?c3 ?c4 ?c5 ?_)
        case c1 =>
          intro j u hj
          match j, hj with
          | 0, hj => simp at hj; subst hj; simp [Addr.add]
        case c2 => intro u hu; simp at hu; subst hu; rfl
        case c3 => unfold maxLen; omega
        case c4 => omega
        case c5 => simp; omega
        intro v' w2 hown' hgrow _
        have HG : Hid (Taking w.heap.size s w (k + 1) v' w2) := by
          refine ⟨m ++ [s[k]], ?_, HE.out, ?_⟩
          · rw [List.length_append, Lib.byteCells_append]
            exact hown'
          · exact (HM3.out.alloc hsz _).grown hgrow (by simp; omega) (fun q hq => (hown.lt q hq).1)
        clear hown' hgrow hown
        go_wp2
        go_roundw
        case rel => exact ⟨k + 1, by omega, by go_num, HG⟩
        case measure => simp [intOf]; omega
    · have HE : Hid (m = M.noCommas s.data.toList) := by
        have e := HM2.out
        rw [drop_end s k (by omega)] at e
        show m = M.noCommas s.data.toList
        rw [← e]
        exact (List.append_nil m).symm
      have hcb : (convert 30 9 u3).run Try.prog wr = .ok (.string ⟨m.toArray⟩) wr := by
        rcases hm1.2 with ⟨hv, h0⟩ | ⟨g, cap, cur, hv, h2⟩
        · rw [hv, run_convert_bytes_nil wr 30 5 Try.underlying30 Try.underlying5 0 0 9 Try.underlying9]
          have : m = [] := List.length_eq_zero_iff.1 h0
          rw [this]; rfl
        · rw [hv] at hm1 ⊢
          refine run_convert_bytes_back wr 30 9 5 ⟨g, 0, none⟩ cap m Try.underlying30 Try.underlying5 Try.underlying9 (fun j hj => ?_)
          refine hm1.cells (g := g) rfl j _ ?_
          simp [Lib.byteCells, hj]
      clear hm1
      go_wp2
      go_ret
      exact ⟨by rw [← HE.out]; rfl, HM3.out⟩

end Go.Proofs.Qxb6001116a.Lv
