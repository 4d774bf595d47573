/-
  Seat b6001116a: decimal.Group.
-/
import Derived.Test.Qxb6001116aSplit
import Derived.Test.Qxb6001116aBuilder
namespace Go.Proofs.Qxb6001116a.Lv
open Go.RowKit
set_option linter.unusedVariables false

/-- What Group has still to write when k digits are through. -/
def tl (l : List UInt8) (k : Nat) : List UInt8 := if k = 0 then M.grp l else M.grpR (l.drop k)

theorem tl_first {s : ByteArray} (h : 0 < s.size) : tl s.data.toList 0 = s[0] :: tl s.data.toList 1 := by
  have e := drop_cons s 0 h
  simp only [List.drop_zero] at e
  have e1 : s.data.toList.drop 1 = (s[0] :: s.data.toList.drop (0 + 1)).drop 1 := by rw [← e]
  unfold tl
  rw [if_pos rfl, if_neg (by omega)]
  conv => lhs; rw [e]
  rfl
theorem tl_comma {s : ByteArray} {k : Nat} (hk : ¬ k = 0) (h : k < s.size) (hm : (s.size - k) % 3 = 0) : tl s.data.toList k = 44 :: s[k] :: tl s.data.toList (k + 1) := by
  unfold tl
  rw [if_neg hk, if_neg (by omega), drop_cons s k h]
  show (if ((s.data.toList.drop (k + 1)).length + 1) % 3 = 0 then _ else _) = _
  rw [if_pos (by rw [List.length_drop, ← Lib.size_eq]; omega)]
theorem tl_plain {s : ByteArray} {k : Nat} (hk : ¬ k = 0) (h : k < s.size) (hm : ¬ (s.size - k) % 3 = 0) : tl s.data.toList k = s[k] :: tl s.data.toList (k + 1) := by
  unfold tl
  rw [if_neg hk, if_neg (by omega), drop_cons s k h]
  show (if ((s.data.toList.drop (k + 1)).length + 1) % 3 = 0 then _ else _) = _
  rw [if_neg (by rw [List.length_drop, ← Lib.size_eq]; omega)]
theorem tl_end {s : ByteArray} {k : Nat} (hk : ¬ k = 0) (h : s.size ≤ k) : tl s.data.toList k = [] := by
  unfold tl
  rw [if_neg hk, drop_end s k h]
  rfl

/-- What holds at the head of Group's loop: the builder in block b holds l, and l with what is still to come is the whole answer. -/
def Going (B b : Nat) (t : ByteArray) (w2 : World) (k : Nat) (wr : World) : Prop :=
  ∃ l : List UInt8, IsBld B b (Lib.byteCells l) wr ∧ l ++ tl t.data.toList k = M.grp t.data.toList ∧ Keep B b w2 wr

theorem grp_len_le (l : List UInt8) : (M.grp l).length ≤ 2 * l.length := by
  cases l with
  | nil => exact Nat.le_refl _
  | cons a l => rw [M.length_grp _ (by simp)]; simp only [List.length_cons]; omega

/-- The world in which the loop begins: the fresh builder in block N, the bytes in block N + 1. -/
structure Start (N : Nat) (t : ByteArray) (w1 w2 : World) : Prop where
  bld : IsBld (N + 2) N [] w2
  below : Below N w1 w2
  cell : ∀ k (h : k < t.size), w2.cell? ⟨N + 1, k, none⟩ = some (.int .u8 (t[k].toNat : Int))

theorem start_of (w1 : World) (t : ByteArray) : Start w1.heap.size t w1 (Lib.bytesWorld (w1.alloc (.cells #[.pointer none, .slice none 0 0] 33)) 5 t) := by
  have hsz : (w1.alloc (.cells #[.pointer none, .slice none 0 0] 33)).heap.size = w1.heap.size + 1 := by simp
  refine ⟨Or.inl ⟨by omega, ?_, .slice none 0 0, ?_, World.ownsRow_nil _ _ _ _⟩, ?_, fun k h => ?_⟩
  · rw [Lib.bytesWorld_size, hsz]; exact Nat.le_refl _
  · rw [Lib.bytesWorld_at_old _ _ _ _ (by rw [hsz]; omega)]
    exact heap_alloc_new w1 _
  · exact ((Below.refl _ _).alloc (Nat.le_refl _) _).trans ((bytes_below _ t).mono (by rw [hsz]; omega))
  · have := bytes_cell (w1.alloc (.cells #[.pointer none, .slice none 0 0] 33)) t k h
    rw [hsz] at this
    exact this

theorem Keep.cell {B b : Nat} {w w' : World} (h : Keep B b w w') {k o : Nat} (h1 : k < B) (h2 : k ≠ b) : w'.cell? ⟨k, o, none⟩ = w.cell? ⟨k, o, none⟩ := World.cell?_of_block (w := w) (h.block k h1 h2)

theorem Going.step1 {B b : Nat} {t : ByteArray} {w2 wr w' : World} {l : List UInt8} {c : UInt8} {rest : List UInt8} (hb : BldAt B b (.pointer (some ⟨b, 0, none⟩)) (Lib.byteCells l ++ [.int .u8 (c.toNat : Int)]) w') (hk : Keep B b wr w') (hk0 : Keep B b w2 wr)
    (he : l ++ (c :: rest) = M.grp t.data.toList) : IsBld B b (Lib.byteCells (l ++ [c])) w' ∧ (l ++ [c]) ++ rest = M.grp t.data.toList ∧ Keep B b w2 w' := by
  refine ⟨Or.inr ?_, by rw [List.append_assoc]; exact he, hk0.trans hk⟩
  rw [Lib.byteCells_append]
  exact hb

theorem dot_data (u : ByteArray) : ((⟨#[46]⟩ : ByteArray) ++ u).data.toList = 46 :: u.data.toList := by
  simp [ByteArray.data_append]
theorem dot_size (u : ByteArray) : ((⟨#[46]⟩ : ByteArray) ++ u).size = u.size + 1 := by
  rw [Lib.size_eq, dot_data, List.length_cons, ← Lib.size_eq]
theorem dot_cells (u : ByteArray) : Lib.strCells ((⟨#[46]⟩ : ByteArray) ++ u) = Lib.byteCells (46 :: u.data.toList) := by
  rw [Lib.strCells_eq, dot_data]

set_option maxHeartbeats 2000000 in
set_option maxRecDepth 100000 in
theorem Group_no (s : ByteArray) (w : World) (hs : s.size ≤ 2097152) (hok : M.okL s.data.toList = false) :
    Calls Try.prog 12 #[.string s] w fun e w' => e = .returned (.string s) ∧ Below w.heap.size w w' := by
  have HC : Hid (∀ w, Calls Try.prog 25 #[.string s] w fun e w' => e = .returned (.tuple #[.string ⟨(M.whole s.data.toList).toArray⟩, .string ⟨(M.frac s.data.toList).toArray⟩, .bool false]) ∧ Below w.heap.size w w') := by
    intro w
    have := split s w hs
    unfold splitV at this
    rw [hok] at this
    exact this
  clear hok
  go_enter Try.func12, Try.ntmps12
  go_wp2_with fail
  refine (HC.out _).mono ?_
  rintro e w1 ⟨rfl, hb⟩
  have HB := (show Hid _ from hb)
  clear hb
  go_wp2_with fail
  go_ret
  exact ⟨rfl, HB.out⟩

set_option maxHeartbeats 4000000 in
set_option maxRecDepth 100000 in
theorem Group_yes (s : ByteArray) (w : World) (hs : s.size ≤ 2097152) (hok : M.okL s.data.toList = true) :
    Calls Try.prog 12 #[.string s] w fun e w' => e = .returned (.string ⟨(M.group s.data.toList).toArray⟩) ∧ Below w.heap.size w w' := by
  have hcv := fun w s => Lib.run_convert_string_bytes (P := Try.prog) w 9 30 5 s Try.underlying9 Try.underlying30 Try.underlying5
  have HC : Hid (∀ w, Calls Try.prog 25 #[.string s] w fun e w' => e = .returned (.tuple #[.string ⟨(M.whole s.data.toList).toArray⟩, .string ⟨(M.frac s.data.toList).toArray⟩, .bool true]) ∧ Below w.heap.size w w') := by
    intro w
    have := split s w hs
    unfold splitV at this
    rw [hok] at this
    exact this
  have hwd : M.isDig (M.whole s.data.toList) = true := by unfold M.okL at hok; simp only [Bool.and_eq_true] at hok; exact hok.1
  have hgr : M.group s.data.toList = M.grp (M.whole s.data.toList) ++ (if M.frac s.data.toList = [] then [] else 46 :: M.frac s.data.toList) := by unfold M.group; rw [if_pos hok]
  have hwl := whole_len s.data.toList
  have hfl := frac_len s.data.toList
  rw [← Lib.size_eq] at hwl hfl
  obtain ⟨t, ht⟩ : ∃ t : ByteArray, t = ⟨(M.whole s.data.toList).toArray⟩ := ⟨_, rfl⟩
  obtain ⟨u, hu⟩ : ∃ u : ByteArray, u = ⟨(M.frac s.data.toList).toArray⟩ := ⟨_, rfl⟩
  have htl : M.whole s.data.toList = t.data.toList := by rw [ht]
  have hul : M.frac s.data.toList = u.data.toList := by rw [hu]
  rw [← ht, ← hu] at HC
  rw [hgr]
  rw [htl] at hwd hwl ⊢
  rw [hul] at hfl ⊢
  rw [← Lib.size_eq] at hwl hfl
  have hpos : 0 < t.size := by
    have h1 := (M.isDig_all hwd).1
    rw [Lib.size_eq]
    exact List.length_pos_iff.2 h1
  have hgl := grp_len_le t.data.toList
  rw [← Lib.size_eq] at hgl
  clear hok hwd hgr ht hu htl hul
  generalize hG : M.grp t.data.toList ++ (if u.data.toList = [] then [] else 46 :: u.data.toList) = G
  have HG : Hid (M.grp t.data.toList ++ (if u.data.toList = [] then [] else 46 :: u.data.toList) = G) := hG
  clear hG
  go_enter Try.func12, Try.ntmps12
  go_wp2_with fail
  refine (HC.out _).mono ?_
  rintro e w1 ⟨rfl, hb⟩
  have HB := (show Hid _ from hb)
  clear hb HC
  go_wp2_with fail
  have S := start_of w1 t
  have BW : Hid (Below w.heap.size w (Lib.bytesWorld (w1.alloc (.cells #[.pointer none, .slice none 0 0] 33)) 5 t)) := HB.out.trans (S.below.mono HB.out.size)
  have hNw : w.heap.size ≤ w1.heap.size := HB.out.size
  clear HB
  generalize Lib.bytesWorld (w1.alloc (.cells #[.pointer none, .slice none 0 0] 33)) 5 t = W2 at *
  generalize grownCap (w1.alloc (.cells #[.pointer none, .slice none 0 0] 33)) t.size 0 5 = gc at *
  have SB := (show Hid _ from S.bld)
  have SC := (show Hid _ from S.cell)
  clear S
  generalize w1.heap.size = N at *
  clear hcv
  go_loopw [21] (fun i wr => ∃ k : Nat, k ≤ t.size ∧ i = .int .i64 k ∧ Hid (Going (N + 2) N t W2 k wr)) (fun i _ => t.size - (intOf i).toNat)
  case atStart => exact ⟨0, by omega, rfl, ⟨[], SB.out, rfl, Keep.refl _ _ _⟩⟩
  case round =>
    obtain ⟨k, hk, rfl, hr⟩ := hrel
    obtain ⟨l, hl1, hl2, hl3⟩ := hr
    have hll : l.length ≤ 4194304 := by
      have e := congrArg List.length hl2
      rw [List.length_append] at e
      omega
    have L1 : Hid (IsBld (N + 2) N (Lib.byteCells l) wr) := hl1
    have L2 := (show Hid _ from hl2)
    have L3 := (show Hid _ from hl3)
    clear hl1 hl2 hl3
    by_cases hlt : k < t.size
    · have hcell : wr.cell? ⟨N + 1, k, none⟩ = some (.int .u8 (t[k].toNat : Int)) := by
        rw [L3.out.cell (by omega) (by omega)]; exact SC.out k hlt
      by_cases hk0 : k = 0
      · subst hk0
        have L4 : Hid (l ++ (t[0] :: tl t.data.toList 1) = M.grp t.data.toList) := by have := L2.out; rw [tl_first hpos] at this; exact this
        go_wp2_with fail
        refine (WriteByte (N + 2) N (Lib.byteCells l) _ _ L1.out (by rw [Lib.byteCells_length]; omega)).mono ?_
        rintro e w3 ⟨rfl, hb3, hk3⟩
        have G := (show Hid _ from Going.step1 (t := t) hb3 hk3 L3.out L4.out)
        clear hb3 hk3
        go_wp2_with fail
        go_roundw
        case rel => exact ⟨1, by omega, rfl, ⟨_, G.out.1, G.out.2.1, G.out.2.2⟩⟩
        case measure => simp [intOf]; omega
      · have hkp : (0 : Int) < (k : Int) := by omega
        by_cases hm : (t.size - k) % 3 = 0
        · have hm' : (((t.size : Int) - (k : Int)) % 3 == 0) = true := by simp; omega
          have L4 : Hid (l ++ (44 :: t[k] :: tl t.data.toList (k + 1)) = M.grp t.data.toList) := by have := L2.out; rw [tl_comma hk0 hlt hm] at this; exact this
          go_wp2_with fail
          refine (WriteByte (N + 2) N (Lib.byteCells l) _ _ L1.out (by rw [Lib.byteCells_length]; omega)).mono ?_
          rintro e w3 ⟨rfl, hb3, hk3⟩
          have G := (show Hid _ from Going.step1 (t := t) (c := 44) hb3 hk3 L3.out L4.out)
          clear hb3 hk3
          have hcell3 : w3.cell? ⟨N + 1, k, none⟩ = some (.int .u8 (t[k].toNat : Int)) := by
            rw [G.out.2.2.cell (by omega) (by omega)]; exact SC.out k hlt
          go_wp2_with fail
          refine (WriteByte (N + 2) N (Lib.byteCells (l ++ [44])) _ _ G.out.1 (by rw [Lib.byteCells_length, List.length_append]; simp; omega)).mono ?_
          rintro e w4 ⟨rfl, hb4, hk4⟩
          have G2 := (show Hid _ from Going.step1 (t := t) hb4 hk4 G.out.2.2 G.out.2.1)
          clear hb4 hk4
          go_wp2_with fail
          go_roundw
          case rel => exact ⟨k + 1, by omega, by go_num, ⟨_, G2.out.1, G2.out.2.1, G2.out.2.2⟩⟩
          case measure => simp [intOf]; omega
        · have hm' : (((t.size : Int) - (k : Int)) % 3 == 0) = false := by simp; omega
          have L4 : Hid (l ++ (t[k] :: tl t.data.toList (k + 1)) = M.grp t.data.toList) := by have := L2.out; rw [tl_plain hk0 hlt hm] at this; exact this
          go_wp2_with fail
          refine (WriteByte (N + 2) N (Lib.byteCells l) _ _ L1.out (by rw [Lib.byteCells_length]; omega)).mono ?_
          rintro e w3 ⟨rfl, hb3, hk3⟩
          have G := (show Hid _ from Going.step1 (t := t) hb3 hk3 L3.out L4.out)
          clear hb3 hk3
          go_wp2_with fail
          go_roundw
          case rel => exact ⟨k + 1, by omega, by go_num, ⟨_, G.out.1, G.out.2.1, G.out.2.2⟩⟩
          case measure => simp [intOf]; omega
    · have hkn : k = t.size := by omega
      have L4 : Hid (l = M.grp t.data.toList) := by have := L2.out; rw [tl_end (by omega) (by omega), List.append_nil] at this; exact this
      have hbel : Below w.heap.size w wr := BW.out.trans (L3.out.below (by omega) (by omega))
      have HBEL := (show Hid _ from hbel)
      clear hbel
      have hNs : N ≤ wr.heap.size := by
        rcases L1.out with h | h
        · have := h.2.1; omega
        · have := h.2.1; omega
      cases hu : u.toList.isEmpty
      · have HU : Hid (G = l ++ 46 :: u.data.toList) := by
          have e : u.data.toList ≠ [] := by
            intro e
            rw [Lib.toList_data, e] at hu
            cases hu
          show G = l ++ 46 :: u.data.toList
          rw [← HG.out, if_neg e, L4.out]
        go_wp2_with fail
        refine (WriteString (N + 2) N (Lib.byteCells l) _ _ L1.out (by rw [Lib.byteCells_length, dot_size]; omega)).mono ?_
        rintro e w4 ⟨rfl, hb4, hk4⟩
        have hb4' : IsBld (N + 2) N (Lib.byteCells (l ++ 46 :: u.data.toList)) w4 := Or.inr (by rw [dot_cells] at hb4; rw [Lib.byteCells_append]; exact hb4)
        have hN4 : N ≤ w4.heap.size := by have := hk4.size; omega
        have L5 : Hid (IsBld (N + 2) N (Lib.byteCells (l ++ 46 :: u.data.toList)) w4) := hb4'
        have H4 : Hid (Below w.heap.size w w4) := HBEL.out.trans (hk4.below (by omega) (by omega))
        clear hb4 hb4' hk4
        go_wp2_with fail
        refine (Try.Builder_String_any N N _ _ (IsBld.shelf L5.out) hN4).mono ?_
        rintro e w5 ⟨rfl, hb5⟩
        have H5 : Hid (Below w.heap.size w w5) := H4.out.trans (hb5.mono hNw)
        clear hb5
        go_wp2_with fail
        go_ret
        exact ⟨by rw [HU.out]; rfl, H5.out⟩
      · have HU : Hid (G = l) := by
          have e : u.data.toList = [] := by rw [← Lib.toList_data]; exact List.isEmpty_iff.1 hu
          show G = l
          rw [← HG.out, if_pos e, List.append_nil, L4.out]
        go_wp2_with fail
        refine (Try.Builder_String_any N N l _ (IsBld.shelf L1.out) hNs).mono ?_
        rintro e w5 ⟨rfl, hb5⟩
        have H5 : Hid (Below w.heap.size w w5) := HBEL.out.trans (hb5.mono hNw)
        clear hb5
        go_wp2_with fail
        go_ret
        exact ⟨by rw [HU.out]; rfl, H5.out⟩

theorem Group (s : ByteArray) (w : World) (hs : s.size ≤ 2097152) :
    Calls Try.prog 12 #[.string s] w fun e w' => e = .returned (.string ⟨(M.group s.data.toList).toArray⟩) ∧ Below w.heap.size w w' := by
  cases h : M.okL s.data.toList
  · have e : (⟨(M.group s.data.toList).toArray⟩ : ByteArray) = s := by
      unfold M.group
      rw [h, if_neg (by simp)]
    rw [e]
    exact Group_no s w hs h
  · exact Group_yes s w hs h

end Go.Proofs.Qxb6001116a.Lv
