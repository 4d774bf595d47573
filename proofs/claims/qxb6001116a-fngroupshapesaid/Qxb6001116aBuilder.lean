/-
  Seat b6001116a: strings.Builder's copyCheck, WriteByte and WriteString at this dump (the loader refuses copyCheck's last arm here, so the shelf's bodies do not fit): after the shelf's own walks (Derived/Shelf/Strings/Builder1.lean), with a frame that keeps every block below B but the builder's own.
-/
import Derived.Test.Qxb6001116aLeaves
import Derived.Lib.Builder
import Derived.Lib.AppendStr
import Derived.Lib.UnsafeStr
import Derived.Lib.Slices
import Derived.Lib.Walk
import Derived.Laws.Externs
namespace Go.Proofs.Qxb6001116a.Lv
open Go.RowKit
set_option linter.unusedVariables false

theorem size33 : (Try.prog.info? 33).map (·.size) = some 2 := by kernel_rfl
theorem lies33 : liesAt Try.prog Try.prog.depth 33 (2 / Try.prog.cellsOf 33) 0 33 1 = true := by kernel_rfl
theorem info5 : (Try.prog.info? 5).map (fun i => (i.zero, i.size, i.bytes)) = some (some (.int .u8 0), 1, 1) := by kernel_rfl

/-- Below B, but for block b, the world w' is as w was. -/
structure Keep (B b : Nat) (w w' : World) : Prop where
  os : w'.os = w.os
  tape : w'.tape = w.tape
  output : w'.output = w.output
  size : w.heap.size ≤ w'.heap.size
  block : ∀ k, k < B → k ≠ b → w'.heap[k]? = w.heap[k]?

theorem Keep.refl (B b : Nat) (w : World) : Keep B b w w := ⟨rfl, rfl, rfl, Nat.le_refl _, fun _ _ _ => rfl⟩
theorem Keep.trans {B b : Nat} {a c d : World} (h : Keep B b a c) (k : Keep B b c d) : Keep B b a d :=
  ⟨k.os.trans h.os, k.tape.trans h.tape, k.output.trans h.output, Nat.le_trans h.size k.size, fun i hi hb => (k.block i hi hb).trans (h.block i hi hb)⟩
theorem Keep.below {B b B' : Nat} {w w' : World} (h : Keep B b w w') (h1 : B' ≤ b) (h2 : B' ≤ B) : Below B' w w' :=
  ⟨h.os, h.tape, h.output, h.size, fun k hk => h.block k (by omega) (by omega)⟩
theorem Keep.setCell {B b : Nat} (w : World) (o : Nat) (v : Value) : Keep B b w (w.setCell ⟨b, o, none⟩ v) :=
  ⟨rfl, rfl, rfl, by simp [World.setCell], fun k _ hk => Below.heap_setCell _ _ _ _ hk⟩
theorem Keep.alloc {B b : Nat} (w : World) (o : Obj) (h : B ≤ w.heap.size) : Keep B b w (w.alloc o) :=
  ⟨rfl, rfl, rfl, by simp, fun k hk _ => Below.heap_alloc _ _ _ (by omega)⟩
theorem Keep.grown {B b : Nat} {w w' : World} {row : Option Nat} (hg : w.grownBy w' row) (h : B ≤ w.heap.size) (hr : ∀ k, row = some k → B ≤ k) : Keep B b w w' :=
  ⟨hg.os, hg.tape, hg.output, hg.size, fun k hk _ => hg.block k (by omega) (fun e => by have := hr k e.symm; omega)⟩

/-- A strings.Builder in block b, below B; its buffer is nil or a row of its own from B on; it holds bs. -/
def BldAt (B b : Nat) (p : Value) (bs : List Value) (w : World) : Prop :=
  b < B ∧ B ≤ w.heap.size ∧ ∃ v, w.heap[b]? = some (.cells #[p, v] 33 (0, 0)) ∧ w.ownsRow B 5 1 v bs.length bs
/-- .. fresh or used. -/
def IsBld (B b : Nat) (bs : List Value) (w : World) : Prop := BldAt B b (.pointer none) bs w ∨ BldAt B b (.pointer (some ⟨b, 0, none⟩)) bs w

theorem own_ne {B b : Nat} {v : Value} {n : Nat} {xs : List Value} {w : World} (h : w.ownsRow B 5 1 v n xs) (hb : b < B) : v.ownBlock ≠ some b := by
  intro e
  have := (h.lt b e).1
  omega

theorem BldAt.put {B b : Nat} {p v v' : Value} {bs' : List Value} {w : World} (hB : b < B) (hs : B ≤ w.heap.size) (hb : w.heap[b]? = some (.cells #[p, v] 33 (0, 0))) (hown : w.ownsRow B 5 1 v' bs'.length bs') :
    BldAt B b p bs' (w.setCell ⟨b, 1, none⟩ v') := by
  have hne := own_ne hown hB
  refine ⟨hB, by simpa [World.setCell] using hs, v', ?_, ?_⟩
  · simp [World.setCell, Array.getElem?_modify, hb]
  · exact hown.kept (row := some b) ⟨rfl, rfl, rfl, by simp [World.setCell], fun k _ hk => Below.heap_setCell _ _ _ _ (fun e => hk (by simp [e]))⟩ (Or.inr hne)

theorem BldAt.used {B b : Nat} {p : Value} {bs : List Value} {w : World} (h : BldAt B b p bs w) (q : Value) : BldAt B b q bs (w.setCell ⟨b, 0, none⟩ q) := by
  obtain ⟨hB, hs, v, hb, hown⟩ := h
  have hne := own_ne hown hB
  refine ⟨hB, by simpa [World.setCell] using hs, v, ?_, ?_⟩
  · simp [World.setCell, Array.getElem?_modify, hb]
  · exact hown.kept (row := some b) ⟨rfl, rfl, rfl, by simp [World.setCell], fun k _ hk => Below.heap_setCell _ _ _ _ (fun e => hk (by simp [e]))⟩ (Or.inr hne)

theorem ownsRow_mono {B B' : Nat} {e : TypeId} {size : Nat} {v : Value} {n : Nat} {xs : List Value} {w : World} (h : w.ownsRow B e size v n xs) (hB : B' ≤ B) : w.ownsRow B' e size v n xs := by
  obtain ⟨h1, h2⟩ := h
  refine ⟨h1, ?_⟩
  rcases h2 with h2 | ⟨g, cap, cur, hv, hg, r⟩
  · exact Or.inl h2
  · exact Or.inr ⟨g, cap, cur, hv, by omega, r⟩

/-- In the shelf's words. -/
theorem IsBld.shelf {B b : Nat} {bs : List Value} {w : World} (h : IsBld B b bs w) : Lib.IsBuilder 33 5 b b bs w := by
  rcases h with ⟨hB, hs, v, hb, hown⟩ | ⟨hB, hs, v, hb, hown⟩
  · exact Or.inl ⟨Nat.le_refl _, v, hb, ownsRow_mono hown (by omega), own_ne hown hB⟩
  · exact Or.inr ⟨Nat.le_refl _, v, hb, ownsRow_mono hown (by omega), own_ne hown hB⟩

set_option maxHeartbeats 1000000 in
set_option maxRecDepth 100000 in
theorem copyCheck_used (b : Nat) (w : World) (h0 : w.cell? ⟨b, 0, none⟩ = some (.pointer (some ⟨b, 0, none⟩))) :
    Calls Try.prog 33 #[.pointer (some ⟨b, 0, none⟩)] w fun e w' => e = .returned (.tuple #[]) ∧ w' = w := by
  obtain ⟨j, hj, _⟩ := Option.map_eq_some_iff.1 size33
  go_enter Try.func33, Try.ntmps33
  go_wp2
  rw [Lib.run_neq_ptr_same w _ Try.underlying31 hj]
  go_wp2
  go_end0
  exact ⟨rfl, rfl⟩

set_option maxHeartbeats 1000000 in
set_option maxRecDepth 100000 in
theorem copyCheck_fresh (b : Nat) (w : World) (h0 : w.cell? ⟨b, 0, none⟩ = some (.pointer none)) (hsh : w.shape? b = some (33, 2)) (hfz : w.frozen? ⟨b, 0, none⟩ = false) :
    Calls Try.prog 33 #[.pointer (some ⟨b, 0, none⟩)] w fun e w' => e = .returned (.tuple #[]) ∧ w' = w.setCell ⟨b, 0, none⟩ (.pointer (some ⟨b, 0, none⟩)) := by
  obtain ⟨j, hj, hjs⟩ := Option.map_eq_some_iff.1 size33
  go_enter Try.func33, Try.ntmps33
  go_wp2
  rw [Lib.run_to_unsafe w ⟨b, 0, none⟩ Try.underlying31 Try.underlying44 hj (by rw [hjs]; decide) hsh (Nat.zero_lt_succ 1)]
  simp only [Result.andThen]
  rw [Oper.upon_value]
  go_wp2
  rw [run_callFunc_extern Try.func36 (by kernel_rfl) (by kernel_rfl) (by kernel_rfl) (e := Extern.AbiNoEscape.same) (by kernel_rfl)]
  rw [Lib.run_noEscape]
  simp only [Result.andThen]
  rw [Oper.upon_value]
  go_wp2
  rw [Lib.run_from_unsafe w ⟨b, 0, none⟩ Try.underlying44 Try.underlying31 hj hsh lies33]
  simp only [Result.andThen]
  rw [Oper.upon_value]
  go_wp2
  go_end0
  exact ⟨rfl, rfl⟩

theorem copyCheck (B b : Nat) (bs : List Value) (w : World) (h : IsBld B b bs w) :
    Calls Try.prog 33 #[.pointer (some ⟨b, 0, none⟩)] w fun e w' => e = .returned (.tuple #[]) ∧ (BldAt B b (.pointer (some ⟨b, 0, none⟩)) bs w' ∧ Keep B b w w') := by
  rcases h with h | h
  · obtain ⟨hB, hs, v, hb, hown⟩ := h
    refine (copyCheck_fresh b w (by rw [Lib.cell_of_heap hb]; rfl) (by simp [World.shape?, hb]) (Lib.frozen_of_heap hb 0)).mono ?_
    rintro e w' ⟨rfl, rfl⟩
    exact ⟨rfl, BldAt.used ⟨hB, hs, v, hb, hown⟩ _, Keep.setCell _ _ _⟩
  · obtain ⟨hB, hs, v, hb, hown⟩ := h
    refine (copyCheck_used b w (by rw [Lib.cell_of_heap hb]; rfl)).mono ?_
    rintro e w' ⟨rfl, rfl⟩
    exact ⟨rfl, ⟨hB, hs, v, hb, hown⟩, Keep.refl _ _ _⟩

set_option maxHeartbeats 2000000 in
set_option maxRecDepth 100000 in
theorem WriteByte (B b : Nat) (bs : List Value) (c : Int) (w : World) (h : IsBld B b bs w) (hlen : bs.length + 1 ≤ 140737488355328) :
    Calls Try.prog 26 #[.pointer (some ⟨b, 0, none⟩), .int .u8 c] w fun e w' => e = .returned .nilIface ∧ (BldAt B b (.pointer (some ⟨b, 0, none⟩)) (bs ++ [.int .u8 c]) w' ∧ Keep B b w w') := by
  obtain ⟨i0, hi, hz0, hz1, hz2⟩ := info_parts info5
  go_enter Try.func26, Try.ntmps26
  go_wp2_with (go_at_call 33; refine (copyCheck B b bs _ h).mono ?_)
  rintro e w1 ⟨rfl, h1, hb1⟩
  obtain ⟨hB, hs1, v, hbk, hown⟩ := h1
  have hne := own_ne hown hB
  have c0 : w1.cell? ⟨b, 0, none⟩ = some (.pointer (some ⟨b, 0, none⟩)) := by rw [Lib.cell_of_heap hbk]; rfl
  have c1 : w1.cell? ⟨b, 1, none⟩ = some v := by rw [Lib.cell_of_heap hbk]; rfl
  go_wp2_with (at_builtin; refine wpList_append_own _ rfl _ _ 30 rfl B 5 i0 (.int .u8 0) 1 1 Try.underlying30 hi hz0 hz1 hz2 rfl (by decide) _ _ _ rfl (hown.alloc _) ⟨w1.heap.size, 0, none⟩ 1 1 [.int .u8 c] rfl rfl ?c1 ?c2 ?c3 ?c4 ?c5 ?_)
  case c1 =>
    intro j u hj
    match j, hj with
    | 0, hj => simp at hj; subst hj; simp [Addr.add]
  case c2 => intro u hu; simp at hu; subst hu; rfl
  case c3 => unfold maxLen; omega
  case c4 => omega
  case c5 => simp; omega
  intro v' w2 hown' hgrow _
  have hlt : b < w1.heap.size := by omega
  have hb2 : w2.heap[b]? = some (.cells #[.pointer (some ⟨b, 0, none⟩), v] 33 (0, 0)) := by
    rw [hgrow.block b (by simp; omega) (fun e => hne e.symm), Lib.alloc_old w1 _ b hlt]
    exact hbk
  have hs2 : B ≤ w2.heap.size := by have := hgrow.size; simp at this; omega
  have d0 : w2.cell? ⟨b, 0, none⟩ = some (.pointer (some ⟨b, 0, none⟩)) := by rw [Lib.cell_of_heap hb2]; rfl
  have d1 : w2.cell? ⟨b, 1, none⟩ = some v := by rw [Lib.cell_of_heap hb2]; rfl
  have f1 : w2.frozen? ⟨b, 1, none⟩ = false := Lib.frozen_of_heap hb2 1
  obtain ⟨g, cap, rfl⟩ : ∃ g cap, v' = .slice (some ⟨g, 0, none⟩) (bs.length + 1) cap := by
    rcases hown'.2 with ⟨_, h0⟩ | ⟨g, cap, cur, hv, _⟩
    · omega
    · exact ⟨g, cap, hv⟩
  go_wp2
  go_ret
  refine ⟨rfl, ?_, ?_⟩
  · exact BldAt.put hB hs2 hb2 (bs' := bs ++ [.int .u8 c]) (by simpa using hown')
  · exact hb1.trans ((Keep.alloc w1 _ hs1).trans ((Keep.grown hgrow (by simp; omega) (fun k hk => (hown.lt k hk).1)).trans (Keep.setCell _ _ _)))

set_option maxHeartbeats 2000000 in
set_option maxRecDepth 100000 in
theorem WriteString (B b : Nat) (bs : List Value) (s : ByteArray) (w : World) (h : IsBld B b bs w) (hlen : bs.length + s.size ≤ 140737488355328) :
    Calls Try.prog 27 #[.pointer (some ⟨b, 0, none⟩), .string s] w fun e w' => e = .returned (.tuple #[.int .i64 s.size, .nilIface]) ∧ (BldAt B b (.pointer (some ⟨b, 0, none⟩)) (bs ++ Lib.strCells s) w' ∧ Keep B b w w') := by
  obtain ⟨i0, hi, hz0, hz1, hz2⟩ := info_parts info5
  go_enter Try.func27, Try.ntmps27
  go_wp2_with (go_at_call 33; refine (copyCheck B b bs _ h).mono ?_)
  rintro e w1 ⟨rfl, h1, hb1⟩
  obtain ⟨hB, hs1, v, hbk, hown⟩ := h1
  have hne := own_ne hown hB
  have c0 : w1.cell? ⟨b, 0, none⟩ = some (.pointer (some ⟨b, 0, none⟩)) := by rw [Lib.cell_of_heap hbk]; rfl
  have c1 : w1.cell? ⟨b, 1, none⟩ = some v := by rw [Lib.cell_of_heap hbk]; rfl
  go_wp2_with (at_builtin; refine Lib.wpList_append_own_string _ rfl _ _ 30 9 rfl B 5 i0 Try.underlying30 Try.underlying9 hi hz0 hz1 hz2 _ _ _ rfl hown s rfl ?c3 ?c4 ?c5 ?_)
  case c3 => unfold maxLen; omega
  case c4 => omega
  case c5 => omega
  intro v' w2 hown' hgrow _
  have hlt : b < w1.heap.size := by omega
  have hb2 : w2.heap[b]? = some (.cells #[.pointer (some ⟨b, 0, none⟩), v] 33 (0, 0)) := by
    rw [hgrow.block b hlt (fun e => hne e.symm)]
    exact hbk
  have hs2 : B ≤ w2.heap.size := by have := hgrow.size; omega
  have d0 : w2.cell? ⟨b, 0, none⟩ = some (.pointer (some ⟨b, 0, none⟩)) := by rw [Lib.cell_of_heap hb2]; rfl
  have d1 : w2.cell? ⟨b, 1, none⟩ = some v := by rw [Lib.cell_of_heap hb2]; rfl
  have f1 : w2.frozen? ⟨b, 1, none⟩ = false := Lib.frozen_of_heap hb2 1
  obtain ⟨ao, n', cap, rfl⟩ : ∃ ao n' cap, v' = .slice ao n' cap := by
    rcases hown'.2 with ⟨hv, _⟩ | ⟨g, cap, cur, hv, _⟩
    · exact ⟨_, _, _, hv⟩
    · exact ⟨_, _, _, hv⟩
  go_wp2
  go_ret2
  refine ⟨rfl, ?_, ?_⟩
  · exact BldAt.put hB hs2 hb2 (bs' := bs ++ Lib.strCells s) (by simpa [Lib.strCells_length] using hown')
  · exact hb1.trans ((Keep.grown hgrow (by omega) (fun k hk => (hown.lt k hk).1)).trans (Keep.setCell _ _ _))

end Go.Proofs.Qxb6001116a.Lv
