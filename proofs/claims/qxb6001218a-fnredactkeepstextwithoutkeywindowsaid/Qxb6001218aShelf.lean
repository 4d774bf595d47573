/-
  The shelf's contracts at this dump, in plain words (shelf/once/tools/lay-shelf.mjs and lay-plain.mjs wrote the whole; here: those that the walks use).
-/
import Derived.Shelf.Strings.Search3
import Derived.Shelf.Strings.Shaped
import Derived.Test.Qxb6001218aProg
namespace Go.Proofs
open Go.Shelf
def Try.lays143_ren : Go.Shelf.Ren := ⟨fun | 143 => 15 | 219 => 20 | 217 => 22 | 225 => 23 | 224 => 24 | 267 => 25 | 266 => 27 | 314 => 28 | n => n, fun | 9 => 9 | 3 => 3 | 4 => 4 | 5 => 5 | 46 => 42 | 146 => 46 | 51 => 45 | n => n, fun | 1 => 0 | n => n⟩
theorem Try.lays143 : Go.Proofs.Lays.n143 Try.prog Try.lays143_ren := {
  mixed := by kernel_rfl
  f143 := Try.func15.trans (congrArg some (by kernel_rfl))
  f217 := Try.func22.trans (congrArg some (by kernel_rfl))
  f219 := Try.func20.trans (congrArg some (by kernel_rfl))
  f224 := Try.func24.trans (congrArg some (by kernel_rfl))
  f225 := Try.func23.trans (congrArg some (by kernel_rfl))
  f266 := Try.func27.trans (congrArg some (by kernel_rfl))
  f267 := Try.func25.trans (congrArg some (by kernel_rfl))
  f314 := Try.func28.trans (congrArg some (by kernel_rfl))
  t3 := Try.underlying3
  a3 := Try.isAgg3
  z3 := Try.sizeOf3
  v3 := Try.zeroValue3
  t4 := Try.underlying4
  a4 := Try.isAgg4
  z4 := Try.sizeOf4
  v4 := Try.zeroValue4
  t5 := Try.underlying5
  a5 := Try.isAgg5
  z5 := Try.sizeOf5
  v5 := Try.zeroValue5
  t9 := Try.underlying9
  a9 := Try.isAgg9
  z9 := Try.sizeOf9
  v9 := Try.zeroValue9
  t46 := Try.underlying42
  a46 := Try.isAgg42
  z46 := Try.sizeOf42
  v46 := Try.zeroValue42
  t51 := Try.underlying45
  a51 := Try.isAgg45
  z51 := Try.sizeOf45
  v51 := Try.zeroValue45
  t146 := Try.underlying46
  a146 := Try.isAgg46
  z146 := Try.sizeOf46
  v146 := Try.zeroValue46
  g1 := by kernel_rfl }
open Go.RowKit Go.Lib in
theorem Try.strings_Index (s sub : ByteArray) (m : Int) (w : World) (hs : s.size < 4294967281) (hm : w.cell? ⟨0, 0, none⟩ = some (.int .i64 m)) :
    Calls Try.prog 15 #[.string s, .string sub] w fun e w' => e = .returned (.int .i64 (Lib.index s.data.toList sub.data.toList)) ∧ w' = w := Any.strings_Index Try.lays143 s sub m w hs hm
def Try.laysM143_ren : Go.Shelf.Ren := ⟨fun | 143 => 15 | 219 => 20 | 217 => 22 | 225 => 23 | 224 => 24 | 267 => 25 | 266 => 27 | 314 => 28 | n => n, fun | 9 => 9 | 3 => 3 | 4 => 4 | 5 => 5 | 46 => 42 | 146 => 46 | 51 => 45 | n => n, fun | 1 => 0 | n => n⟩
theorem Try.laysM143 : Go.Proofs.LaysM.n143 Try.prog Try.laysM143_ren := {
  mixed := by kernel_rfl
  f143 := Try.func15.trans (congrArg some (by kernel_rfl))
  f217 := Try.func22.trans (congrArg some (by kernel_rfl))
  f219 := Try.func20.trans (congrArg some (by kernel_rfl))
  f224 := Try.func24.trans (congrArg some (by kernel_rfl))
  f225 := Try.func23.trans (congrArg some (by kernel_rfl))
  f266 := Try.func27.trans (congrArg some (by kernel_rfl))
  f267 := Try.func25.trans (congrArg some (by kernel_rfl))
  f314 := Try.func28.trans (congrArg some (by kernel_rfl))
  t3 := Try.underlying3
  a3 := Try.isAgg3
  z3 := Try.sizeOf3
  v3 := Try.zeroValue3
  t4 := Try.underlying4
  a4 := Try.isAgg4
  z4 := Try.sizeOf4
  v4 := Try.zeroValue4
  t5 := Try.underlying5
  a5 := Try.isAgg5
  z5 := Try.sizeOf5
  v5 := Try.zeroValue5
  t9 := Try.underlying9
  a9 := Try.isAgg9
  z9 := Try.sizeOf9
  v9 := Try.zeroValue9
  t46 := Try.underlying42
  a46 := Try.isAgg42
  z46 := Try.sizeOf42
  v46 := Try.zeroValue42
  t51 := Try.underlying45
  a51 := Try.isAgg45
  z51 := Try.sizeOf45
  v51 := Try.zeroValue45
  t146 := Try.underlying46
  a146 := Try.isAgg46
  z146 := Try.sizeOf46
  v146 := Try.zeroValue46
  g1 := by kernel_rfl
  i3 := by kernel_rfl
  i4 := by kernel_rfl
  i5 := by kernel_rfl
  i9 := by kernel_rfl
  i46 := by kernel_rfl
  i51 := by kernel_rfl
  i146 := by kernel_rfl
  m1 := by kernel_rfl
  s1_3 := fun w h => Go.Proofs.cell_of_shapedOpen_int (zero := #[.int .i64 0]) (t := 3) h (of_decide_eq_true (by kernel_rfl)) (by kernel_rfl) rfl (by kernel_rfl) (by kernel_rfl) Try.underlying3 }
end Go.Proofs
