/-
  The shelf's contracts on strings.IndexByte and strings.Index at this dump (laid by the shelf's own tool, in plain words).
-/
import Derived.Shelf.Small.Strs
import Derived.Shelf.Strings.Search1
import Derived.Shelf.Strings.Search2
import Derived.Shelf.Strings.Search3
import Derived.Shelf.LaysM
import Derived.Shelf.Strings.Shaped
import Derived.Test.Qxb6003347aProg
namespace Go.Proofs
open Go.Shelf
def Try.lays137_ren : Go.Shelf.Ren := ⟨fun | 137 => 39 | 217 => 50 | 266 => 56 | n => n, fun | 9 => 9 | 5 => 5 | 3 => 3 | n => n, fun | n => n⟩
theorem Try.lays137 : Go.Proofs.Lays.n137 Try.prog Try.lays137_ren := {
  mixed := by kernel_rfl
  f137 := Try.func39.trans (congrArg some (by kernel_rfl))
  f217 := Try.func50.trans (congrArg some (by kernel_rfl))
  f266 := Try.func56.trans (congrArg some (by kernel_rfl))
  t3 := Try.underlying3
  a3 := Try.isAgg3
  z3 := Try.sizeOf3
  v3 := Try.zeroValue3
  t5 := Try.underlying5
  a5 := Try.isAgg5
  z5 := Try.sizeOf5
  v5 := Try.zeroValue5
  t9 := Try.underlying9
  a9 := Try.isAgg9
  z9 := Try.sizeOf9
  v9 := Try.zeroValue9 }
open Go.RowKit in
/-- strings.IndexByte: "IndexByte returns the index of the first instance of c in s, or -1 if c is not present in s.": IT RETURNS 'Lib.indexByte s c'; the world is as it was. (LAID: no walk: one application.) -/
theorem Try.strings_IndexByte (s : ByteArray) (c : Int) (w : World) :
    Calls Try.prog 39 #[.string s, .int .u8 c] w fun e w' => e = .returned (.int .i64 (Lib.indexByte s.data.toList c.toNat.toUInt8)) ∧ w' = w := Any.strings_IndexByte Try.lays137 s c w
def Try.lays143_ren : Go.Shelf.Ren := ⟨fun | 143 => 49 | 219 => 55 | 217 => 50 | 225 => 59 | 224 => 60 | 267 => 61 | 266 => 56 | 314 => 64 | n => n, fun | 9 => 9 | 3 => 3 | 4 => 4 | 5 => 5 | 46 => 63 | 146 => 81 | 51 => 80 | n => n, fun | 1 => 0 | n => n⟩
theorem Try.lays143 : Go.Proofs.Lays.n143 Try.prog Try.lays143_ren := {
  mixed := by kernel_rfl
  f143 := Try.func49.trans (congrArg some (by kernel_rfl))
  f217 := Try.func50.trans (congrArg some (by kernel_rfl))
  f219 := Try.func55.trans (congrArg some (by kernel_rfl))
  f224 := Try.func60.trans (congrArg some (by kernel_rfl))
  f225 := Try.func59.trans (congrArg some (by kernel_rfl))
  f266 := Try.func56.trans (congrArg some (by kernel_rfl))
  f267 := Try.func61.trans (congrArg some (by kernel_rfl))
  f314 := Try.func64.trans (congrArg some (by kernel_rfl))
  t3 := Try.underlying3
  a3 := Try.isAgg3
  z3 := Try.sizeOf3
  v3 := Try.zeroValue3
  t4 := Try.underlying4
  a4 := Try.isAgg4
  z4 := Try.sizeOf4
  v4 := Try.zeroValue4
  t5 := Try.underlying5
  a5 := Try.isAgg5
  z5 := Try.sizeOf5
  v5 := Try.zeroValue5
  t9 := Try.underlying9
  a9 := Try.isAgg9
  z9 := Try.sizeOf9
  v9 := Try.zeroValue9
  t46 := Try.underlying63
  a46 := Try.isAgg63
  z46 := Try.sizeOf63
  v46 := Try.zeroValue63
  t51 := Try.underlying80
  a51 := Try.isAgg80
  z51 := Try.sizeOf80
  v51 := Try.zeroValue80
  t146 := Try.underlying81
  a146 := Try.isAgg81
  z146 := Try.sizeOf81
  v146 := Try.zeroValue81
  g1 := by kernel_rfl }
open Go.RowKit Go.Lib in
/-- strings.Index: "Index returns the index of the first instance of substr in s, or -1 if substr is not present in s.": IT RETURNS 'Lib.index s substr'; the world is as it was. (LAID: no walk: one application.) -/
theorem Try.strings_Index (s sub : ByteArray) (m : Int) (w : World) (hs : s.size < 4294967281) (hm : w.cell? ⟨0, 0, none⟩ = some (.int .i64 m)) :
    Calls Try.prog 49 #[.string s, .string sub] w fun e w' => e = .returned (.int .i64 (Lib.index s.data.toList sub.data.toList)) ∧ w' = w := Any.strings_Index Try.lays143 s sub m w hs hm
def Try.laysM143_ren : Go.Shelf.Ren := ⟨fun | 143 => 49 | 219 => 55 | 217 => 50 | 225 => 59 | 224 => 60 | 267 => 61 | 266 => 56 | 314 => 64 | n => n, fun | 9 => 9 | 3 => 3 | 4 => 4 | 5 => 5 | 46 => 63 | 146 => 81 | 51 => 80 | n => n, fun | 1 => 0 | n => n⟩
theorem Try.laysM143 : Go.Proofs.LaysM.n143 Try.prog Try.laysM143_ren := {
  mixed := by kernel_rfl
  f143 := Try.func49.trans (congrArg some (by kernel_rfl))
  f217 := Try.func50.trans (congrArg some (by kernel_rfl))
  f219 := Try.func55.trans (congrArg some (by kernel_rfl))
  f224 := Try.func60.trans (congrArg some (by kernel_rfl))
  f225 := Try.func59.trans (congrArg some (by kernel_rfl))
  f266 := Try.func56.trans (congrArg some (by kernel_rfl))
  f267 := Try.func61.trans (congrArg some (by kernel_rfl))
  f314 := Try.func64.trans (congrArg some (by kernel_rfl))
  t3 := Try.underlying3
  a3 := Try.isAgg3
  z3 := Try.sizeOf3
  v3 := Try.zeroValue3
  t4 := Try.underlying4
  a4 := Try.isAgg4
  z4 := Try.sizeOf4
  v4 := Try.zeroValue4
  t5 := Try.underlying5
  a5 := Try.isAgg5
  z5 := Try.sizeOf5
  v5 := Try.zeroValue5
  t9 := Try.underlying9
  a9 := Try.isAgg9
  z9 := Try.sizeOf9
  v9 := Try.zeroValue9
  t46 := Try.underlying63
  a46 := Try.isAgg63
  z46 := Try.sizeOf63
  v46 := Try.zeroValue63
  t51 := Try.underlying80
  a51 := Try.isAgg80
  z51 := Try.sizeOf80
  v51 := Try.zeroValue80
  t146 := Try.underlying81
  a146 := Try.isAgg81
  z146 := Try.sizeOf81
  v146 := Try.zeroValue81
  g1 := by kernel_rfl
  i3 := by kernel_rfl
  i4 := by kernel_rfl
  i5 := by kernel_rfl
  i9 := by kernel_rfl
  i46 := by kernel_rfl
  i51 := by kernel_rfl
  i146 := by kernel_rfl
  m1 := by kernel_rfl
  s1_3 := fun w h => Go.Proofs.cell_of_shapedOpen_int (zero := #[.int .i64 0]) (t := 3) h (of_decide_eq_true (by kernel_rfl)) (by kernel_rfl) rfl (by kernel_rfl) (by kernel_rfl) Try.underlying3 }
open Go.RowKit Go.Lib in
theorem Try.strings_Index_shaped (s sub : ByteArray) (w : World) (h : w.ShapedOpen Try.prog) (hs : s.size < 4294967281) :
    Calls Try.prog 49 #[.string s, .string sub] w fun e w' => e = .returned (.int .i64 (Lib.index s.data.toList sub.data.toList)) ∧ w' = w := Any.strings_Index_shaped Try.laysM143 s sub w h hs
end Go.Proofs
