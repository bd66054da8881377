/-
  The shelf's layings at this program (written by the kit's lay-plain.mjs, cut to what is used).
-/
import Derived.Shelf.Small.Wraps
import Derived.Shelf.Strings.Prefix
import Derived.Shelf.Strings.Cut
import Derived.Shelf.LaysM
import Derived.Test.Qxb6600168aProg
namespace Go.Proofs
open Go.Shelf
def Try.lays103_ren : Go.Shelf.Ren := ⟨fun | 103 => 34 | 210 => 39 | 206 => 42 | n => n, fun | 9 => 9 | 4 => 4 | 24 => 46 | 3 => 3 | n => n, fun | n => n⟩
theorem Try.lays103 : Go.Proofs.Lays.n103 Try.prog Try.lays103_ren := {
  mixed := by kernel_rfl
  f103 := Try.func34.trans (congrArg some (by kernel_rfl))
  f206 := Try.func42.trans (congrArg some (by kernel_rfl))
  f210 := Try.func39.trans (congrArg some (by kernel_rfl))
  t3 := Try.underlying3
  a3 := Try.isAgg3
  z3 := Try.sizeOf3
  v3 := Try.zeroValue3
  t4 := Try.underlying4
  a4 := Try.isAgg4
  z4 := Try.sizeOf4
  v4 := Try.zeroValue4
  t9 := Try.underlying9
  a9 := Try.isAgg9
  z9 := Try.sizeOf9
  v9 := Try.zeroValue9
  t24 := Try.underlying46
  a24 := Try.isAgg46
  z24 := Try.sizeOf46
  v24 := Try.zeroValue46 }
def Try.lays99_ren : Go.Shelf.Ren := ⟨fun | 99 => 37 | 206 => 42 | n => n, fun | 9 => 9 | 4 => 4 | 3 => 3 | n => n, fun | n => n⟩
theorem Try.lays99 : Go.Proofs.Lays.n99 Try.prog Try.lays99_ren := {
  mixed := by kernel_rfl
  f99 := Try.func37.trans (congrArg some (by kernel_rfl))
  f206 := Try.func42.trans (congrArg some (by kernel_rfl))
  t3 := Try.underlying3
  a3 := Try.isAgg3
  z3 := Try.sizeOf3
  v3 := Try.zeroValue3
  t4 := Try.underlying4
  a4 := Try.isAgg4
  z4 := Try.sizeOf4
  v4 := Try.zeroValue4
  t9 := Try.underlying9
  a9 := Try.isAgg9
  z9 := Try.sizeOf9
  v9 := Try.zeroValue9 }
def Try.lays101_ren : Go.Shelf.Ren := ⟨fun | 101 => 36 | 208 => 41 | 206 => 42 | n => n, fun | 9 => 9 | 4 => 4 | 3 => 3 | n => n, fun | n => n⟩
theorem Try.lays101 : Go.Proofs.Lays.n101 Try.prog Try.lays101_ren := {
  mixed := by kernel_rfl
  f101 := Try.func36.trans (congrArg some (by kernel_rfl))
  f206 := Try.func42.trans (congrArg some (by kernel_rfl))
  f208 := Try.func41.trans (congrArg some (by kernel_rfl))
  t3 := Try.underlying3
  a3 := Try.isAgg3
  z3 := Try.sizeOf3
  v3 := Try.zeroValue3
  t4 := Try.underlying4
  a4 := Try.isAgg4
  z4 := Try.sizeOf4
  v4 := Try.zeroValue4
  t9 := Try.underlying9
  a9 := Try.isAgg9
  z9 := Try.sizeOf9
  v9 := Try.zeroValue9 }
def Try.laysM145_ren : Go.Shelf.Ren := ⟨fun | 145 => 35 | 220 => 40 | 219 => 44 | 217 => 45 | 225 => 46 | 224 => 47 | 267 => 48 | 266 => 49 | 314 => 50 | n => n, fun | 9 => 9 | 4 => 4 | 59 => 25 | 3 => 3 | 5 => 5 | 46 => 53 | 146 => 55 | 51 => 54 | n => n, fun | 1 => 0 | n => n⟩
theorem Try.laysM145 : Go.Proofs.LaysM.n145 Try.prog Try.laysM145_ren := {
  mixed := by kernel_rfl
  f145 := Try.func35.trans (congrArg some (by kernel_rfl))
  f217 := Try.func45.trans (congrArg some (by kernel_rfl))
  f219 := Try.func44.trans (congrArg some (by kernel_rfl))
  f220 := Try.func40.trans (congrArg some (by kernel_rfl))
  f224 := Try.func47.trans (congrArg some (by kernel_rfl))
  f225 := Try.func46.trans (congrArg some (by kernel_rfl))
  f266 := Try.func49.trans (congrArg some (by kernel_rfl))
  f267 := Try.func48.trans (congrArg some (by kernel_rfl))
  f314 := Try.func50.trans (congrArg some (by kernel_rfl))
  t3 := Try.underlying3
  a3 := Try.isAgg3
  z3 := Try.sizeOf3
  v3 := Try.zeroValue3
  t4 := Try.underlying4
  a4 := Try.isAgg4
  z4 := Try.sizeOf4
  v4 := Try.zeroValue4
  t5 := Try.underlying5
  a5 := Try.isAgg5
  z5 := Try.sizeOf5
  v5 := Try.zeroValue5
  t9 := Try.underlying9
  a9 := Try.isAgg9
  z9 := Try.sizeOf9
  v9 := Try.zeroValue9
  t46 := Try.underlying53
  a46 := Try.isAgg53
  z46 := Try.sizeOf53
  v46 := Try.zeroValue53
  t51 := Try.underlying54
  a51 := Try.isAgg54
  z51 := Try.sizeOf54
  v51 := Try.zeroValue54
  t59 := Try.underlying25
  a59 := Try.isAgg25
  z59 := Try.sizeOf25
  v59 := Try.zeroValue25
  t146 := Try.underlying55
  a146 := Try.isAgg55
  z146 := Try.sizeOf55
  v146 := Try.zeroValue55
  g1 := by kernel_rfl
  i3 := by kernel_rfl
  i4 := by kernel_rfl
  i5 := by kernel_rfl
  i9 := by kernel_rfl
  i46 := by kernel_rfl
  i51 := by kernel_rfl
  i59 := by kernel_rfl
  i146 := by kernel_rfl
  m1 := by kernel_rfl
  s1_3 := fun w h => Go.Proofs.cell_of_shapedOpen_int (zero := #[.int .i64 0]) (t := 3) h (of_decide_eq_true (by kernel_rfl)) (by kernel_rfl) rfl (by kernel_rfl) (by kernel_rfl) Try.underlying3 }
end Go.Proofs
