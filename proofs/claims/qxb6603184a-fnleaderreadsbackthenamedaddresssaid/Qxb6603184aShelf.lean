import Derived.Shelf.Small.Wraps
import Derived.Shelf.LaysM
import Derived.Shelf.Strings.Shaped
import Derived.Test.Qxb6603184aProg
namespace Go.Proofs
open Go.Shelf Go.RowKit
def Try.lays103_ren : Go.Shelf.Ren := ⟨fun | 103 => 24 | 210 => 27 | 206 => 30 | n => n, fun | 9 => 9 | 4 => 4 | 24 => 34 | 3 => 3 | n => n, fun | n => n⟩
theorem Try.lays103 : Go.Proofs.Lays.n103 Try.prog Try.lays103_ren := {
  mixed := by kernel_rfl
  f103 := Try.func24.trans (congrArg some (by kernel_rfl))
  f206 := Try.func30.trans (congrArg some (by kernel_rfl))
  f210 := Try.func27.trans (congrArg some (by kernel_rfl))
  t3 := Try.underlying3
  a3 := Try.isAgg3
  z3 := Try.sizeOf3
  v3 := Try.zeroValue3
  t4 := Try.underlying4
  a4 := Try.isAgg4
  z4 := Try.sizeOf4
  v4 := Try.zeroValue4
  t9 := Try.underlying9
  a9 := Try.isAgg9
  z9 := Try.sizeOf9
  v9 := Try.zeroValue9
  t24 := Try.underlying34
  a24 := Try.isAgg34
  z24 := Try.sizeOf34
  v24 := Try.zeroValue34 }
theorem Try.strings_CutPrefix (s p : ByteArray) (w : World) :
    Calls Try.prog 24 #[.string s, .string p] w fun e w' => e = .returned (.tuple #[.string ⟨(Lib.trimPrefix s.data.toList p.data.toList).toArray⟩, .bool (Lib.hasPrefix s.data.toList p.data.toList)]) ∧ w' = w := Any.strings_CutPrefix Try.lays103 s p w
def Try.lays104_ren : Go.Shelf.Ren := ⟨fun | 104 => 25 | 211 => 28 | 207 => 31 | n => n, fun | 9 => 9 | 4 => 4 | 24 => 34 | 3 => 3 | n => n, fun | n => n⟩
theorem Try.lays104 : Go.Proofs.Lays.n104 Try.prog Try.lays104_ren := {
  mixed := by kernel_rfl
  f104 := Try.func25.trans (congrArg some (by kernel_rfl))
  f207 := Try.func31.trans (congrArg some (by kernel_rfl))
  f211 := Try.func28.trans (congrArg some (by kernel_rfl))
  t3 := Try.underlying3
  a3 := Try.isAgg3
  z3 := Try.sizeOf3
  v3 := Try.zeroValue3
  t4 := Try.underlying4
  a4 := Try.isAgg4
  z4 := Try.sizeOf4
  v4 := Try.zeroValue4
  t9 := Try.underlying9
  a9 := Try.isAgg9
  z9 := Try.sizeOf9
  v9 := Try.zeroValue9
  t24 := Try.underlying34
  a24 := Try.isAgg34
  z24 := Try.sizeOf34
  v24 := Try.zeroValue34 }
theorem Try.strings_CutSuffix (s p : ByteArray) (w : World) (hs : s.size ≤ 9223372036854775807) :
    Calls Try.prog 25 #[.string s, .string p] w fun e w' => e = .returned (.tuple #[.string ⟨(Lib.trimSuffix s.data.toList p.data.toList).toArray⟩, .bool (Lib.hasSuffix s.data.toList p.data.toList)]) ∧ w' = w := Any.strings_CutSuffix Try.lays104 s p w hs
def Try.laysM145_ren : Go.Shelf.Ren := ⟨fun | 145 => 26 | 220 => 29 | 219 => 32 | 217 => 33 | 225 => 34 | 224 => 35 | 267 => 36 | 266 => 37 | 314 => 38 | n => n, fun | 9 => 9 | 4 => 4 | 59 => 39 | 3 => 3 | 5 => 5 | 46 => 44 | 146 => 46 | 51 => 45 | n => n, fun | 1 => 0 | n => n⟩
theorem Try.laysM145 : Go.Proofs.LaysM.n145 Try.prog Try.laysM145_ren := {
  mixed := by kernel_rfl
  f145 := Try.func26.trans (congrArg some (by kernel_rfl))
  f217 := Try.func33.trans (congrArg some (by kernel_rfl))
  f219 := Try.func32.trans (congrArg some (by kernel_rfl))
  f220 := Try.func29.trans (congrArg some (by kernel_rfl))
  f224 := Try.func35.trans (congrArg some (by kernel_rfl))
  f225 := Try.func34.trans (congrArg some (by kernel_rfl))
  f266 := Try.func37.trans (congrArg some (by kernel_rfl))
  f267 := Try.func36.trans (congrArg some (by kernel_rfl))
  f314 := Try.func38.trans (congrArg some (by kernel_rfl))
  t3 := Try.underlying3
  a3 := Try.isAgg3
  z3 := Try.sizeOf3
  v3 := Try.zeroValue3
  t4 := Try.underlying4
  a4 := Try.isAgg4
  z4 := Try.sizeOf4
  v4 := Try.zeroValue4
  t5 := Try.underlying5
  a5 := Try.isAgg5
  z5 := Try.sizeOf5
  v5 := Try.zeroValue5
  t9 := Try.underlying9
  a9 := Try.isAgg9
  z9 := Try.sizeOf9
  v9 := Try.zeroValue9
  t46 := Try.underlying44
  a46 := Try.isAgg44
  z46 := Try.sizeOf44
  v46 := Try.zeroValue44
  t51 := Try.underlying45
  a51 := Try.isAgg45
  z51 := Try.sizeOf45
  v51 := Try.zeroValue45
  t59 := Try.underlying39
  a59 := Try.isAgg39
  z59 := Try.sizeOf39
  v59 := Try.zeroValue39
  t146 := Try.underlying46
  a146 := Try.isAgg46
  z146 := Try.sizeOf46
  v146 := Try.zeroValue46
  g1 := by kernel_rfl
  i3 := by kernel_rfl
  i4 := by kernel_rfl
  i5 := by kernel_rfl
  i9 := by kernel_rfl
  i46 := by kernel_rfl
  i51 := by kernel_rfl
  i59 := by kernel_rfl
  i146 := by kernel_rfl
  m1 := by kernel_rfl
  s1_3 := fun w h => Go.Proofs.cell_of_shapedOpen_int (zero := #[.int .i64 0]) (t := 3) h (of_decide_eq_true (by kernel_rfl)) (by kernel_rfl) rfl (by kernel_rfl) (by kernel_rfl) Try.underlying3 }
theorem Try.strings_Cut_shaped (s sep : ByteArray) (w : World) (h : w.ShapedOpen Try.prog) (hs : s.size < 4294967281) :
    Calls Try.prog 26 #[.string s, .string sep] w fun e w' => e = .returned (.tuple #[.string ⟨(Lib.cut s.data.toList sep.data.toList).1.toArray⟩, .string ⟨(Lib.cut s.data.toList sep.data.toList).2.1.toArray⟩, .bool (Lib.cut s.data.toList sep.data.toList).2.2]) ∧ ∃ n, w' = w.drewN n := Any.strings_Cut_shaped Try.laysM145 s sep w h hs
end Go.Proofs
