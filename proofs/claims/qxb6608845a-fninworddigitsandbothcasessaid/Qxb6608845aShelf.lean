/- The shelf's contracts of the library, laid at this program by the kit's tools (lay-shelf, lay-plain). -/
import Derived.Shelf.LaysM
import Derived.Shelf.Small.Wraps
import Derived.Shelf.Strings.Cut
import Derived.Shelf.Strings.Shaped
import Derived.Test.Qxb6608845aProg
namespace Go.Proofs
open Go.Shelf
def Try.lays103_ren : Go.Shelf.Ren := ⟨fun | 103 => 9 | 210 => 12 | 206 => 14 | n => n, fun | 9 => 9 | 4 => 4 | 24 => 27 | 3 => 3 | n => n, fun | n => n⟩
theorem Try.lays103 : Go.Proofs.Lays.n103 Try.prog Try.lays103_ren := {
  mixed := by kernel_rfl
  f103 := Try.func9.trans (congrArg some (by kernel_rfl))
  f206 := Try.func14.trans (congrArg some (by kernel_rfl))
  f210 := Try.func12.trans (congrArg some (by kernel_rfl))
  t3 := Try.underlying3
  a3 := Try.isAgg3
  z3 := Try.sizeOf3
  v3 := Try.zeroValue3
  t4 := Try.underlying4
  a4 := Try.isAgg4
  z4 := Try.sizeOf4
  v4 := Try.zeroValue4
  t9 := Try.underlying9
  a9 := Try.isAgg9
  z9 := Try.sizeOf9
  v9 := Try.zeroValue9
  t24 := Try.underlying27
  a24 := Try.isAgg27
  z24 := Try.sizeOf27
  v24 := Try.zeroValue27 }
open Go.RowKit in
theorem Try.strings_CutPrefix (s p : ByteArray) (w : World) :
    Calls Try.prog 9 #[.string s, .string p] w fun e w' => e = .returned (.tuple #[.string ⟨(Lib.trimPrefix s.data.toList p.data.toList).toArray⟩, .bool (Lib.hasPrefix s.data.toList p.data.toList)]) ∧ w' = w := Any.strings_CutPrefix Try.lays103 s p w
def Try.lays145_ren : Go.Shelf.Ren := ⟨fun | 145 => 10 | 220 => 13 | 219 => 15 | 217 => 16 | 225 => 17 | 224 => 18 | 267 => 19 | 266 => 20 | 314 => 21 | n => n, fun | 9 => 9 | 4 => 4 | 59 => 29 | 3 => 3 | 5 => 5 | 46 => 35 | 146 => 37 | 51 => 36 | n => n, fun | 1 => 0 | n => n⟩
theorem Try.lays145 : Go.Proofs.Lays.n145 Try.prog Try.lays145_ren := {
  mixed := by kernel_rfl
  f145 := Try.func10.trans (congrArg some (by kernel_rfl))
  f217 := Try.func16.trans (congrArg some (by kernel_rfl))
  f219 := Try.func15.trans (congrArg some (by kernel_rfl))
  f220 := Try.func13.trans (congrArg some (by kernel_rfl))
  f224 := Try.func18.trans (congrArg some (by kernel_rfl))
  f225 := Try.func17.trans (congrArg some (by kernel_rfl))
  f266 := Try.func20.trans (congrArg some (by kernel_rfl))
  f267 := Try.func19.trans (congrArg some (by kernel_rfl))
  f314 := Try.func21.trans (congrArg some (by kernel_rfl))
  t3 := Try.underlying3
  a3 := Try.isAgg3
  z3 := Try.sizeOf3
  v3 := Try.zeroValue3
  t4 := Try.underlying4
  a4 := Try.isAgg4
  z4 := Try.sizeOf4
  v4 := Try.zeroValue4
  t5 := Try.underlying5
  a5 := Try.isAgg5
  z5 := Try.sizeOf5
  v5 := Try.zeroValue5
  t9 := Try.underlying9
  a9 := Try.isAgg9
  z9 := Try.sizeOf9
  v9 := Try.zeroValue9
  t46 := Try.underlying35
  a46 := Try.isAgg35
  z46 := Try.sizeOf35
  v46 := Try.zeroValue35
  t51 := Try.underlying36
  a51 := Try.isAgg36
  z51 := Try.sizeOf36
  v51 := Try.zeroValue36
  t59 := Try.underlying29
  a59 := Try.isAgg29
  z59 := Try.sizeOf29
  v59 := Try.zeroValue29
  t146 := Try.underlying37
  a146 := Try.isAgg37
  z146 := Try.sizeOf37
  v146 := Try.zeroValue37
  g1 := by kernel_rfl }
open Go.RowKit Go.Lib in
theorem Try.strings_Cut (s sep : ByteArray) (m : Int) (w : World) (hs : s.size < 4294967281) (hm : w.cell? ⟨0, 0, none⟩ = some (.int .i64 m)) :
    Calls Try.prog 10 #[.string s, .string sep] w fun e w' => e = .returned (.tuple #[.string ⟨(Lib.cut s.data.toList sep.data.toList).1.toArray⟩, .string ⟨(Lib.cut s.data.toList sep.data.toList).2.1.toArray⟩, .bool (Lib.cut s.data.toList sep.data.toList).2.2]) ∧ ∃ n, w' = w.drewN n := Any.strings_Cut Try.lays145 s sep m w hs hm
def Try.laysM145_ren : Go.Shelf.Ren := ⟨fun | 145 => 10 | 220 => 13 | 219 => 15 | 217 => 16 | 225 => 17 | 224 => 18 | 267 => 19 | 266 => 20 | 314 => 21 | n => n, fun | 9 => 9 | 4 => 4 | 59 => 29 | 3 => 3 | 5 => 5 | 46 => 35 | 146 => 37 | 51 => 36 | n => n, fun | 1 => 0 | n => n⟩
theorem Try.laysM145 : Go.Proofs.LaysM.n145 Try.prog Try.laysM145_ren := {
  mixed := by kernel_rfl
  f145 := Try.func10.trans (congrArg some (by kernel_rfl))
  f217 := Try.func16.trans (congrArg some (by kernel_rfl))
  f219 := Try.func15.trans (congrArg some (by kernel_rfl))
  f220 := Try.func13.trans (congrArg some (by kernel_rfl))
  f224 := Try.func18.trans (congrArg some (by kernel_rfl))
  f225 := Try.func17.trans (congrArg some (by kernel_rfl))
  f266 := Try.func20.trans (congrArg some (by kernel_rfl))
  f267 := Try.func19.trans (congrArg some (by kernel_rfl))
  f314 := Try.func21.trans (congrArg some (by kernel_rfl))
  t3 := Try.underlying3
  a3 := Try.isAgg3
  z3 := Try.sizeOf3
  v3 := Try.zeroValue3
  t4 := Try.underlying4
  a4 := Try.isAgg4
  z4 := Try.sizeOf4
  v4 := Try.zeroValue4
  t5 := Try.underlying5
  a5 := Try.isAgg5
  z5 := Try.sizeOf5
  v5 := Try.zeroValue5
  t9 := Try.underlying9
  a9 := Try.isAgg9
  z9 := Try.sizeOf9
  v9 := Try.zeroValue9
  t46 := Try.underlying35
  a46 := Try.isAgg35
  z46 := Try.sizeOf35
  v46 := Try.zeroValue35
  t51 := Try.underlying36
  a51 := Try.isAgg36
  z51 := Try.sizeOf36
  v51 := Try.zeroValue36
  t59 := Try.underlying29
  a59 := Try.isAgg29
  z59 := Try.sizeOf29
  v59 := Try.zeroValue29
  t146 := Try.underlying37
  a146 := Try.isAgg37
  z146 := Try.sizeOf37
  v146 := Try.zeroValue37
  g1 := by kernel_rfl
  i3 := by kernel_rfl
  i4 := by kernel_rfl
  i5 := by kernel_rfl
  i9 := by kernel_rfl
  i46 := by kernel_rfl
  i51 := by kernel_rfl
  i59 := by kernel_rfl
  i146 := by kernel_rfl
  m1 := by kernel_rfl
  s1_3 := fun w h => Go.Proofs.cell_of_shapedOpen_int (zero := #[.int .i64 0]) (t := 3) h (of_decide_eq_true (by kernel_rfl)) (by kernel_rfl) rfl (by kernel_rfl) (by kernel_rfl) Try.underlying3 }
end Go.Proofs
