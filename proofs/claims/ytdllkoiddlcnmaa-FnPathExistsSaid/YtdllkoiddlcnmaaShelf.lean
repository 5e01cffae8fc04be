/-
  DERIVED: THE SHELF's CONTRACTS AT THIS DUMP, IN PLAIN WORDS (tools/lay-plain.mjs out of 'YtdllkoiddlcnmaaShelf.lean', which tools/lay-shelf.mjs wrote): THE SAME DECLARATIONS UNDER THE SAME NAMES: 'import', 'namespace', 'open', 'def', 'theorem' AND NOTHING ELSE: no command of the shelf's: FOR A HAND-IN. Each laying: the table of numbers ('.._ren') and one theorem, a field a fact of the dump's own or the kernel's comparison; each contract: ONE APPLICATION.
-/
import Derived.Shelf.SortM.Plain
import Derived.Shelf.SortM.SortNone
import Derived.Shelf.Slices.Equal
import Derived.Shelf.Slices.Empties2
import Derived.Shelf.SlicesE.Clone
import Derived.Shelf.Slices.Clone
import Derived.Ground.SlgmProg
import Derived.Ground.SlgnProg
import Derived.Ground.NamesProg
import Derived.Ground.Names2Prog
import Derived.Test.YtdllkoiddlcnmaaProg
namespace Go.Proofs
open Go.Shelf
def Try.lays111_ren : Go.Shelf.Ren := ⟨fun | 111 => 9 | n => n, fun | 28 => 22 | 3 => 3 | 4 => 4 | 0 => 0 | n => n, fun | n => n⟩
theorem Try.lays111 : Go.Proofs.Lays.n111 Try.prog Try.lays111_ren := {
  mixed := by kernel_rfl
  f111 := Try.func9.trans (congrArg some (by kernel_rfl))
  t0 := Try.underlying0
  a0 := Try.isAgg0
  z0 := Try.sizeOf0
  v0 := Try.zeroValue0
  t3 := Try.underlying3
  a3 := Try.isAgg3
  z3 := Try.sizeOf3
  v3 := Try.zeroValue3
  t4 := Try.underlying4
  a4 := Try.isAgg4
  z4 := Try.sizeOf4
  v4 := Try.zeroValue4
  t28 := Try.underlying22
  a28 := Try.isAgg22
  z28 := Try.sizeOf22
  v28 := Try.zeroValue22 }
def Try.cloneInt_ren : Go.Shelf.Ren := ⟨fun | 15 => 21 | n => n, fun | 22 => 22 | 3 => 3 | 4 => 4 | n => n, fun | n => n⟩
theorem Try.cloneInt : Go.Proofs.Lays2.n15 Try.prog Try.cloneInt_ren := {
  mixed := by kernel_rfl
  f15 := Try.func21.trans (congrArg some (by kernel_rfl))
  t3 := Try.underlying3
  a3 := Try.isAgg3
  z3 := Try.sizeOf3
  v3 := Try.zeroValue3
  t4 := Try.underlying4
  a4 := Try.isAgg4
  z4 := Try.sizeOf4
  v4 := Try.zeroValue4
  t22 := Try.underlying22
  a22 := Try.isAgg22
  z22 := Try.sizeOf22
  v22 := Try.zeroValue22
  i3 := by kernel_rfl }
def Try.cloneBool_ren : Go.Shelf.Ren := ⟨fun | 41 => 25 | n => n, fun | 22 => 44 | 23 => 4 | 4 => 4 | n => n, fun | n => n⟩
theorem Try.cloneBool : Go.Proofs.SlLaysE0.n41 Try.prog Try.cloneBool_ren := {
  mixed := by kernel_rfl
  f41 := ⟨Try.f25.name, by decide, Try.func25.trans (congrArg some (by kernel_rfl))⟩
  t4 := Try.underlying4
  a4 := Try.isAgg4
  z4 := Try.sizeOf4
  v4 := Try.zeroValue4
  t22 := Try.underlying44
  a22 := Try.isAgg44
  z22 := Try.sizeOf44
  v22 := Try.zeroValue44 }
def Try.cloneI64_ren : Go.Shelf.Ren := ⟨fun | 41 => 37 | n => n, fun | 22 => 94 | 23 => 2 | 4 => 4 | n => n, fun | n => n⟩
theorem Try.cloneI64 : Go.Proofs.SlLaysE0.n41 Try.prog Try.cloneI64_ren := {
  mixed := by kernel_rfl
  f41 := ⟨Try.f37.name, by decide, Try.func37.trans (congrArg some (by kernel_rfl))⟩
  t4 := Try.underlying4
  a4 := Try.isAgg4
  z4 := Try.sizeOf4
  v4 := Try.zeroValue4
  t22 := Try.underlying94
  a22 := Try.isAgg94
  z22 := Try.sizeOf94
  v22 := Try.zeroValue94 }
def Try.sortI64_ren : Go.Shelf.Ren := ⟨fun | 5 => 35 | 8 => 47 | 7 => 46 | 19 => 59 | 20 => 60 | 10 => 51 | 11 => 52 | 12 => 53 | 13 => 54 | 14 => 55 | 15 => 56 | 16 => 49 | 17 => 57 | 18 => 58 | 30 => 65 | 31 => 66 | 32 => 67 | 33 => 68 | 34 => 69 | 35 => 64 | 40 => 72 | n => n, fun | 23 => 94 | 25 => 2 | 3 => 3 | 32 => 124 | 22 => 94 | 0 => 0 | 44 => 142 | 46 => 144 | 4 => 4 | 36 => 136 | 35 => 135 | 41 => 79 | 5 => 5 | 9 => 9 | 53 => 150 | 57 => 154 | 63 => 158 | 64 => 159 | n => n, fun | n => n⟩
theorem Try.sortI64 : Go.Proofs.SlLaysM.n5 Try.prog Try.sortI64_ren := {
  mixed := by kernel_rfl
  f5 := ⟨Try.f35.name, by decide, Try.func35.trans (congrArg some (by kernel_rfl))⟩
  f7 := ⟨Try.f46.name, by decide, Try.func46.trans (congrArg some (by kernel_rfl))⟩
  f8 := Try.func47.trans (congrArg some (by kernel_rfl))
  f10 := ⟨Try.f51.name, by decide, Try.func51.trans (congrArg some (by kernel_rfl))⟩
  f11 := ⟨Try.f52.name, by decide, Try.func52.trans (congrArg some (by kernel_rfl))⟩
  f12 := ⟨Try.f53.name, by decide, Try.func53.trans (congrArg some (by kernel_rfl))⟩
  f13 := ⟨Try.f54.name, by decide, Try.func54.trans (congrArg some (by kernel_rfl))⟩
  f14 := ⟨Try.f55.name, by decide, Try.func55.trans (congrArg some (by kernel_rfl))⟩
  f15 := ⟨Try.f56.name, by decide, Try.func56.trans (congrArg some (by kernel_rfl))⟩
  f16 := ⟨Try.f49.name, by decide, Try.func49.trans (congrArg some (by kernel_rfl))⟩
  f17 := ⟨Try.f57.name, by decide, Try.func57.trans (congrArg some (by kernel_rfl))⟩
  f18 := ⟨Try.f58.name, by decide, Try.func58.trans (congrArg some (by kernel_rfl))⟩
  f19 := Try.func59.trans (congrArg some (by kernel_rfl))
  f20 := Try.func60.trans (congrArg some (by kernel_rfl))
  f30 := ⟨Try.f65.name, by decide, Try.func65.trans (congrArg some (by kernel_rfl))⟩
  f31 := Try.func66.trans (congrArg some (by kernel_rfl))
  f32 := Try.func67.trans (congrArg some (by kernel_rfl))
  f33 := ⟨Try.f68.name, by decide, Try.func68.trans (congrArg some (by kernel_rfl))⟩
  f34 := ⟨Try.f69.name, by decide, Try.func69.trans (congrArg some (by kernel_rfl))⟩
  f35 := ⟨Try.f64.name, by decide, Try.func64.trans (congrArg some (by kernel_rfl))⟩
  f40 := ⟨Try.f72.name, by decide, Try.func72.trans (congrArg some (by kernel_rfl))⟩
  t0 := Try.underlying0
  a0 := Try.isAgg0
  z0 := Try.sizeOf0
  v0 := Try.zeroValue0
  t3 := Try.underlying3
  a3 := Try.isAgg3
  z3 := Try.sizeOf3
  v3 := Try.zeroValue3
  t4 := Try.underlying4
  a4 := Try.isAgg4
  z4 := Try.sizeOf4
  v4 := Try.zeroValue4
  t5 := Try.underlying5
  a5 := Try.isAgg5
  z5 := Try.sizeOf5
  v5 := Try.zeroValue5
  t9 := Try.underlying9
  a9 := Try.isAgg9
  z9 := Try.sizeOf9
  v9 := Try.zeroValue9
  t22 := Try.underlying94
  a22 := Try.isAgg94
  z22 := Try.sizeOf94
  v22 := Try.zeroValue94
  t23 := Try.underlying94
  a23 := Try.isAgg94
  z23 := Try.sizeOf94
  v23 := Try.zeroValue94
  t25 := Try.underlying2
  a25 := Try.isAgg2
  z25 := Try.sizeOf2
  v25 := Try.zeroValue2
  t32 := Try.underlying124
  a32 := Try.isAgg124
  z32 := Try.sizeOf124
  v32 := Try.zeroValue124
  t35 := Try.underlying135
  a35 := Try.isAgg135
  z35 := Try.sizeOf135
  v35 := Try.zeroValue135
  t36 := Try.underlying136
  a36 := Try.isAgg136
  z36 := Try.sizeOf136
  v36 := Try.zeroValue136
  t41 := Try.underlying79
  a41 := Try.isAgg79
  z41 := Try.sizeOf79
  v41 := Try.zeroValue79
  t44 := Try.underlying142
  a44 := Try.isAgg142
  z44 := Try.sizeOf142
  v44 := Try.zeroValue142
  t46 := Try.underlying144
  a46 := Try.isAgg144
  z46 := Try.sizeOf144
  v46 := Try.zeroValue144
  t53 := Try.underlying150
  a53 := Try.isAgg150
  z53 := Try.sizeOf150
  v53 := Try.zeroValue150
  t57 := Try.underlying154
  a57 := Try.isAgg154
  z57 := Try.sizeOf154
  v57 := Try.zeroValue154
  t63 := Try.underlying158
  a63 := Try.isAgg158
  z63 := Try.sizeOf158
  v63 := Try.zeroValue158
  t64 := Try.underlying159
  a64 := Try.isAgg159
  z64 := Try.sizeOf159
  v64 := Try.zeroValue159 }
end Go.Proofs
