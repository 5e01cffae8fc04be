/-
  DERIVED: THE SHELF's CONTRACTS AT THIS DUMP, IN PLAIN WORDS (tools/lay-plain.mjs out of 'YtinlaaeoiocfoaaShelf.lean', which tools/lay-shelf.mjs wrote): THE SAME DECLARATIONS UNDER THE SAME NAMES: 'import', 'namespace', 'open', 'def', 'theorem' AND NOTHING ELSE: no command of the shelf's: FOR A HAND-IN. Each laying: the table of numbers ('.._ren') and one theorem, a field a fact of the dump's own or the kernel's comparison; each contract: ONE APPLICATION.
-/
import Derived.Shelf.SortM.Plain
import Derived.Shelf.SortM.SortNone
import Derived.Shelf.Slices.Equal
import Derived.Shelf.Slices.Empties2
import Derived.Shelf.SlicesE.Clone
import Derived.Shelf.Slices.Clone
import Derived.Shelf.SlicesE.Reverse
import Derived.Ground.SlgmProg
import Derived.Ground.SlgnProg
import Derived.Ground.NamesProg
import Derived.Ground.Names2Prog
import Derived.Test.YtinlaaeoiocfoaaProg
namespace Go.Proofs
open Go.Shelf
def Try.lays111_ren : Go.Shelf.Ren := ⟨fun | 111 => 8 | n => n, fun | 28 => 22 | 3 => 3 | 4 => 4 | 0 => 0 | n => n, fun | n => n⟩
theorem Try.lays111 : Go.Proofs.Lays.n111 Try.prog Try.lays111_ren := {
  mixed := by kernel_rfl
  f111 := Try.func8.trans (congrArg some (by kernel_rfl))
  t0 := Try.underlying0
  a0 := Try.isAgg0
  z0 := Try.sizeOf0
  v0 := Try.zeroValue0
  t3 := Try.underlying3
  a3 := Try.isAgg3
  z3 := Try.sizeOf3
  v3 := Try.zeroValue3
  t4 := Try.underlying4
  a4 := Try.isAgg4
  z4 := Try.sizeOf4
  v4 := Try.zeroValue4
  t28 := Try.underlying22
  a28 := Try.isAgg22
  z28 := Try.sizeOf22
  v28 := Try.zeroValue22 }
def Try.cloneInt_ren : Go.Shelf.Ren := ⟨fun | 15 => 16 | n => n, fun | 22 => 22 | 3 => 3 | 4 => 4 | n => n, fun | n => n⟩
theorem Try.cloneInt : Go.Proofs.Lays2.n15 Try.prog Try.cloneInt_ren := {
  mixed := by kernel_rfl
  f15 := Try.func16.trans (congrArg some (by kernel_rfl))
  t3 := Try.underlying3
  a3 := Try.isAgg3
  z3 := Try.sizeOf3
  v3 := Try.zeroValue3
  t4 := Try.underlying4
  a4 := Try.isAgg4
  z4 := Try.sizeOf4
  v4 := Try.zeroValue4
  t22 := Try.underlying22
  a22 := Try.isAgg22
  z22 := Try.sizeOf22
  v22 := Try.zeroValue22
  i3 := by kernel_rfl }
def Try.cloneI64_ren : Go.Shelf.Ren := ⟨fun | 41 => 27 | n => n, fun | 22 => 67 | 23 => 2 | 4 => 4 | n => n, fun | n => n⟩
theorem Try.cloneI64 : Go.Proofs.SlLaysE0.n41 Try.prog Try.cloneI64_ren := {
  mixed := by kernel_rfl
  f41 := ⟨Try.f27.name, by decide, Try.func27.trans (congrArg some (by kernel_rfl))⟩
  t4 := Try.underlying4
  a4 := Try.isAgg4
  z4 := Try.sizeOf4
  v4 := Try.zeroValue4
  t22 := Try.underlying67
  a22 := Try.isAgg67
  z22 := Try.sizeOf67
  v22 := Try.zeroValue67 }
def Try.sortI64_ren : Go.Shelf.Ren := ⟨fun | 5 => 25 | 8 => 32 | 7 => 31 | 19 => 44 | 20 => 45 | 10 => 35 | 11 => 36 | 12 => 37 | 13 => 38 | 14 => 39 | 15 => 40 | 16 => 41 | 17 => 42 | 18 => 43 | 30 => 50 | 31 => 51 | 32 => 52 | 33 => 53 | 34 => 54 | 35 => 55 | 40 => 58 | n => n, fun | 23 => 67 | 25 => 2 | 3 => 3 | 32 => 87 | 22 => 67 | 0 => 0 | 44 => 106 | 46 => 108 | 4 => 4 | 36 => 99 | 35 => 98 | 41 => 73 | 5 => 5 | 9 => 9 | 53 => 115 | 57 => 119 | 63 => 123 | 64 => 124 | n => n, fun | n => n⟩
theorem Try.sortI64 : Go.Proofs.SlLaysM.n5 Try.prog Try.sortI64_ren := {
  mixed := by kernel_rfl
  f5 := ⟨Try.f25.name, by decide, Try.func25.trans (congrArg some (by kernel_rfl))⟩
  f7 := ⟨Try.f31.name, by decide, Try.func31.trans (congrArg some (by kernel_rfl))⟩
  f8 := Try.func32.trans (congrArg some (by kernel_rfl))
  f10 := ⟨Try.f35.name, by decide, Try.func35.trans (congrArg some (by kernel_rfl))⟩
  f11 := ⟨Try.f36.name, by decide, Try.func36.trans (congrArg some (by kernel_rfl))⟩
  f12 := ⟨Try.f37.name, by decide, Try.func37.trans (congrArg some (by kernel_rfl))⟩
  f13 := ⟨Try.f38.name, by decide, Try.func38.trans (congrArg some (by kernel_rfl))⟩
  f14 := ⟨Try.f39.name, by decide, Try.func39.trans (congrArg some (by kernel_rfl))⟩
  f15 := ⟨Try.f40.name, by decide, Try.func40.trans (congrArg some (by kernel_rfl))⟩
  f16 := ⟨Try.f41.name, by decide, Try.func41.trans (congrArg some (by kernel_rfl))⟩
  f17 := ⟨Try.f42.name, by decide, Try.func42.trans (congrArg some (by kernel_rfl))⟩
  f18 := ⟨Try.f43.name, by decide, Try.func43.trans (congrArg some (by kernel_rfl))⟩
  f19 := Try.func44.trans (congrArg some (by kernel_rfl))
  f20 := Try.func45.trans (congrArg some (by kernel_rfl))
  f30 := ⟨Try.f50.name, by decide, Try.func50.trans (congrArg some (by kernel_rfl))⟩
  f31 := Try.func51.trans (congrArg some (by kernel_rfl))
  f32 := Try.func52.trans (congrArg some (by kernel_rfl))
  f33 := ⟨Try.f53.name, by decide, Try.func53.trans (congrArg some (by kernel_rfl))⟩
  f34 := ⟨Try.f54.name, by decide, Try.func54.trans (congrArg some (by kernel_rfl))⟩
  f35 := ⟨Try.f55.name, by decide, Try.func55.trans (congrArg some (by kernel_rfl))⟩
  f40 := ⟨Try.f58.name, by decide, Try.func58.trans (congrArg some (by kernel_rfl))⟩
  t0 := Try.underlying0
  a0 := Try.isAgg0
  z0 := Try.sizeOf0
  v0 := Try.zeroValue0
  t3 := Try.underlying3
  a3 := Try.isAgg3
  z3 := Try.sizeOf3
  v3 := Try.zeroValue3
  t4 := Try.underlying4
  a4 := Try.isAgg4
  z4 := Try.sizeOf4
  v4 := Try.zeroValue4
  t5 := Try.underlying5
  a5 := Try.isAgg5
  z5 := Try.sizeOf5
  v5 := Try.zeroValue5
  t9 := Try.underlying9
  a9 := Try.isAgg9
  z9 := Try.sizeOf9
  v9 := Try.zeroValue9
  t22 := Try.underlying67
  a22 := Try.isAgg67
  z22 := Try.sizeOf67
  v22 := Try.zeroValue67
  t23 := Try.underlying67
  a23 := Try.isAgg67
  z23 := Try.sizeOf67
  v23 := Try.zeroValue67
  t25 := Try.underlying2
  a25 := Try.isAgg2
  z25 := Try.sizeOf2
  v25 := Try.zeroValue2
  t32 := Try.underlying87
  a32 := Try.isAgg87
  z32 := Try.sizeOf87
  v32 := Try.zeroValue87
  t35 := Try.underlying98
  a35 := Try.isAgg98
  z35 := Try.sizeOf98
  v35 := Try.zeroValue98
  t36 := Try.underlying99
  a36 := Try.isAgg99
  z36 := Try.sizeOf99
  v36 := Try.zeroValue99
  t41 := Try.underlying73
  a41 := Try.isAgg73
  z41 := Try.sizeOf73
  v41 := Try.zeroValue73
  t44 := Try.underlying106
  a44 := Try.isAgg106
  z44 := Try.sizeOf106
  v44 := Try.zeroValue106
  t46 := Try.underlying108
  a46 := Try.isAgg108
  z46 := Try.sizeOf108
  v46 := Try.zeroValue108
  t53 := Try.underlying115
  a53 := Try.isAgg115
  z53 := Try.sizeOf115
  v53 := Try.zeroValue115
  t57 := Try.underlying119
  a57 := Try.isAgg119
  z57 := Try.sizeOf119
  v57 := Try.zeroValue119
  t63 := Try.underlying123
  a63 := Try.isAgg123
  z63 := Try.sizeOf123
  v63 := Try.zeroValue123
  t64 := Try.underlying124
  a64 := Try.isAgg124
  z64 := Try.sizeOf124
  v64 := Try.zeroValue124 }
def Try.revNode_ren : Go.Shelf.Ren := ⟨fun | 35 => 21 | n => n, fun | 22 => 46 | 23 => 63 | 3 => 3 | 4 => 4 | 0 => 0 | n => n, fun | n => n⟩
theorem Try.revNode : Go.Proofs.SlLaysE.n35 Try.prog Try.revNode_ren := {
  mixed := by kernel_rfl
  f35 := ⟨Try.f21.name, by decide, Try.func21.trans (congrArg some (by kernel_rfl))⟩
  t0 := Try.underlying0
  a0 := Try.isAgg0
  z0 := Try.sizeOf0
  v0 := Try.zeroValue0
  t3 := Try.underlying3
  a3 := Try.isAgg3
  z3 := Try.sizeOf3
  v3 := Try.zeroValue3
  t4 := Try.underlying4
  a4 := Try.isAgg4
  z4 := Try.sizeOf4
  v4 := Try.zeroValue4
  t22 := Try.underlying46
  a22 := Try.isAgg46
  z22 := Try.sizeOf46
  v22 := Try.zeroValue46
  a23 := Try.isAgg63
  z23 := Try.sizeOf63 }
end Go.Proofs
