/-
  A contract of the guide's library (slices.SortFunc) laid at this program, in plain words, as the guide's tool writes it.
-/
import Derived.Test.Qxb6618381aProg
import Derived.Shelf.SlGeneric
import Derived.Shelf.SlSortCmp.Whole1
import Derived.Shelf.SlSortCmp.NoneTotal
namespace Go.Proofs
open Go.Shelf
def Try.sortL_ren : Go.Shelf.Ren := ⟨fun | 6 => 15 | 15 => 19 | 14 => 18 | 28 => 29 | 29 => 30 | 20 => 21 | 21 => 22 | 22 => 23 | 23 => 24 | 24 => 25 | 25 => 26 | 26 => 27 | 27 => 28 | 46 => 31 | 47 => 32 | 48 => 33 | 49 => 34 | 50 => 35 | 57 => 36 | n => n, fun | 22 => 22 | 24 => 24 | 25 => 27 | 3 => 3 | 39 => 36 | 0 => 0 | 53 => 46 | 55 => 48 | 4 => 4 | 46 => 39 | 45 => 38 | 50 => 43 | 5 => 5 | 9 => 9 | 66 => 49 | 70 => 53 | 76 => 55 | 77 => 56 | n => n, fun | n => n⟩
theorem Try.sortL : Go.Proofs.SlLaysF.n6 Try.prog Try.sortL_ren := {
  mixed := by kernel_rfl
  f6 := ⟨Try.f15.name, by decide, Try.func15.trans (congrArg some (by kernel_rfl))⟩
  f14 := ⟨Try.f18.name, by decide, Try.func18.trans (congrArg some (by kernel_rfl))⟩
  f15 := Try.func19.trans (congrArg some (by kernel_rfl))
  f20 := ⟨Try.f21.name, by decide, Try.func21.trans (congrArg some (by kernel_rfl))⟩
  f21 := ⟨Try.f22.name, by decide, Try.func22.trans (congrArg some (by kernel_rfl))⟩
  f22 := ⟨Try.f23.name, by decide, Try.func23.trans (congrArg some (by kernel_rfl))⟩
  f23 := ⟨Try.f24.name, by decide, Try.func24.trans (congrArg some (by kernel_rfl))⟩
  f24 := ⟨Try.f25.name, by decide, Try.func25.trans (congrArg some (by kernel_rfl))⟩
  f25 := ⟨Try.f26.name, by decide, Try.func26.trans (congrArg some (by kernel_rfl))⟩
  f26 := ⟨Try.f27.name, by decide, Try.func27.trans (congrArg some (by kernel_rfl))⟩
  f27 := ⟨Try.f28.name, by decide, Try.func28.trans (congrArg some (by kernel_rfl))⟩
  f28 := Try.func29.trans (congrArg some (by kernel_rfl))
  f29 := Try.func30.trans (congrArg some (by kernel_rfl))
  f46 := ⟨Try.f31.name, by decide, Try.func31.trans (congrArg some (by kernel_rfl))⟩
  f47 := Try.func32.trans (congrArg some (by kernel_rfl))
  f48 := Try.func33.trans (congrArg some (by kernel_rfl))
  f49 := ⟨Try.f34.name, by decide, Try.func34.trans (congrArg some (by kernel_rfl))⟩
  f50 := ⟨Try.f35.name, by decide, Try.func35.trans (congrArg some (by kernel_rfl))⟩
  f57 := ⟨Try.f36.name, by decide, Try.func36.trans (congrArg some (by kernel_rfl))⟩
  t0 := Try.underlying0
  a0 := Try.isAgg0
  z0 := Try.sizeOf0
  v0 := Try.zeroValue0
  t3 := Try.underlying3
  a3 := Try.isAgg3
  z3 := Try.sizeOf3
  v3 := Try.zeroValue3
  t4 := Try.underlying4
  a4 := Try.isAgg4
  z4 := Try.sizeOf4
  v4 := Try.zeroValue4
  t5 := Try.underlying5
  a5 := Try.isAgg5
  z5 := Try.sizeOf5
  v5 := Try.zeroValue5
  t9 := Try.underlying9
  a9 := Try.isAgg9
  z9 := Try.sizeOf9
  v9 := Try.zeroValue9
  t22 := Try.underlying22
  a22 := Try.isAgg22
  z22 := Try.sizeOf22
  v22 := Try.zeroValue22
  a24 := Try.isAgg24
  z24 := Try.sizeOf24
  t25 := Try.underlying27
  a25 := Try.isAgg27
  z25 := Try.sizeOf27
  v25 := Try.zeroValue27
  t39 := Try.underlying36
  a39 := Try.isAgg36
  z39 := Try.sizeOf36
  v39 := Try.zeroValue36
  t45 := Try.underlying38
  a45 := Try.isAgg38
  z45 := Try.sizeOf38
  v45 := Try.zeroValue38
  t46 := Try.underlying39
  a46 := Try.isAgg39
  z46 := Try.sizeOf39
  v46 := Try.zeroValue39
  t50 := Try.underlying43
  a50 := Try.isAgg43
  z50 := Try.sizeOf43
  v50 := Try.zeroValue43
  t53 := Try.underlying46
  a53 := Try.isAgg46
  z53 := Try.sizeOf46
  v53 := Try.zeroValue46
  t55 := Try.underlying48
  a55 := Try.isAgg48
  z55 := Try.sizeOf48
  v55 := Try.zeroValue48
  t66 := Try.underlying49
  a66 := Try.isAgg49
  z66 := Try.sizeOf49
  v66 := Try.zeroValue49
  t70 := Try.underlying53
  a70 := Try.isAgg53
  z70 := Try.sizeOf53
  v70 := Try.zeroValue53
  t76 := Try.underlying55
  a76 := Try.isAgg55
  z76 := Try.sizeOf55
  v76 := Try.zeroValue55
  t77 := Try.underlying56
  a77 := Try.isAgg56
  z77 := Try.sizeOf56
  v77 := Try.zeroValue56 }
end Go.Proofs
