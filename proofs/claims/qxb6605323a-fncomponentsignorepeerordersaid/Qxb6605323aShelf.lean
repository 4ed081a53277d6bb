/-
  DERIVED: THE SHELF's CONTRACTS AT THIS DUMP, IN PLAIN WORDS (tools/lay-plain.mjs out of 'TryShelf.lean', which tools/lay-shelf.mjs wrote): THE SAME DECLARATIONS UNDER THE SAME NAMES: 'import', 'namespace', 'open', 'def', 'theorem' AND NOTHING ELSE: no command of the shelf's: FOR A HAND-IN. Each laying: the table of numbers ('.._ren') and one theorem, a field a fact of the dump's own or the kernel's comparison; each contract: ONE APPLICATION.
-/
import Derived.Ground.SlgmProg
import Derived.Shelf.SortM.Plain
import Derived.Shelf.SortM.SortNone
import Derived.Test.Qxb6605323aProg
namespace Go.Proofs
open Go.Shelf
def Try.laysSlM5_f24_ren : Go.Shelf.Ren := ⟨fun | 5 => 24 | 8 => 26 | 7 => 25 | 19 => 36 | 20 => 37 | 10 => 27 | 11 => 28 | 12 => 29 | 13 => 30 | 14 => 31 | 15 => 32 | 16 => 33 | 17 => 34 | 18 => 35 | 30 => 38 | 31 => 39 | 32 => 40 | 33 => 41 | 34 => 42 | 35 => 43 | 40 => 44 | n => n, fun | 23 => 22 | 25 => 2 | 3 => 3 | 32 => 40 | 22 => 22 | 0 => 0 | 44 => 59 | 46 => 61 | 4 => 4 | 36 => 51 | 35 => 50 | 41 => 56 | 5 => 5 | 9 => 9 | 53 => 62 | 57 => 66 | 63 => 69 | 64 => 70 | n => n, fun | n => n⟩
theorem Try.laysSlM5_f24 : Go.Proofs.SlLaysM.n5 Try.prog Try.laysSlM5_f24_ren := {
  mixed := by kernel_rfl
  f5 := ⟨Try.f24.name, by decide, Try.func24.trans (congrArg some (by kernel_rfl))⟩
  f7 := ⟨Try.f25.name, by decide, Try.func25.trans (congrArg some (by kernel_rfl))⟩
  f8 := Try.func26.trans (congrArg some (by kernel_rfl))
  f10 := ⟨Try.f27.name, by decide, Try.func27.trans (congrArg some (by kernel_rfl))⟩
  f11 := ⟨Try.f28.name, by decide, Try.func28.trans (congrArg some (by kernel_rfl))⟩
  f12 := ⟨Try.f29.name, by decide, Try.func29.trans (congrArg some (by kernel_rfl))⟩
  f13 := ⟨Try.f30.name, by decide, Try.func30.trans (congrArg some (by kernel_rfl))⟩
  f14 := ⟨Try.f31.name, by decide, Try.func31.trans (congrArg some (by kernel_rfl))⟩
  f15 := ⟨Try.f32.name, by decide, Try.func32.trans (congrArg some (by kernel_rfl))⟩
  f16 := ⟨Try.f33.name, by decide, Try.func33.trans (congrArg some (by kernel_rfl))⟩
  f17 := ⟨Try.f34.name, by decide, Try.func34.trans (congrArg some (by kernel_rfl))⟩
  f18 := ⟨Try.f35.name, by decide, Try.func35.trans (congrArg some (by kernel_rfl))⟩
  f19 := Try.func36.trans (congrArg some (by kernel_rfl))
  f20 := Try.func37.trans (congrArg some (by kernel_rfl))
  f30 := ⟨Try.f38.name, by decide, Try.func38.trans (congrArg some (by kernel_rfl))⟩
  f31 := Try.func39.trans (congrArg some (by kernel_rfl))
  f32 := Try.func40.trans (congrArg some (by kernel_rfl))
  f33 := ⟨Try.f41.name, by decide, Try.func41.trans (congrArg some (by kernel_rfl))⟩
  f34 := ⟨Try.f42.name, by decide, Try.func42.trans (congrArg some (by kernel_rfl))⟩
  f35 := ⟨Try.f43.name, by decide, Try.func43.trans (congrArg some (by kernel_rfl))⟩
  f40 := ⟨Try.f44.name, by decide, Try.func44.trans (congrArg some (by kernel_rfl))⟩
  t0 := Try.underlying0
  a0 := Try.isAgg0
  z0 := Try.sizeOf0
  v0 := Try.zeroValue0
  t3 := Try.underlying3
  a3 := Try.isAgg3
  z3 := Try.sizeOf3
  v3 := Try.zeroValue3
  t4 := Try.underlying4
  a4 := Try.isAgg4
  z4 := Try.sizeOf4
  v4 := Try.zeroValue4
  t5 := Try.underlying5
  a5 := Try.isAgg5
  z5 := Try.sizeOf5
  v5 := Try.zeroValue5
  t9 := Try.underlying9
  a9 := Try.isAgg9
  z9 := Try.sizeOf9
  v9 := Try.zeroValue9
  t22 := Try.underlying22
  a22 := Try.isAgg22
  z22 := Try.sizeOf22
  v22 := Try.zeroValue22
  t23 := Try.underlying22
  a23 := Try.isAgg22
  z23 := Try.sizeOf22
  v23 := Try.zeroValue22
  t25 := Try.underlying2
  a25 := Try.isAgg2
  z25 := Try.sizeOf2
  v25 := Try.zeroValue2
  t32 := Try.underlying40
  a32 := Try.isAgg40
  z32 := Try.sizeOf40
  v32 := Try.zeroValue40
  t35 := Try.underlying50
  a35 := Try.isAgg50
  z35 := Try.sizeOf50
  v35 := Try.zeroValue50
  t36 := Try.underlying51
  a36 := Try.isAgg51
  z36 := Try.sizeOf51
  v36 := Try.zeroValue51
  t41 := Try.underlying56
  a41 := Try.isAgg56
  z41 := Try.sizeOf56
  v41 := Try.zeroValue56
  t44 := Try.underlying59
  a44 := Try.isAgg59
  z44 := Try.sizeOf59
  v44 := Try.zeroValue59
  t46 := Try.underlying61
  a46 := Try.isAgg61
  z46 := Try.sizeOf61
  v46 := Try.zeroValue61
  t53 := Try.underlying62
  a53 := Try.isAgg62
  z53 := Try.sizeOf62
  v53 := Try.zeroValue62
  t57 := Try.underlying66
  a57 := Try.isAgg66
  z57 := Try.sizeOf66
  v57 := Try.zeroValue66
  t63 := Try.underlying69
  a63 := Try.isAgg69
  z63 := Try.sizeOf69
  v63 := Try.zeroValue69
  t64 := Try.underlying70
  a64 := Try.isAgg70
  z64 := Try.sizeOf70
  v64 := Try.zeroValue70 }
open Go.Sort Go.RowKit in
theorem Try.slices_Sort_int (blk off cap : Nat) (zs : List Int) (w : World) (hH : Holds (Value.int .i64) w blk off zs.toArray) (hblk : blk < w.heap.size) (hsz : zs.length < 4611686018427387904) :
    Calls Try.prog 24 #[.slice (some ⟨blk, off, none⟩) zs.length cap] w fun e w' =>
      e = .returned (.tuple #[]) ∧ ∃ n os, w' = grow (putRow (Value.int .i64) (Sort.ahead w n) blk off (zs.mergeSort fun x y => decide (x ≤ y)).toArray) os := AnyM.slices_Sort_int Try.laysSlM5_f24 blk off cap zs w hH hblk hsz
open Go.RowKit Go.Sort in
/-- .. and plain. (LAID AT THE INSTANCE 'slices.Sort[[]int64,int64]': no walk: one application.) -/
theorem Try.slices_Sort_int_none (p : Option Addr) (cap : Nat) (w : World) :
    Calls Try.prog 24 #[.slice p 0 cap] w fun e w' => e = .returned (.tuple #[]) ∧ w' = w := AnyM.slices_Sort_int_none Try.laysSlM5_f24 p cap w
end Go.Proofs
