/- The contract of slices.Sort at []time.Duration laid at this program (written by the kit, lay-plain.mjs). -/
import Derived.Shelf.SortM.Plain
import Derived.Ground.SlgmProg
import Derived.Test.Qxb6002396aProg
namespace Go.Proofs
open Go.Shelf
def Try.sortD_ren : Go.Shelf.Ren := ⟨fun | 5 => 16 | 8 => 18 | 7 => 17 | 19 => 28 | 20 => 29 | 10 => 19 | 11 => 20 | 12 => 21 | 13 => 22 | 14 => 23 | 15 => 24 | 16 => 25 | 17 => 26 | 18 => 27 | 30 => 30 | 31 => 31 | 32 => 32 | 33 => 33 | 34 => 34 | 35 => 35 | 40 => 36 | n => n, fun | 23 => 34 | 25 => 35 | 3 => 3 | 32 => 40 | 22 => 34 | 0 => 0 | 44 => 51 | 46 => 53 | 4 => 4 | 36 => 43 | 35 => 42 | 41 => 48 | 5 => 5 | 9 => 9 | 53 => 54 | 57 => 58 | 63 => 61 | 64 => 62 | n => n, fun | n => n⟩
theorem Try.sortD : Go.Proofs.SlLaysM.n5 Try.prog Try.sortD_ren := {
  mixed := by kernel_rfl
  f5 := ⟨Try.f16.name, by decide, Try.func16.trans (congrArg some (by kernel_rfl))⟩
  f7 := ⟨Try.f17.name, by decide, Try.func17.trans (congrArg some (by kernel_rfl))⟩
  f8 := Try.func18.trans (congrArg some (by kernel_rfl))
  f10 := ⟨Try.f19.name, by decide, Try.func19.trans (congrArg some (by kernel_rfl))⟩
  f11 := ⟨Try.f20.name, by decide, Try.func20.trans (congrArg some (by kernel_rfl))⟩
  f12 := ⟨Try.f21.name, by decide, Try.func21.trans (congrArg some (by kernel_rfl))⟩
  f13 := ⟨Try.f22.name, by decide, Try.func22.trans (congrArg some (by kernel_rfl))⟩
  f14 := ⟨Try.f23.name, by decide, Try.func23.trans (congrArg some (by kernel_rfl))⟩
  f15 := ⟨Try.f24.name, by decide, Try.func24.trans (congrArg some (by kernel_rfl))⟩
  f16 := ⟨Try.f25.name, by decide, Try.func25.trans (congrArg some (by kernel_rfl))⟩
  f17 := ⟨Try.f26.name, by decide, Try.func26.trans (congrArg some (by kernel_rfl))⟩
  f18 := ⟨Try.f27.name, by decide, Try.func27.trans (congrArg some (by kernel_rfl))⟩
  f19 := Try.func28.trans (congrArg some (by kernel_rfl))
  f20 := Try.func29.trans (congrArg some (by kernel_rfl))
  f30 := ⟨Try.f30.name, by decide, Try.func30.trans (congrArg some (by kernel_rfl))⟩
  f31 := Try.func31.trans (congrArg some (by kernel_rfl))
  f32 := Try.func32.trans (congrArg some (by kernel_rfl))
  f33 := ⟨Try.f33.name, by decide, Try.func33.trans (congrArg some (by kernel_rfl))⟩
  f34 := ⟨Try.f34.name, by decide, Try.func34.trans (congrArg some (by kernel_rfl))⟩
  f35 := ⟨Try.f35.name, by decide, Try.func35.trans (congrArg some (by kernel_rfl))⟩
  f40 := ⟨Try.f36.name, by decide, Try.func36.trans (congrArg some (by kernel_rfl))⟩
  t0 := Try.underlying0
  a0 := Try.isAgg0
  z0 := Try.sizeOf0
  v0 := Try.zeroValue0
  t3 := Try.underlying3
  a3 := Try.isAgg3
  z3 := Try.sizeOf3
  v3 := Try.zeroValue3
  t4 := Try.underlying4
  a4 := Try.isAgg4
  z4 := Try.sizeOf4
  v4 := Try.zeroValue4
  t5 := Try.underlying5
  a5 := Try.isAgg5
  z5 := Try.sizeOf5
  v5 := Try.zeroValue5
  t9 := Try.underlying9
  a9 := Try.isAgg9
  z9 := Try.sizeOf9
  v9 := Try.zeroValue9
  t22 := Try.underlying34
  a22 := Try.isAgg34
  z22 := Try.sizeOf34
  v22 := Try.zeroValue34
  t23 := Try.underlying34
  a23 := Try.isAgg34
  z23 := Try.sizeOf34
  v23 := Try.zeroValue34
  t25 := Try.underlying35
  a25 := Try.isAgg35
  z25 := Try.sizeOf35
  v25 := Try.zeroValue35
  t32 := Try.underlying40
  a32 := Try.isAgg40
  z32 := Try.sizeOf40
  v32 := Try.zeroValue40
  t35 := Try.underlying42
  a35 := Try.isAgg42
  z35 := Try.sizeOf42
  v35 := Try.zeroValue42
  t36 := Try.underlying43
  a36 := Try.isAgg43
  z36 := Try.sizeOf43
  v36 := Try.zeroValue43
  t41 := Try.underlying48
  a41 := Try.isAgg48
  z41 := Try.sizeOf48
  v41 := Try.zeroValue48
  t44 := Try.underlying51
  a44 := Try.isAgg51
  z44 := Try.sizeOf51
  v44 := Try.zeroValue51
  t46 := Try.underlying53
  a46 := Try.isAgg53
  z46 := Try.sizeOf53
  v46 := Try.zeroValue53
  t53 := Try.underlying54
  a53 := Try.isAgg54
  z53 := Try.sizeOf54
  v53 := Try.zeroValue54
  t57 := Try.underlying58
  a57 := Try.isAgg58
  z57 := Try.sizeOf58
  v57 := Try.zeroValue58
  t63 := Try.underlying61
  a63 := Try.isAgg61
  z63 := Try.sizeOf61
  v63 := Try.zeroValue61
  t64 := Try.underlying62
  a64 := Try.isAgg62
  z64 := Try.sizeOf62
  v64 := Try.zeroValue62 }
open Go.RowKit Go.Sort in
theorem Try.slices_Sort_dur (blk off cap : Nat) (zs : List Int) (w : World) (hH : Holds (Value.int .i64) w blk off zs.toArray) (hblk : blk < w.heap.size) (hsz : zs.length < 4611686018427387904) :
    Calls Try.prog 16 #[.slice (some ⟨blk, off, none⟩) zs.length cap] w fun e w' =>
      e = .returned (.tuple #[]) ∧ ∃ n os, w' = grow (putRow (Value.int .i64) (Sort.ahead w n) blk off (zs.mergeSort fun x y => decide (x ≤ y)).toArray) os := AnyM.slices_Sort_int Try.sortD blk off cap zs w hH hblk hsz
end Go.Proofs
