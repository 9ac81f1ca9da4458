import Derived.Test.YtakigeichhngbaaProg
import Derived.Shelf.Sort.Plain
import Derived.Shelf.Slices.In.SortNone2
/-! The library's sort at this dump: the laying (the kit's lay-plain tool wrote its two declarations), and sort.Strings. -/
namespace Go.Proofs.Ytakigeichhngbaa
open Go.Shelf Go.Sort Go.RowKit
set_option linter.unusedVariables false
def lays192_ren : Go.Shelf.Ren := ⟨fun | 192 => 72 | 190 => 119 | 125 => 137 | 258 => 136 | 128 => 148 | 129 => 149 | 302 => 140 | 303 => 141 | 304 => 142 | 305 => 143 | 306 => 144 | 307 => 145 | 308 => 73 | 309 => 146 | 310 => 147 | 333 => 151 | 329 => 152 | 330 => 153 | 334 => 154 | 335 => 155 | 336 => 120 | 344 => 156 | n => n, fun | 31 => 40 | 0 => 0 | 9 => 9 | 3 => 3 | 46 => 54 | 51 => 55 | 53 => 91 | 4 => 4 | 183 => 162 | 182 => 161 | 131 => 28 | 5 => 5 | 218 => 170 | 222 => 173 | 228 => 176 | 229 => 177 | n => n, fun | n => n⟩
theorem lays192 : Go.Proofs.Lays.n192 Try.prog lays192_ren := {
  mixed := by kernel_rfl
  f125 := Try.func137.trans (congrArg some (by kernel_rfl))
  f128 := Try.func148.trans (congrArg some (by kernel_rfl))
  f129 := Try.func149.trans (congrArg some (by kernel_rfl))
  f190 := Try.func119.trans (congrArg some (by kernel_rfl))
  f192 := Try.func72.trans (congrArg some (by kernel_rfl))
  f258 := Try.func136.trans (congrArg some (by kernel_rfl))
  f302 := Try.func140.trans (congrArg some (by kernel_rfl))
  f303 := Try.func141.trans (congrArg some (by kernel_rfl))
  f304 := Try.func142.trans (congrArg some (by kernel_rfl))
  f305 := Try.func143.trans (congrArg some (by kernel_rfl))
  f306 := Try.func144.trans (congrArg some (by kernel_rfl))
  f307 := Try.func145.trans (congrArg some (by kernel_rfl))
  f308 := Try.func73.trans (congrArg some (by kernel_rfl))
  f309 := Try.func146.trans (congrArg some (by kernel_rfl))
  f310 := Try.func147.trans (congrArg some (by kernel_rfl))
  f329 := Try.func152.trans (congrArg some (by kernel_rfl))
  f330 := Try.func153.trans (congrArg some (by kernel_rfl))
  f333 := Try.func151.trans (congrArg some (by kernel_rfl))
  f334 := Try.func154.trans (congrArg some (by kernel_rfl))
  f335 := Try.func155.trans (congrArg some (by kernel_rfl))
  f336 := Try.func120.trans (congrArg some (by kernel_rfl))
  f344 := Try.func156.trans (congrArg some (by kernel_rfl))
  t0 := Try.underlying0
  a0 := Try.isAgg0
  z0 := Try.sizeOf0
  v0 := Try.zeroValue0
  t3 := Try.underlying3
  a3 := Try.isAgg3
  z3 := Try.sizeOf3
  v3 := Try.zeroValue3
  t4 := Try.underlying4
  a4 := Try.isAgg4
  z4 := Try.sizeOf4
  v4 := Try.zeroValue4
  t5 := Try.underlying5
  a5 := Try.isAgg5
  z5 := Try.sizeOf5
  v5 := Try.zeroValue5
  t9 := Try.underlying9
  a9 := Try.isAgg9
  z9 := Try.sizeOf9
  v9 := Try.zeroValue9
  t31 := Try.underlying40
  a31 := Try.isAgg40
  z31 := Try.sizeOf40
  v31 := Try.zeroValue40
  t46 := Try.underlying54
  a46 := Try.isAgg54
  z46 := Try.sizeOf54
  v46 := Try.zeroValue54
  t51 := Try.underlying55
  a51 := Try.isAgg55
  z51 := Try.sizeOf55
  v51 := Try.zeroValue55
  t53 := Try.underlying91
  a53 := Try.isAgg91
  z53 := Try.sizeOf91
  v53 := Try.zeroValue91
  t131 := Try.underlying28
  a131 := Try.isAgg28
  z131 := Try.sizeOf28
  v131 := Try.zeroValue28
  t182 := Try.underlying161
  a182 := Try.isAgg161
  z182 := Try.sizeOf161
  v182 := Try.zeroValue161
  t183 := Try.underlying162
  a183 := Try.isAgg162
  z183 := Try.sizeOf162
  v183 := Try.zeroValue162
  t218 := Try.underlying170
  a218 := Try.isAgg170
  z218 := Try.sizeOf170
  v218 := Try.zeroValue170
  t222 := Try.underlying173
  a222 := Try.isAgg173
  z222 := Try.sizeOf173
  v222 := Try.zeroValue173
  t228 := Try.underlying176
  a228 := Try.isAgg176
  z228 := Try.sizeOf176
  v228 := Try.zeroValue176
  t229 := Try.underlying177
  a229 := Try.isAgg177
  z229 := Try.sizeOf177
  v229 := Try.zeroValue177 }
theorem sortS_c (blk off cap : Nat) (ss : List (List UInt8)) (w : World) (hH : Holds encStr w blk off ss.toArray) (hblk : blk < w.heap.size) (hsz : ss.length < 4611686018427387904) :
    Calls Try.prog 72 #[.slice (some ⟨blk, off, none⟩) ss.length cap] w fun e w' =>
      e = .returned (.tuple #[]) ∧ ∃ n os, w' = grow (putRow encStr (Sort.ahead w n) blk off (ss.mergeSort fun x y => decide (x ≤ y)).toArray) os :=
  Any.sort_Strings lays192 blk off cap ss w hH hblk hsz
theorem sortNil_c (p : Option Addr) (cap : Nat) (w : World) : Calls Try.prog 72 #[.slice p 0 cap] w fun e w' => e = .returned (.tuple #[]) ∧ w' = w := Any.sort_Strings_none lays192 p cap w
end Go.Proofs.Ytakigeichhngbaa
