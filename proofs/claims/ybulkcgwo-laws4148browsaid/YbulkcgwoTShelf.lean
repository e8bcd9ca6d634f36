import Derived.Shelf.Sort.Plain
import Derived.Shelf.Slices.Reverse
import Derived.Shelf.Slices.Equal
import Derived.Ground.Names2Prog
import Derived.Shelf.Slices.Clone
import Derived.Shelf.Slices.CompactI
import Derived.Shelf.Slices.Cells
import Derived.Test.YbulkcgwoProg
namespace Go.Proofs
open Go.Shelf
def Yba.lays189_ren : Go.Shelf.Ren := ⟨fun | 189 => 20 | 125 => 42 | 257 => 41 | 128 => 67 | 129 => 68 | 294 => 59 | 295 => 60 | 296 => 61 | 297 => 62 | 298 => 63 | 299 => 64 | 216 => 48 | 300 => 65 | 301 => 66 | 328 => 75 | 329 => 76 | 330 => 77 | 331 => 78 | 332 => 79 | 215 => 35 | 343 => 88 | n => n, fun | 28 => 23 | 3 => 3 | 46 => 86 | 0 => 0 | 51 => 114 | 53 => 35 | 4 => 4 | 183 => 108 | 182 => 107 | 131 => 100 | 5 => 5 | 9 => 9 | 218 => 123 | 222 => 127 | 228 => 136 | 229 => 137 | n => n, fun | n => n⟩
theorem Yba.lays189 : Go.Proofs.Lays.n189 Yba.prog Yba.lays189_ren := {
  mixed := by kernel_rfl
  f125 := Yba.func42.trans (congrArg some (by kernel_rfl))
  f128 := Yba.func67.trans (congrArg some (by kernel_rfl))
  f129 := Yba.func68.trans (congrArg some (by kernel_rfl))
  f189 := Yba.func20.trans (congrArg some (by kernel_rfl))
  f215 := Yba.func35.trans (congrArg some (by kernel_rfl))
  f216 := Yba.func48.trans (congrArg some (by kernel_rfl))
  f257 := Yba.func41.trans (congrArg some (by kernel_rfl))
  f294 := Yba.func59.trans (congrArg some (by kernel_rfl))
  f295 := Yba.func60.trans (congrArg some (by kernel_rfl))
  f296 := Yba.func61.trans (congrArg some (by kernel_rfl))
  f297 := Yba.func62.trans (congrArg some (by kernel_rfl))
  f298 := Yba.func63.trans (congrArg some (by kernel_rfl))
  f299 := Yba.func64.trans (congrArg some (by kernel_rfl))
  f300 := Yba.func65.trans (congrArg some (by kernel_rfl))
  f301 := Yba.func66.trans (congrArg some (by kernel_rfl))
  f328 := Yba.func75.trans (congrArg some (by kernel_rfl))
  f329 := Yba.func76.trans (congrArg some (by kernel_rfl))
  f330 := Yba.func77.trans (congrArg some (by kernel_rfl))
  f331 := Yba.func78.trans (congrArg some (by kernel_rfl))
  f332 := Yba.func79.trans (congrArg some (by kernel_rfl))
  f343 := Yba.func88.trans (congrArg some (by kernel_rfl))
  t0 := Yba.underlying0
  a0 := Yba.isAgg0
  z0 := Yba.sizeOf0
  v0 := Yba.zeroValue0
  t3 := Yba.underlying3
  a3 := Yba.isAgg3
  z3 := Yba.sizeOf3
  v3 := Yba.zeroValue3
  t4 := Yba.underlying4
  a4 := Yba.isAgg4
  z4 := Yba.sizeOf4
  v4 := Yba.zeroValue4
  t5 := Yba.underlying5
  a5 := Yba.isAgg5
  z5 := Yba.sizeOf5
  v5 := Yba.zeroValue5
  t9 := Yba.underlying9
  a9 := Yba.isAgg9
  z9 := Yba.sizeOf9
  v9 := Yba.zeroValue9
  t28 := Yba.underlying23
  a28 := Yba.isAgg23
  z28 := Yba.sizeOf23
  v28 := Yba.zeroValue23
  t46 := Yba.underlying86
  a46 := Yba.isAgg86
  z46 := Yba.sizeOf86
  v46 := Yba.zeroValue86
  t51 := Yba.underlying114
  a51 := Yba.isAgg114
  z51 := Yba.sizeOf114
  v51 := Yba.zeroValue114
  t53 := Yba.underlying35
  a53 := Yba.isAgg35
  z53 := Yba.sizeOf35
  v53 := Yba.zeroValue35
  t131 := Yba.underlying100
  a131 := Yba.isAgg100
  z131 := Yba.sizeOf100
  v131 := Yba.zeroValue100
  t182 := Yba.underlying107
  a182 := Yba.isAgg107
  z182 := Yba.sizeOf107
  v182 := Yba.zeroValue107
  t183 := Yba.underlying108
  a183 := Yba.isAgg108
  z183 := Yba.sizeOf108
  v183 := Yba.zeroValue108
  t218 := Yba.underlying123
  a218 := Yba.isAgg123
  z218 := Yba.sizeOf123
  v218 := Yba.zeroValue123
  t222 := Yba.underlying127
  a222 := Yba.isAgg127
  z222 := Yba.sizeOf127
  v222 := Yba.zeroValue127
  t228 := Yba.underlying136
  a228 := Yba.isAgg136
  z228 := Yba.sizeOf136
  v228 := Yba.zeroValue136
  t229 := Yba.underlying137
  a229 := Yba.isAgg137
  z229 := Yba.sizeOf137
  v229 := Yba.zeroValue137 }
open Go.Sort Go.RowKit in
theorem Yba.slices_Sort_int (blk off cap : Nat) (zs : List Int) (w : World) (hH : Holds (Value.int .i64) w blk off zs.toArray) (hblk : blk < w.heap.size) (hsz : zs.length < 4611686018427387904) :
    Calls Yba.prog 20 #[.slice (some ⟨blk, off, none⟩) zs.length cap] w fun e w' =>
      e = .returned (.tuple #[]) ∧ ∃ n os, w' = grow (putRow (Value.int .i64) (Sort.ahead w n) blk off (zs.mergeSort fun x y => decide (x ≤ y)).toArray) os := Any.slices_Sort_int Yba.lays189 blk off cap zs w hH hblk hsz
def Yba.lays112_ren : Go.Shelf.Ren := ⟨fun | 112 => 27 | n => n, fun | 28 => 23 | 3 => 3 | 4 => 4 | 0 => 0 | n => n, fun | n => n⟩
theorem Yba.lays112 : Go.Proofs.Lays.n112 Yba.prog Yba.lays112_ren := {
  mixed := by kernel_rfl
  f112 := Yba.func27.trans (congrArg some (by kernel_rfl))
  t0 := Yba.underlying0
  a0 := Yba.isAgg0
  z0 := Yba.sizeOf0
  v0 := Yba.zeroValue0
  t3 := Yba.underlying3
  a3 := Yba.isAgg3
  z3 := Yba.sizeOf3
  v3 := Yba.zeroValue3
  t4 := Yba.underlying4
  a4 := Yba.isAgg4
  z4 := Yba.sizeOf4
  v4 := Yba.zeroValue4
  t28 := Yba.underlying23
  a28 := Yba.isAgg23
  z28 := Yba.sizeOf23
  v28 := Yba.zeroValue23 }
def Yba.lays111_ren : Go.Shelf.Ren := ⟨fun | 111 => 13 | n => n, fun | 28 => 23 | 3 => 3 | 4 => 4 | 0 => 0 | n => n, fun | n => n⟩
theorem Yba.lays111 : Go.Proofs.Lays.n111 Yba.prog Yba.lays111_ren := {
  mixed := by kernel_rfl
  f111 := Yba.func13.trans (congrArg some (by kernel_rfl))
  t0 := Yba.underlying0
  a0 := Yba.isAgg0
  z0 := Yba.sizeOf0
  v0 := Yba.zeroValue0
  t3 := Yba.underlying3
  a3 := Yba.isAgg3
  z3 := Yba.sizeOf3
  v3 := Yba.zeroValue3
  t4 := Yba.underlying4
  a4 := Yba.isAgg4
  z4 := Yba.sizeOf4
  v4 := Yba.zeroValue4
  t28 := Yba.underlying23
  a28 := Yba.isAgg23
  z28 := Yba.sizeOf23
  v28 := Yba.zeroValue23 }
open Go.RowKit Go.Lib in
theorem Yba.slices_Equal_int (b1 o1 n c b2 o2 m d : Nat) (xs ys : List Int) (w : World) (hx : n ≤ xs.length) (hy : m ≤ ys.length) (hbig : n ≤ 9223372036854775807) (hbig2 : m ≤ 9223372036854775807) (hc1 : ∀ j, j < xs.length → w.cell? ⟨b1, o1 + j, none⟩ = some (.int .i64 (xs.getD j 0))) (hc2 : ∀ j, j < ys.length → w.cell? ⟨b2, o2 + j, none⟩ = some (.int .i64 (ys.getD j 0))) :
    Calls Yba.prog 13 #[.slice (some ⟨b1, o1, none⟩) n c, .slice (some ⟨b2, o2, none⟩) m d] w fun e w' => e = .returned (.bool (xs.take n == ys.take m)) ∧ ∃ q, w' = w.drewN q := Any.slices_Equal_int Yba.lays111 b1 o1 n c b2 o2 m d xs ys w hx hy hbig hbig2 hc1 hc2
open Go.RowKit Go.Lib in
theorem Yba.slices_Equal_int_empty (a1 a2 : Option Addr) (c m d : Nat) (w : World) (hbig2 : m ≤ 9223372036854775807) :
    Calls Yba.prog 13 #[.slice a1 0 c, .slice a2 m d] w fun e w' => e = .returned (.bool (decide (m = 0))) ∧ w' = w := Any.slices_Equal_int_empty Yba.lays111 a1 a2 c m d w hbig2
def Yba.laysNm215_ren : Go.Shelf.Ren := ⟨fun | 15 => 19 | n => n, fun | 22 => 23 | 3 => 3 | 4 => 4 | n => n, fun | n => n⟩
theorem Yba.laysNm215 : Go.Proofs.Lays2.n15 Yba.prog Yba.laysNm215_ren := {
  mixed := by kernel_rfl
  f15 := Yba.func19.trans (congrArg some (by kernel_rfl))
  t3 := Yba.underlying3
  a3 := Yba.isAgg3
  z3 := Yba.sizeOf3
  v3 := Yba.zeroValue3
  t4 := Yba.underlying4
  a4 := Yba.isAgg4
  z4 := Yba.sizeOf4
  v4 := Yba.zeroValue4
  t22 := Yba.underlying23
  a22 := Yba.isAgg23
  z22 := Yba.sizeOf23
  v22 := Yba.zeroValue23
  i3 := by kernel_rfl }
open Go.RowKit Go.Lib in
theorem Yba.slices_Clone_int (b off n c : Nat) (zs : List Int) (w : World) (hz : n ≤ zs.length) (hbig : n * 8 ≤ 140737488355328) (hc : ∀ j, j < zs.length → w.cell? ⟨b, off + j, none⟩ = some (.int .i64 (zs.getD j 0))) :
    Calls Yba.prog 19 #[.slice (some ⟨b, off, none⟩) n c] w fun e w' => ∃ v', e = .returned v' ∧ w'.ownsRow w.heap.size 3 1 v' n ((zs.take n).map (Value.int .i64)) ∧ v' ≠ .slice none 0 0 ∧ Below w.heap.size w w' := Any.slices_Clone_int Yba.laysNm215 b off n c zs w hz hbig hc
open Go.RowKit Go.Lib in
theorem Yba.slices_Clone_int_nil (n c : Nat) (w : World) :
    Calls Yba.prog 19 #[.slice none n c] w fun e w' => e = .returned (.slice none 0 0) ∧ w' = w := Any.slices_Clone_int_nil Yba.laysNm215 n c w
open Go.RowKit Go.Lib in
theorem Yba.slices_Clone_int_zero (a : Addr) (c : Nat) (w : World) :
    Calls Yba.prog 19 #[.slice (some a) 0 c] w fun e w' => ∃ v', e = .returned v' ∧ w'.ownsRow w.heap.size 3 1 v' 0 [] ∧ v' ≠ .slice none 0 0 ∧ Below w.heap.size w w' := Any.slices_Clone_int_zero Yba.laysNm215 a c w
def Yba.laysNm220_ren : Go.Shelf.Ren := ⟨fun | 20 => 21 | n => n, fun | 22 => 23 | 3 => 3 | 4 => 4 | 0 => 0 | n => n, fun | n => n⟩
theorem Yba.laysNm220 : Go.Proofs.Lays2.n20 Yba.prog Yba.laysNm220_ren := {
  mixed := by kernel_rfl
  f20 := Yba.func21.trans (congrArg some (by kernel_rfl))
  t0 := Yba.underlying0
  a0 := Yba.isAgg0
  z0 := Yba.sizeOf0
  v0 := Yba.zeroValue0
  t3 := Yba.underlying3
  a3 := Yba.isAgg3
  z3 := Yba.sizeOf3
  v3 := Yba.zeroValue3
  t4 := Yba.underlying4
  a4 := Yba.isAgg4
  z4 := Yba.sizeOf4
  v4 := Yba.zeroValue4
  t22 := Yba.underlying23
  a22 := Yba.isAgg23
  z22 := Yba.sizeOf23
  v22 := Yba.zeroValue23
  i3 := by kernel_rfl }
open Go.RowKit Go.Lib Go.Sort in
theorem Yba.slices_Reverse_int_cells (b off n c : Nat) (zs : List Int) (w : World) (hz : n ≤ zs.length) (hbig : n ≤ 9223372036854775807) (hc : ∀ j, j < zs.length → w.cell? ⟨b, off + j, none⟩ = some (.int .i64 (zs.getD j 0))) (hf : ∀ j, j < n → w.frozen? ⟨b, off + j, none⟩ = false) :
    Calls Yba.prog 27 #[.slice (some ⟨b, off, none⟩) n c] w fun e w' => e = .returned (.tuple #[]) ∧ ∃ q, w' = (w.drewN q).setCells b off ((zs.take n).reverse.map (Value.int .i64)) := Any.slices_Reverse_int_cells Yba.lays112 b off n c zs w hz hbig hc hf
open Go.RowKit Go.Lib Go.Sort in
theorem Yba.slices_Compact_int_cells (b off n c : Nat) (zs : List Int) (w : World) (hz : n ≤ zs.length) (hbig : n ≤ 9223372036854775807) (hcap : n ≤ c) (hc : ∀ j, j < zs.length → w.cell? ⟨b, off + j, none⟩ = some (.int .i64 (zs.getD j 0))) (hf : ∀ j, j < n → w.frozen? ⟨b, off + j, none⟩ = false) :
    Calls Yba.prog 21 #[.slice (some ⟨b, off, none⟩) n c] w fun e w' => e = .returned (.slice (some ⟨b, off, none⟩) (Lib.compact (zs.take n)).length c) ∧ ∃ q, w' = (w.drewN q).setCells b off ((Lib.compact (zs.take n) ++ List.replicate (n - (Lib.compact (zs.take n)).length) 0).map (Value.int .i64)) := Any.slices_Compact_int_cells Yba.laysNm220 b off n c zs w hz hbig hcap hc hf

end Go.Proofs
