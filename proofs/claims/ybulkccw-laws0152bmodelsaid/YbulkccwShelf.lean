/- The contracts of the shelf at this program, in plain words (laid by program). -/
import Derived.Shelf.Small.Strs
import Derived.Shelf.Small.Wraps
import Derived.Shelf.Sort.Plain
import Derived.Shelf.Slices.In.SortNone
import Derived.Ground.SlgfProg
import Derived.Shelf.SlicesE.IndexFunc
import Derived.Ground.SlsfProg
import Derived.Shelf.SlSortCmp.NoneTotal
import Derived.Test.YbulkccwProg
namespace Go.Proofs
open Go.Shelf
def Yba.lays106_ren : Go.Shelf.Ren := ⟨fun | 106 => 20 | 213 => 30 | 265 => 43 | n => n, fun | 9 => 9 | 3 => 3 | n => n, fun | n => n⟩
theorem Yba.lays106 : Go.Proofs.Lays.n106 Yba.prog Yba.lays106_ren := {
  mixed := by kernel_rfl
  f106 := Yba.func20.trans (congrArg some (by kernel_rfl))
  f213 := Yba.func30.trans (congrArg some (by kernel_rfl))
  f265 := Yba.func43.trans (congrArg some (by kernel_rfl))
  t3 := Yba.underlying3
  a3 := Yba.isAgg3
  z3 := Yba.sizeOf3
  v3 := Yba.zeroValue3
  t9 := Yba.underlying9
  a9 := Yba.isAgg9
  z9 := Yba.sizeOf9
  v9 := Yba.zeroValue9 }
open Go.RowKit in
theorem Yba.strings_Compare (a b : ByteArray) (w : World) :
    Calls Yba.prog 20 #[.string a, .string b] w fun e w' => e = .returned (.int .i64 (Lib.compareBytes a.data.toList b.data.toList)) ∧ w' = w := Any.strings_Compare Yba.lays106 a b w
def Yba.lays189_ren : Go.Shelf.Ren := ⟨fun | 189 => 27 | 125 => 29 | 257 => 32 | 128 => 41 | 129 => 42 | 294 => 44 | 295 => 45 | 296 => 46 | 297 => 47 | 298 => 48 | 299 => 49 | 216 => 50 | 300 => 51 | 301 => 52 | 328 => 58 | 329 => 54 | 330 => 55 | 331 => 59 | 332 => 60 | 215 => 61 | 343 => 63 | n => n, fun | 28 => 43 | 3 => 3 | 46 => 47 | 0 => 0 | 51 => 36 | 53 => 73 | 4 => 4 | 183 => 65 | 182 => 64 | 131 => 69 | 5 => 5 | 9 => 9 | 218 => 80 | 222 => 84 | 228 => 89 | 229 => 90 | n => n, fun | n => n⟩
theorem Yba.lays189 : Go.Proofs.Lays.n189 Yba.prog Yba.lays189_ren := {
  mixed := by kernel_rfl
  f125 := Yba.func29.trans (congrArg some (by kernel_rfl))
  f128 := Yba.func41.trans (congrArg some (by kernel_rfl))
  f129 := Yba.func42.trans (congrArg some (by kernel_rfl))
  f189 := Yba.func27.trans (congrArg some (by kernel_rfl))
  f215 := Yba.func61.trans (congrArg some (by kernel_rfl))
  f216 := Yba.func50.trans (congrArg some (by kernel_rfl))
  f257 := Yba.func32.trans (congrArg some (by kernel_rfl))
  f294 := Yba.func44.trans (congrArg some (by kernel_rfl))
  f295 := Yba.func45.trans (congrArg some (by kernel_rfl))
  f296 := Yba.func46.trans (congrArg some (by kernel_rfl))
  f297 := Yba.func47.trans (congrArg some (by kernel_rfl))
  f298 := Yba.func48.trans (congrArg some (by kernel_rfl))
  f299 := Yba.func49.trans (congrArg some (by kernel_rfl))
  f300 := Yba.func51.trans (congrArg some (by kernel_rfl))
  f301 := Yba.func52.trans (congrArg some (by kernel_rfl))
  f328 := Yba.func58.trans (congrArg some (by kernel_rfl))
  f329 := Yba.func54.trans (congrArg some (by kernel_rfl))
  f330 := Yba.func55.trans (congrArg some (by kernel_rfl))
  f331 := Yba.func59.trans (congrArg some (by kernel_rfl))
  f332 := Yba.func60.trans (congrArg some (by kernel_rfl))
  f343 := Yba.func63.trans (congrArg some (by kernel_rfl))
  t0 := Yba.underlying0
  a0 := Yba.isAgg0
  z0 := Yba.sizeOf0
  v0 := Yba.zeroValue0
  t3 := Yba.underlying3
  a3 := Yba.isAgg3
  z3 := Yba.sizeOf3
  v3 := Yba.zeroValue3
  t4 := Yba.underlying4
  a4 := Yba.isAgg4
  z4 := Yba.sizeOf4
  v4 := Yba.zeroValue4
  t5 := Yba.underlying5
  a5 := Yba.isAgg5
  z5 := Yba.sizeOf5
  v5 := Yba.zeroValue5
  t9 := Yba.underlying9
  a9 := Yba.isAgg9
  z9 := Yba.sizeOf9
  v9 := Yba.zeroValue9
  t28 := Yba.underlying43
  a28 := Yba.isAgg43
  z28 := Yba.sizeOf43
  v28 := Yba.zeroValue43
  t46 := Yba.underlying47
  a46 := Yba.isAgg47
  z46 := Yba.sizeOf47
  v46 := Yba.zeroValue47
  t51 := Yba.underlying36
  a51 := Yba.isAgg36
  z51 := Yba.sizeOf36
  v51 := Yba.zeroValue36
  t53 := Yba.underlying73
  a53 := Yba.isAgg73
  z53 := Yba.sizeOf73
  v53 := Yba.zeroValue73
  t131 := Yba.underlying69
  a131 := Yba.isAgg69
  z131 := Yba.sizeOf69
  v131 := Yba.zeroValue69
  t182 := Yba.underlying64
  a182 := Yba.isAgg64
  z182 := Yba.sizeOf64
  v182 := Yba.zeroValue64
  t183 := Yba.underlying65
  a183 := Yba.isAgg65
  z183 := Yba.sizeOf65
  v183 := Yba.zeroValue65
  t218 := Yba.underlying80
  a218 := Yba.isAgg80
  z218 := Yba.sizeOf80
  v218 := Yba.zeroValue80
  t222 := Yba.underlying84
  a222 := Yba.isAgg84
  z222 := Yba.sizeOf84
  v222 := Yba.zeroValue84
  t228 := Yba.underlying89
  a228 := Yba.isAgg89
  z228 := Yba.sizeOf89
  v228 := Yba.zeroValue89
  t229 := Yba.underlying90
  a229 := Yba.isAgg90
  z229 := Yba.sizeOf90
  v229 := Yba.zeroValue90 }
open Go.Sort Go.RowKit in
theorem Yba.slices_Sort_int (blk off cap : Nat) (zs : List Int) (w : World) (hH : Holds (Value.int .i64) w blk off zs.toArray) (hblk : blk < w.heap.size) (hsz : zs.length < 4611686018427387904) :
    Calls Yba.prog 27 #[.slice (some ⟨blk, off, none⟩) zs.length cap] w fun e w' =>
      e = .returned (.tuple #[]) ∧ ∃ n os, w' = grow (putRow (Value.int .i64) (Sort.ahead w n) blk off (zs.mergeSort fun x y => decide (x ≤ y)).toArray) os := Any.slices_Sort_int Yba.lays189 blk off cap zs w hH hblk hsz
open Go.RowKit Go.Sort in
theorem Yba.slices_Sort_int_none (p : Option Addr) (cap : Nat) (w : World) :
    Calls Yba.prog 27 #[.slice p 0 cap] w fun e w' => e = .returned (.tuple #[]) ∧ w' = w := Any.slices_Sort_int_none Yba.lays189 p cap w
def Yba.laysSlH6_f25_ren : Go.Shelf.Ren := ⟨fun | 6 => 25 | n => n, fun | 22 => 48 | 23 => 21 | 25 => 57 | 3 => 3 | 0 => 0 | 4 => 4 | n => n, fun | n => n⟩
theorem Yba.laysSlH6_f25 : Go.Proofs.SlLaysH.n6 Yba.prog Yba.laysSlH6_f25_ren := {
  mixed := by kernel_rfl
  f6 := ⟨Yba.f25.name, by decide, Yba.func25.trans (congrArg some (by kernel_rfl))⟩
  t0 := Yba.underlying0
  a0 := Yba.isAgg0
  z0 := Yba.sizeOf0
  v0 := Yba.zeroValue0
  t3 := Yba.underlying3
  a3 := Yba.isAgg3
  z3 := Yba.sizeOf3
  v3 := Yba.zeroValue3
  t4 := Yba.underlying4
  a4 := Yba.isAgg4
  z4 := Yba.sizeOf4
  v4 := Yba.zeroValue4
  t22 := Yba.underlying48
  a22 := Yba.isAgg48
  z22 := Yba.sizeOf48
  v22 := Yba.zeroValue48
  a23 := Yba.isAgg21
  z23 := Yba.sizeOf21
  t25 := Yba.underlying57
  a25 := Yba.isAgg57
  z25 := Yba.sizeOf57
  v25 := Yba.zeroValue57 }
open Go.RowKit Go.Lib in
theorem Yba.slices_IndexFunc {α : Type} [Inhabited α] (enc : α → Value) (p : α → Bool) (g : Nat) (lb : Array Value) (eg : ∀ args w, (callFunc g args).run Yba.prog w = .ok (.enter g args) w) (b off n c : Nat) (zs : List α) (w : World) (hp : PredAt Yba.prog g lb enc p w) (hz : n ≤ zs.length) (hbig : n ≤ 9223372036854775807) (hc : ∀ j, j < zs.length → w.cell? ⟨b, off + j, none⟩ = some (enc zs[j]!)) :
    Calls Yba.prog 25 #[.slice (some ⟨b, off, none⟩) n c, .func (.func g) #[] lb] w fun e w' => e = .returned (.int .i64 (Lib.idxBy (fun _ y => p y) (zs.take n) default)) ∧ ∃ q, w' = w.drewN q := AnyE.slices_IndexFunc Yba.laysSlH6_f25 enc p g lb eg b off n c zs w hp hz hbig hc
def Yba.laysSlH8_f23_ren : Go.Shelf.Ren := ⟨fun | 8 => 23 | 6 => 25 | n => n, fun | 22 => 48 | 23 => 21 | 25 => 57 | 4 => 4 | 3 => 3 | 0 => 0 | n => n, fun | n => n⟩
theorem Yba.laysSlH8_f23 : Go.Proofs.SlLaysH.n8 Yba.prog Yba.laysSlH8_f23_ren := {
  mixed := by kernel_rfl
  f6 := ⟨Yba.f25.name, by decide, Yba.func25.trans (congrArg some (by kernel_rfl))⟩
  f8 := ⟨Yba.f23.name, by decide, Yba.func23.trans (congrArg some (by kernel_rfl))⟩
  t0 := Yba.underlying0
  a0 := Yba.isAgg0
  z0 := Yba.sizeOf0
  v0 := Yba.zeroValue0
  t3 := Yba.underlying3
  a3 := Yba.isAgg3
  z3 := Yba.sizeOf3
  v3 := Yba.zeroValue3
  t4 := Yba.underlying4
  a4 := Yba.isAgg4
  z4 := Yba.sizeOf4
  v4 := Yba.zeroValue4
  t22 := Yba.underlying48
  a22 := Yba.isAgg48
  z22 := Yba.sizeOf48
  v22 := Yba.zeroValue48
  a23 := Yba.isAgg21
  z23 := Yba.sizeOf21
  t25 := Yba.underlying57
  a25 := Yba.isAgg57
  z25 := Yba.sizeOf57
  v25 := Yba.zeroValue57 }
open Go.RowKit Go.Lib in
theorem Yba.slices_ContainsFunc {α : Type} [Inhabited α] (enc : α → Value) (p : α → Bool) (g : Nat) (lb : Array Value) (eg : ∀ args w, (callFunc g args).run Yba.prog w = .ok (.enter g args) w) (b off n c : Nat) (zs : List α) (w : World) (hp : PredAt Yba.prog g lb enc p w) (hz : n ≤ zs.length) (hbig : n ≤ 9223372036854775807) (hc : ∀ j, j < zs.length → w.cell? ⟨b, off + j, none⟩ = some (enc zs[j]!)) :
    Calls Yba.prog 23 #[.slice (some ⟨b, off, none⟩) n c, .func (.func g) #[] lb] w fun e w' => e = .returned (.bool ((zs.take n).any p)) ∧ ∃ q, w' = w.drewN q := AnyE.slices_ContainsFunc Yba.laysSlH8_f23 enc p g lb eg b off n c zs w hp hz hbig hc
def Yba.laysSlF6_f17_ren : Go.Shelf.Ren := ⟨fun | 6 => 17 | 15 => 29 | 14 => 28 | 28 => 41 | 29 => 42 | 20 => 33 | 21 => 34 | 22 => 35 | 23 => 36 | 24 => 37 | 25 => 38 | 26 => 39 | 27 => 40 | 46 => 53 | 47 => 54 | 48 => 55 | 49 => 56 | 50 => 57 | 57 => 62 | n => n, fun | 22 => 48 | 24 => 21 | 25 => 52 | 3 => 3 | 39 => 47 | 0 => 0 | 53 => 36 | 55 => 73 | 4 => 4 | 46 => 65 | 45 => 64 | 50 => 69 | 5 => 5 | 9 => 9 | 66 => 80 | 70 => 84 | 76 => 89 | 77 => 90 | n => n, fun | n => n⟩
theorem Yba.laysSlF6_f17 : Go.Proofs.SlLaysF.n6 Yba.prog Yba.laysSlF6_f17_ren := {
  mixed := by kernel_rfl
  f6 := ⟨Yba.f17.name, by decide, Yba.func17.trans (congrArg some (by kernel_rfl))⟩
  f14 := ⟨Yba.f28.name, by decide, Yba.func28.trans (congrArg some (by kernel_rfl))⟩
  f15 := Yba.func29.trans (congrArg some (by kernel_rfl))
  f20 := ⟨Yba.f33.name, by decide, Yba.func33.trans (congrArg some (by kernel_rfl))⟩
  f21 := ⟨Yba.f34.name, by decide, Yba.func34.trans (congrArg some (by kernel_rfl))⟩
  f22 := ⟨Yba.f35.name, by decide, Yba.func35.trans (congrArg some (by kernel_rfl))⟩
  f23 := ⟨Yba.f36.name, by decide, Yba.func36.trans (congrArg some (by kernel_rfl))⟩
  f24 := ⟨Yba.f37.name, by decide, Yba.func37.trans (congrArg some (by kernel_rfl))⟩
  f25 := ⟨Yba.f38.name, by decide, Yba.func38.trans (congrArg some (by kernel_rfl))⟩
  f26 := ⟨Yba.f39.name, by decide, Yba.func39.trans (congrArg some (by kernel_rfl))⟩
  f27 := ⟨Yba.f40.name, by decide, Yba.func40.trans (congrArg some (by kernel_rfl))⟩
  f28 := Yba.func41.trans (congrArg some (by kernel_rfl))
  f29 := Yba.func42.trans (congrArg some (by kernel_rfl))
  f46 := ⟨Yba.f53.name, by decide, Yba.func53.trans (congrArg some (by kernel_rfl))⟩
  f47 := Yba.func54.trans (congrArg some (by kernel_rfl))
  f48 := Yba.func55.trans (congrArg some (by kernel_rfl))
  f49 := ⟨Yba.f56.name, by decide, Yba.func56.trans (congrArg some (by kernel_rfl))⟩
  f50 := ⟨Yba.f57.name, by decide, Yba.func57.trans (congrArg some (by kernel_rfl))⟩
  f57 := ⟨Yba.f62.name, by decide, Yba.func62.trans (congrArg some (by kernel_rfl))⟩
  t0 := Yba.underlying0
  a0 := Yba.isAgg0
  z0 := Yba.sizeOf0
  v0 := Yba.zeroValue0
  t3 := Yba.underlying3
  a3 := Yba.isAgg3
  z3 := Yba.sizeOf3
  v3 := Yba.zeroValue3
  t4 := Yba.underlying4
  a4 := Yba.isAgg4
  z4 := Yba.sizeOf4
  v4 := Yba.zeroValue4
  t5 := Yba.underlying5
  a5 := Yba.isAgg5
  z5 := Yba.sizeOf5
  v5 := Yba.zeroValue5
  t9 := Yba.underlying9
  a9 := Yba.isAgg9
  z9 := Yba.sizeOf9
  v9 := Yba.zeroValue9
  t22 := Yba.underlying48
  a22 := Yba.isAgg48
  z22 := Yba.sizeOf48
  v22 := Yba.zeroValue48
  a24 := Yba.isAgg21
  z24 := Yba.sizeOf21
  t25 := Yba.underlying52
  a25 := Yba.isAgg52
  z25 := Yba.sizeOf52
  v25 := Yba.zeroValue52
  t39 := Yba.underlying47
  a39 := Yba.isAgg47
  z39 := Yba.sizeOf47
  v39 := Yba.zeroValue47
  t45 := Yba.underlying64
  a45 := Yba.isAgg64
  z45 := Yba.sizeOf64
  v45 := Yba.zeroValue64
  t46 := Yba.underlying65
  a46 := Yba.isAgg65
  z46 := Yba.sizeOf65
  v46 := Yba.zeroValue65
  t50 := Yba.underlying69
  a50 := Yba.isAgg69
  z50 := Yba.sizeOf69
  v50 := Yba.zeroValue69
  t53 := Yba.underlying36
  a53 := Yba.isAgg36
  z53 := Yba.sizeOf36
  v53 := Yba.zeroValue36
  t55 := Yba.underlying73
  a55 := Yba.isAgg73
  z55 := Yba.sizeOf73
  v55 := Yba.zeroValue73
  t66 := Yba.underlying80
  a66 := Yba.isAgg80
  z66 := Yba.sizeOf80
  v66 := Yba.zeroValue80
  t70 := Yba.underlying84
  a70 := Yba.isAgg84
  z70 := Yba.sizeOf84
  v70 := Yba.zeroValue84
  t76 := Yba.underlying89
  a76 := Yba.isAgg89
  z76 := Yba.sizeOf89
  v76 := Yba.zeroValue89
  t77 := Yba.underlying90
  a77 := Yba.isAgg90
  z77 := Yba.sizeOf90
  v77 := Yba.zeroValue90 }
def Yba.laysSlF06_f17_ren : Go.Shelf.Ren := ⟨fun | 6 => 17 | 15 => 29 | 14 => 28 | 28 => 41 | 29 => 42 | 20 => 33 | 21 => 34 | 22 => 35 | 23 => 36 | 24 => 37 | 25 => 38 | 26 => 39 | 27 => 40 | 46 => 53 | 47 => 54 | 48 => 55 | 49 => 56 | 50 => 57 | 57 => 62 | n => n, fun | 22 => 48 | 24 => 21 | 25 => 52 | 3 => 3 | 39 => 47 | 0 => 0 | 53 => 36 | 55 => 73 | 4 => 4 | 46 => 65 | 45 => 64 | 50 => 69 | 5 => 5 | 9 => 9 | 66 => 80 | 70 => 84 | 76 => 89 | 77 => 90 | n => n, fun | n => n⟩
theorem Yba.laysSlF06_f17 : Go.Proofs.SlLaysF0.n6 Yba.prog Yba.laysSlF06_f17_ren := {
  mixed := by kernel_rfl
  f6 := ⟨Yba.f17.name, by decide, Yba.func17.trans (congrArg some (by kernel_rfl))⟩
  f14 := ⟨Yba.f28.name, by decide, Yba.func28.trans (congrArg some (by kernel_rfl))⟩
  f15 := Yba.func29.trans (congrArg some (by kernel_rfl))
  f20 := ⟨Yba.f33.name, by decide, Yba.func33.trans (congrArg some (by kernel_rfl))⟩
  f21 := ⟨Yba.f34.name, by decide, Yba.func34.trans (congrArg some (by kernel_rfl))⟩
  f22 := ⟨Yba.f35.name, by decide, Yba.func35.trans (congrArg some (by kernel_rfl))⟩
  f23 := ⟨Yba.f36.name, by decide, Yba.func36.trans (congrArg some (by kernel_rfl))⟩
  f24 := ⟨Yba.f37.name, by decide, Yba.func37.trans (congrArg some (by kernel_rfl))⟩
  f25 := ⟨Yba.f38.name, by decide, Yba.func38.trans (congrArg some (by kernel_rfl))⟩
  f26 := ⟨Yba.f39.name, by decide, Yba.func39.trans (congrArg some (by kernel_rfl))⟩
  f27 := ⟨Yba.f40.name, by decide, Yba.func40.trans (congrArg some (by kernel_rfl))⟩
  f28 := Yba.func41.trans (congrArg some (by kernel_rfl))
  f29 := Yba.func42.trans (congrArg some (by kernel_rfl))
  f46 := ⟨Yba.f53.name, by decide, Yba.func53.trans (congrArg some (by kernel_rfl))⟩
  f47 := Yba.func54.trans (congrArg some (by kernel_rfl))
  f48 := Yba.func55.trans (congrArg some (by kernel_rfl))
  f49 := ⟨Yba.f56.name, by decide, Yba.func56.trans (congrArg some (by kernel_rfl))⟩
  f50 := ⟨Yba.f57.name, by decide, Yba.func57.trans (congrArg some (by kernel_rfl))⟩
  f57 := ⟨Yba.f62.name, by decide, Yba.func62.trans (congrArg some (by kernel_rfl))⟩
  t0 := Yba.underlying0
  a0 := Yba.isAgg0
  z0 := Yba.sizeOf0
  v0 := Yba.zeroValue0
  t3 := Yba.underlying3
  a3 := Yba.isAgg3
  z3 := Yba.sizeOf3
  v3 := Yba.zeroValue3
  t4 := Yba.underlying4
  a4 := Yba.isAgg4
  z4 := Yba.sizeOf4
  v4 := Yba.zeroValue4
  t5 := Yba.underlying5
  a5 := Yba.isAgg5
  z5 := Yba.sizeOf5
  v5 := Yba.zeroValue5
  t9 := Yba.underlying9
  a9 := Yba.isAgg9
  z9 := Yba.sizeOf9
  v9 := Yba.zeroValue9
  t22 := Yba.underlying48
  a22 := Yba.isAgg48
  z22 := Yba.sizeOf48
  v22 := Yba.zeroValue48
  t25 := Yba.underlying52
  a25 := Yba.isAgg52
  z25 := Yba.sizeOf52
  v25 := Yba.zeroValue52
  t39 := Yba.underlying47
  a39 := Yba.isAgg47
  z39 := Yba.sizeOf47
  v39 := Yba.zeroValue47
  t45 := Yba.underlying64
  a45 := Yba.isAgg64
  z45 := Yba.sizeOf64
  v45 := Yba.zeroValue64
  t46 := Yba.underlying65
  a46 := Yba.isAgg65
  z46 := Yba.sizeOf65
  v46 := Yba.zeroValue65
  t50 := Yba.underlying69
  a50 := Yba.isAgg69
  z50 := Yba.sizeOf69
  v50 := Yba.zeroValue69
  t53 := Yba.underlying36
  a53 := Yba.isAgg36
  z53 := Yba.sizeOf36
  v53 := Yba.zeroValue36
  t55 := Yba.underlying73
  a55 := Yba.isAgg73
  z55 := Yba.sizeOf73
  v55 := Yba.zeroValue73
  t66 := Yba.underlying80
  a66 := Yba.isAgg80
  z66 := Yba.sizeOf80
  v66 := Yba.zeroValue80
  t70 := Yba.underlying84
  a70 := Yba.isAgg84
  z70 := Yba.sizeOf84
  v70 := Yba.zeroValue84
  t76 := Yba.underlying89
  a76 := Yba.isAgg89
  z76 := Yba.sizeOf89
  v76 := Yba.zeroValue89
  t77 := Yba.underlying90
  a77 := Yba.isAgg90
  z77 := Yba.sizeOf90
  v77 := Yba.zeroValue90 }
open Go.RowKit Go.Lib Go.Sort in
theorem Yba.slices_SortFunc_none {α : Type} [Inhabited α] (p : Option Addr) (cap : Nat) (fv : Value) (w : World) :
    Calls Yba.prog 17 #[.slice p 0 cap, fv] w fun e w' => e = .returned (.tuple #[]) ∧ w' = w := AnyF.slices_SortFunc_none Yba.laysSlF06_f17 p cap fv w
open Go.RowKit Go.Lib Go.Sort in
theorem Yba.slices_SortFunc_total {α : Type} [Inhabited α] (enc : α → Value) (h1 : OneCell enc) (cf : α → α → Int) (hO : SWO (ltOf cf)) (g : Nat) (cb : Array Value) (blk off cap : Nat) (d : Array α) (w : World) (eg : ∀ args w, (callFunc g args).run Yba.prog w = .ok (.enter g args) w) (hcmp : CmpLays1 Yba.prog g cb enc cf blk off d.size w) (hH : Holds enc w blk off d) (hblk : blk < w.heap.size) (hsz : d.size < 4611686018427387904) (hT : ∀ x y, (ltOf cf) x y = false → (ltOf cf) y x = false → x = y) :
    Calls Yba.prog 17 #[.slice (some ⟨blk, off, none⟩) d.size cap, .func (.func g) #[] cb] w fun e w' =>
      e = .returned (.tuple #[]) ∧ ∃ n os, w' = sortWorld enc w blk off n (d.toList.mergeSort fun x y => !(ltOf cf) y x).toArray os := Any.slices_SortFunc_total Yba.laysSlF6_f17 enc h1 cf hO g cb blk off cap d w eg hcmp hH hblk hsz hT
end Go.Proofs
