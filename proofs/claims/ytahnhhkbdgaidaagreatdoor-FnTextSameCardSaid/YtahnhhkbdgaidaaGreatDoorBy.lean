/-
  The library's own contracts at this program: lengths of words, products of words, digits.
-/
import Derived.Test.YtahnhhkbdgaidaaGreatDoorBx
import Derived.Shelf.Strconv.Itoa0
import Derived.Shelf.Strconv.Itoa1
import Derived.Shelf.LaysM
import Derived.Shelf.Strconv.Itoa2
import Derived.Shelf.Bits.Mul64
namespace Go.Proofs.YtahnhhkbdgaidaaGreatDoor
open Go.RowKit Go.Shelf

def lays129_ren : Go.Shelf.Ren := ⟨fun | 129 => 314 | n => n, fun | 53 => 155 | 3 => 3 | 4 => 4 | 46 => 119 | 5 => 5 | 9 => 9 | n => n, fun | n => n⟩
theorem lays129 : Lays.n129 Tryz.prog lays129_ren where
  mixed := by kernel_rfl
  f129 := Tryz.func314.trans (congrArg some (by kernel_rfl))
  t3 := Tryz.underlying3
  a3 := Tryz.isAgg3
  z3 := Tryz.sizeOf3
  v3 := Tryz.zeroValue3
  t4 := Tryz.underlying4
  a4 := Tryz.isAgg4
  z4 := Tryz.sizeOf4
  v4 := Tryz.zeroValue4
  t5 := Tryz.underlying5
  a5 := Tryz.isAgg5
  z5 := Tryz.sizeOf5
  v5 := Tryz.zeroValue5
  t9 := Tryz.underlying9
  a9 := Tryz.isAgg9
  z9 := Tryz.sizeOf9
  v9 := Tryz.zeroValue9
  t46 := Tryz.underlying119
  a46 := Tryz.isAgg119
  z46 := Tryz.sizeOf119
  v46 := Tryz.zeroValue119
  t53 := Tryz.underlying155
  a53 := Tryz.isAgg155
  z53 := Tryz.sizeOf155
  v53 := Tryz.zeroValue155

def laysM284_ren : Go.Shelf.Ren := ⟨fun | 284 => 317 | 129 => 314 | 317 => 318 | 318 => 349 | n => n, fun | 53 => 155 | 3 => 3 | 212 => 409 | 0 => 0 | 4 => 4 | 46 => 119 | 5 => 5 | 9 => 9 | n => n, fun | 17 => 5 | n => n⟩
theorem laysM284 : LaysM.n284 Tryz.prog laysM284_ren where
  mixed := by kernel_rfl
  f129 := Tryz.func314.trans (congrArg some (by kernel_rfl))
  f284 := Tryz.func317.trans (congrArg some (by kernel_rfl))
  f317 := Tryz.func318.trans (congrArg some (by kernel_rfl))
  f318 := Tryz.func349.trans (congrArg some (by kernel_rfl))
  t0 := Tryz.underlying0
  a0 := Tryz.isAgg0
  z0 := Tryz.sizeOf0
  v0 := Tryz.zeroValue0
  t3 := Tryz.underlying3
  a3 := Tryz.isAgg3
  z3 := Tryz.sizeOf3
  v3 := Tryz.zeroValue3
  t4 := Tryz.underlying4
  a4 := Tryz.isAgg4
  z4 := Tryz.sizeOf4
  v4 := Tryz.zeroValue4
  t5 := Tryz.underlying5
  a5 := Tryz.isAgg5
  z5 := Tryz.sizeOf5
  v5 := Tryz.zeroValue5
  t9 := Tryz.underlying9
  a9 := Tryz.isAgg9
  z9 := Tryz.sizeOf9
  v9 := Tryz.zeroValue9
  t46 := Tryz.underlying119
  a46 := Tryz.isAgg119
  z46 := Tryz.sizeOf119
  v46 := Tryz.zeroValue119
  t53 := Tryz.underlying155
  a53 := Tryz.isAgg155
  z53 := Tryz.sizeOf155
  v53 := Tryz.zeroValue155
  t212 := Tryz.underlying409
  a212 := Tryz.isAgg409
  z212 := Tryz.sizeOf409
  v212 := Tryz.zeroValue409
  g17 := by kernel_rfl
  i0 := by kernel_rfl
  i3 := by kernel_rfl
  i4 := by kernel_rfl
  i5 := by kernel_rfl
  i9 := by kernel_rfl
  i46 := by kernel_rfl
  i53 := by kernel_rfl
  i212 := by kernel_rfl
  m17 := by kernel_rfl

def lays285_ren : Go.Shelf.Ren := ⟨fun | 285 => 348 | n => n, fun | 37 => 32 | 53 => 155 | 3 => 3 | 4 => 4 | 51 => 204 | 9 => 9 | 5 => 5 | 0 => 0 | n => n, fun | n => n⟩
theorem lays285 : Lays.n285 Tryz.prog lays285_ren where
  mixed := by kernel_rfl
  f285 := Tryz.func348.trans (congrArg some (by kernel_rfl))
  t0 := Tryz.underlying0
  a0 := Tryz.isAgg0
  z0 := Tryz.sizeOf0
  v0 := Tryz.zeroValue0
  t3 := Tryz.underlying3
  a3 := Tryz.isAgg3
  z3 := Tryz.sizeOf3
  v3 := Tryz.zeroValue3
  t4 := Tryz.underlying4
  a4 := Tryz.isAgg4
  z4 := Tryz.sizeOf4
  v4 := Tryz.zeroValue4
  t5 := Tryz.underlying5
  a5 := Tryz.isAgg5
  z5 := Tryz.sizeOf5
  v5 := Tryz.zeroValue5
  t9 := Tryz.underlying9
  a9 := Tryz.isAgg9
  z9 := Tryz.sizeOf9
  v9 := Tryz.zeroValue9
  t37 := Tryz.underlying32
  a37 := Tryz.isAgg32
  z37 := Tryz.sizeOf32
  v37 := Tryz.zeroValue32
  t51 := Tryz.underlying204
  a51 := Tryz.isAgg204
  z51 := Tryz.sizeOf204
  v51 := Tryz.zeroValue204
  t53 := Tryz.underlying155
  a53 := Tryz.isAgg155
  z53 := Tryz.sizeOf155
  v53 := Tryz.zeroValue155

def lays264_ren : Go.Shelf.Ren := ⟨fun | 264 => 369 | n => n, fun | 53 => 155 | 46 => 119 | n => n, fun | n => n⟩
theorem lays264 : Lays.n264 Tryz.prog lays264_ren where
  mixed := by kernel_rfl
  f264 := Tryz.func369.trans (congrArg some (by kernel_rfl))
  t46 := Tryz.underlying119
  a46 := Tryz.isAgg119
  z46 := Tryz.sizeOf119
  v46 := Tryz.zeroValue119
  t53 := Tryz.underlying155
  a53 := Tryz.isAgg155
  z53 := Tryz.sizeOf155
  v53 := Tryz.zeroValue155

theorem c314 (x : Nat) (w : World) (h : x < 18446744073709551616) : Calls Tryz.prog 314 #[.int .u64 x] w fun e w' => e = .returned (.int .i64 (Lib.bitLen x)) ∧ w' = w :=
  Any.bits_Len64 lays129 x w (by omega) (by omega)
theorem c317 (u : Nat) (h1 : 1 ≤ u) (h2 : u < 18446744073709551616) (w : World) (htab : Lib.TabIs Tryz.prog w "internal/strconv.uint64pow10" .u64 Lib.pow10Tab) :
    Calls Tryz.prog 317 #[.int .u64 u] w fun e w' => e = .returned (.int .i64 (Lib.nDigits u)) ∧ w' = w := Any.internal_strconv_numDigits laysM284 u h1 h2 w htab
theorem c348 (blk off cap : Nat) (u : Nat) (d : Array UInt8) (w : World) (hH : Sort.Holds (fun (b : UInt8) => Value.int .u8 (b.toNat : Int)) w blk off d) (hu : u < 10 ^ d.size) (hu64 : u < 18446744073709551616) (hsz : d.size < 4611686018427387904) :
    Calls Tryz.prog 348 #[.slice (some ⟨blk, off, none⟩) d.size cap, .int .u64 u] w fun e w' =>
      e = .returned (.tuple #[]) ∧ ∃ (n v' : Nat) (dk : Array UInt8), w' = (Sort.putRow (fun (b : UInt8) => Value.int .u8 (b.toNat : Int)) w blk off dk).drewN n ∧ Lib.FmtInv d.size u 0 v' dk := Any.internal_strconv_formatBase10 lays285 blk off cap u d w hH hu hu64 hsz
theorem c369 (x y : Nat) (hx : x < 18446744073709551616) (hy : y < 18446744073709551616) (w : World) : Calls Tryz.prog 369 #[.int .u64 x, .int .u64 y] w fun e w' =>
    e = .returned (.tuple #[.int .u64 ((x * y / 18446744073709551616 : Nat) : Int), .int .u64 ((x * y % 18446744073709551616 : Nat) : Int)]) ∧ w' = w := Any.bits_Mul64 lays264 x y hx hy w

end Go.Proofs.YtahnhhkbdgaidaaGreatDoor
