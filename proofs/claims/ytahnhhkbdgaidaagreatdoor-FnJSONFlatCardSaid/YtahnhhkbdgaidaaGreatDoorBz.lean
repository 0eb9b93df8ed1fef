/-
  Numbers in decimal: products of a number by a table's power, rounding.
-/
import Derived.Test.YtahnhhkbdgaidaaGreatDoorBx
import Derived.Shelf.Strconv.Itoa0
import Derived.Shelf.Strconv.Itoa1
import Derived.Shelf.LaysM
import Derived.Shelf.Strconv.Itoa2
import Derived.Shelf.Bits.Mul64
import Derived.WalkArith
namespace Go.Proofs.YtahnhhkbdgaidaaGreatDoor
open Go.RowKit Go.Shelf

def lays129_ren : Go.Shelf.Ren := ⟨fun | 129 => 314 | n => n, fun | 53 => 155 | 3 => 3 | 4 => 4 | 46 => 119 | 5 => 5 | 9 => 9 | n => n, fun | n => n⟩
theorem lays129 : Lays.n129 Tryz.prog lays129_ren where
  mixed := by kernel_rfl
  f129 := Tryz.func314.trans (congrArg some (by kernel_rfl))
  t3 := Tryz.underlying3
  a3 := Tryz.isAgg3
  z3 := Tryz.sizeOf3
  v3 := Tryz.zeroValue3
  t4 := Tryz.underlying4
  a4 := Tryz.isAgg4
  z4 := Tryz.sizeOf4
  v4 := Tryz.zeroValue4
  t5 := Tryz.underlying5
  a5 := Tryz.isAgg5
  z5 := Tryz.sizeOf5
  v5 := Tryz.zeroValue5
  t9 := Tryz.underlying9
  a9 := Tryz.isAgg9
  z9 := Tryz.sizeOf9
  v9 := Tryz.zeroValue9
  t46 := Tryz.underlying119
  a46 := Tryz.isAgg119
  z46 := Tryz.sizeOf119
  v46 := Tryz.zeroValue119
  t53 := Tryz.underlying155
  a53 := Tryz.isAgg155
  z53 := Tryz.sizeOf155
  v53 := Tryz.zeroValue155

def laysM284_ren : Go.Shelf.Ren := ⟨fun | 284 => 317 | 129 => 314 | 317 => 318 | 318 => 349 | n => n, fun | 53 => 155 | 3 => 3 | 212 => 409 | 0 => 0 | 4 => 4 | 46 => 119 | 5 => 5 | 9 => 9 | n => n, fun | 17 => 5 | n => n⟩
theorem laysM284 : LaysM.n284 Tryz.prog laysM284_ren where
  mixed := by kernel_rfl
  f129 := Tryz.func314.trans (congrArg some (by kernel_rfl))
  f284 := Tryz.func317.trans (congrArg some (by kernel_rfl))
  f317 := Tryz.func318.trans (congrArg some (by kernel_rfl))
  f318 := Tryz.func349.trans (congrArg some (by kernel_rfl))
  t0 := Tryz.underlying0
  a0 := Tryz.isAgg0
  z0 := Tryz.sizeOf0
  v0 := Tryz.zeroValue0
  t3 := Tryz.underlying3
  a3 := Tryz.isAgg3
  z3 := Tryz.sizeOf3
  v3 := Tryz.zeroValue3
  t4 := Tryz.underlying4
  a4 := Tryz.isAgg4
  z4 := Tryz.sizeOf4
  v4 := Tryz.zeroValue4
  t5 := Tryz.underlying5
  a5 := Tryz.isAgg5
  z5 := Tryz.sizeOf5
  v5 := Tryz.zeroValue5
  t9 := Tryz.underlying9
  a9 := Tryz.isAgg9
  z9 := Tryz.sizeOf9
  v9 := Tryz.zeroValue9
  t46 := Tryz.underlying119
  a46 := Tryz.isAgg119
  z46 := Tryz.sizeOf119
  v46 := Tryz.zeroValue119
  t53 := Tryz.underlying155
  a53 := Tryz.isAgg155
  z53 := Tryz.sizeOf155
  v53 := Tryz.zeroValue155
  t212 := Tryz.underlying409
  a212 := Tryz.isAgg409
  z212 := Tryz.sizeOf409
  v212 := Tryz.zeroValue409
  g17 := by kernel_rfl
  i0 := by kernel_rfl
  i3 := by kernel_rfl
  i4 := by kernel_rfl
  i5 := by kernel_rfl
  i9 := by kernel_rfl
  i46 := by kernel_rfl
  i53 := by kernel_rfl
  i212 := by kernel_rfl
  m17 := by kernel_rfl

def lays285_ren : Go.Shelf.Ren := ⟨fun | 285 => 348 | n => n, fun | 37 => 32 | 53 => 155 | 3 => 3 | 4 => 4 | 51 => 204 | 9 => 9 | 5 => 5 | 0 => 0 | n => n, fun | n => n⟩
theorem lays285 : Lays.n285 Tryz.prog lays285_ren where
  mixed := by kernel_rfl
  f285 := Tryz.func348.trans (congrArg some (by kernel_rfl))
  t0 := Tryz.underlying0
  a0 := Tryz.isAgg0
  z0 := Tryz.sizeOf0
  v0 := Tryz.zeroValue0
  t3 := Tryz.underlying3
  a3 := Tryz.isAgg3
  z3 := Tryz.sizeOf3
  v3 := Tryz.zeroValue3
  t4 := Tryz.underlying4
  a4 := Tryz.isAgg4
  z4 := Tryz.sizeOf4
  v4 := Tryz.zeroValue4
  t5 := Tryz.underlying5
  a5 := Tryz.isAgg5
  z5 := Tryz.sizeOf5
  v5 := Tryz.zeroValue5
  t9 := Tryz.underlying9
  a9 := Tryz.isAgg9
  z9 := Tryz.sizeOf9
  v9 := Tryz.zeroValue9
  t37 := Tryz.underlying32
  a37 := Tryz.isAgg32
  z37 := Tryz.sizeOf32
  v37 := Tryz.zeroValue32
  t51 := Tryz.underlying204
  a51 := Tryz.isAgg204
  z51 := Tryz.sizeOf204
  v51 := Tryz.zeroValue204
  t53 := Tryz.underlying155
  a53 := Tryz.isAgg155
  z53 := Tryz.sizeOf155
  v53 := Tryz.zeroValue155

def lays264_ren : Go.Shelf.Ren := ⟨fun | 264 => 369 | n => n, fun | 53 => 155 | 46 => 119 | n => n, fun | n => n⟩
theorem lays264 : Lays.n264 Tryz.prog lays264_ren where
  mixed := by kernel_rfl
  f264 := Tryz.func369.trans (congrArg some (by kernel_rfl))
  t46 := Tryz.underlying119
  a46 := Tryz.isAgg119
  z46 := Tryz.sizeOf119
  v46 := Tryz.zeroValue119
  t53 := Tryz.underlying155
  a53 := Tryz.isAgg155
  z53 := Tryz.sizeOf155
  v53 := Tryz.zeroValue155

theorem c314 (x : Nat) (w : World) (h : x < 18446744073709551616) : Calls Tryz.prog 314 #[.int .u64 x] w fun e w' => e = .returned (.int .i64 (Lib.bitLen x)) ∧ w' = w :=
  Any.bits_Len64 lays129 x w (by omega) (by omega)
theorem c317 (u : Nat) (h1 : 1 ≤ u) (h2 : u < 18446744073709551616) (w : World) (htab : Lib.TabIs Tryz.prog w "internal/strconv.uint64pow10" .u64 Lib.pow10Tab) :
    Calls Tryz.prog 317 #[.int .u64 u] w fun e w' => e = .returned (.int .i64 (Lib.nDigits u)) ∧ w' = w := Any.internal_strconv_numDigits laysM284 u h1 h2 w htab
theorem c348 (blk off cap : Nat) (u : Nat) (d : Array UInt8) (w : World) (hH : Sort.Holds (fun (b : UInt8) => Value.int .u8 (b.toNat : Int)) w blk off d) (hu : u < 10 ^ d.size) (hu64 : u < 18446744073709551616) (hsz : d.size < 4611686018427387904) :
    Calls Tryz.prog 348 #[.slice (some ⟨blk, off, none⟩) d.size cap, .int .u64 u] w fun e w' =>
      e = .returned (.tuple #[]) ∧ ∃ (n v' : Nat) (dk : Array UInt8), w' = (Sort.putRow (fun (b : UInt8) => Value.int .u8 (b.toNat : Int)) w blk off dk).drewN n ∧ Lib.FmtInv d.size u 0 v' dk := Any.internal_strconv_formatBase10 lays285 blk off cap u d w hH hu hu64 hsz
theorem c369 (x y : Nat) (hx : x < 18446744073709551616) (hy : y < 18446744073709551616) (w : World) : Calls Tryz.prog 369 #[.int .u64 x, .int .u64 y] w fun e w' =>
    e = .returned (.tuple #[.int .u64 ((x * y / 18446744073709551616 : Nat) : Int), .int .u64 ((x * y % 18446744073709551616 : Nat) : Int)]) ∧ w' = w := Any.bits_Mul64 lays264 x y hx hy w

end Go.Proofs.YtahnhhkbdgaidaaGreatDoor
namespace Go.Proofs.YtahnhhkbdgaidaaGreatDoor
open Go.RowKit
set_option maxRecDepth 100000
theorem c318 (x : Int) (w : World) (h0 : -100000 ≤ x) (h1 : x ≤ 100000) : Calls Tryz.prog 318 #[.int .i64 x] w fun e w' => e = .returned (.int .i64 (x * 78913 / 262144)) ∧ w = w' := by
  go_enter Tryz.func318, Tryz.ntmps318
  go_wp2_with fail
  go_ret
  exact ⟨rfl, rfl⟩
theorem c340 (x : Int) (w : World) (h0 : -100000 ≤ x) (h1 : x ≤ 100000) : Calls Tryz.prog 340 #[.int .i64 x] w fun e w' => e = .returned (.int .i64 ((x * 631305 - 261663) / 2097152)) ∧ w = w' := by
  go_enter Tryz.func340, Tryz.ntmps340
  go_wp2_with fail
  go_ret
  exact ⟨rfl, rfl⟩
theorem c342 (x : Int) (w : World) (h0 : -100000 ≤ x) (h1 : x ≤ 100000) : Calls Tryz.prog 342 #[.int .i64 x] w fun e w' => e = .returned (.int .i64 (x * 108853 / 32768)) ∧ w = w' := by
  go_enter Tryz.func342, Tryz.ntmps342
  go_wp2_with fail
  go_ret
  exact ⟨rfl, rfl⟩
theorem c344 (x y : Int) (w : World) : Calls Tryz.prog 344 #[.int .u64 x, .int .i64 y] w fun e w' => e = .returned (.int .u64 (IntKind.u64.wrap (x + IntKind.u64.wrap y))) ∧ w = w' := by
  go_enter Tryz.func344, Tryz.ntmps344
  go_wp2_with fail
  go_ret
  exact ⟨rfl, rfl⟩
theorem c345 (x : Int) (w : World) : Calls Tryz.prog 345 #[.int .u64 x] w fun e w' => e = .returned (.int .u64 (IntKind.u64.wrap (x + 3) / 4)) ∧ w = w' := by
  go_enter Tryz.func345, Tryz.ntmps345
  go_wp2_with fail
  go_ret
  exact ⟨rfl, rfl⟩
theorem c346 (x : Int) (w : World) : Calls Tryz.prog 346 #[.int .u64 x] w fun e w' => e = .returned (.int .u64 (IntKind.u64.wrap x / 4)) ∧ w = w' := by
  go_enter Tryz.func346, Tryz.ntmps346
  go_wp2_with fail
  go_ret
  exact ⟨rfl, rfl⟩
theorem c347 (x : Int) (w : World) : Calls Tryz.prog 347 #[.int .u64 x] w fun e w' => e = .returned (.int .u64 (IntKind.u64.wrap (IntKind.u64.wrap (x + 1) + bits BinOp.and IntKind.u64 (x / 4) 1) / 4)) ∧ w = w' := by
  go_enter Tryz.func347, Tryz.ntmps347
  go_wp2_with fail
  go_ret
  exact ⟨rfl, rfl⟩
def b2 (b : Bool) : Int := if b then 1 else 0
theorem c370 (b : Bool) (w : World) : Calls Tryz.prog 370 #[.bool b] w fun e w' => e = .returned (.int .u64 (b2 b)) ∧ w = w' := by
  cases b
  all_goals
    go_enter Tryz.func370, Tryz.ntmps370
    go_wp2_with fail
    go_ret
    exact ⟨rfl, rfl⟩
theorem c369' (x y : Int) (x0 : 0 ≤ x) (x1 : x < 18446744073709551616) (y0 : 0 ≤ y) (y1 : y < 18446744073709551616) (w : World) : Calls Tryz.prog 369 #[.int .u64 x, .int .u64 y] w fun e w' =>
    e = .returned (.tuple #[.int .u64 (x * y / 18446744073709551616), .int .u64 (x * y % 18446744073709551616)]) ∧ w' = w := by
  obtain ⟨a, rfl⟩ := Int.eq_ofNat_of_zero_le x0
  obtain ⟨b, rfl⟩ := Int.eq_ofNat_of_zero_le y0
  have := c369 a b (by omega) (by omega) w
  rw [Int.natCast_ediv, Int.natCast_emod, Int.natCast_mul] at this
  exact this
theorem and_i64_63 (x : Int) : bits .and .i64 x 63 = x % 64 := by
  show IntKind.i64.wrap ((BitVec.ofInt 64 x &&& BitVec.ofInt 64 63).toNat : Int) = _
  have h2 : (BitVec.ofInt 64 63).toNat = 2 ^ 6 - 1 := rfl
  rw [BitVec.toNat_and, h2, Nat.and_two_pow_sub_one_eq_mod, BitVec.toNat_ofInt]
  simp [IntKind.wrap, IntKind.bits, IntKind.signed]
  omega
/-- The number times the table's power, rounded; the last bits tell what was cut off. -/
def uscB (hi mid mid2 : Int) (q : Int) : Int :=
  if (IntKind.u64.wrap (hi / 2 ^ q.toNat * 2 ^ q.toNat) != hi) = true then bits .or .u64 (hi / 2 ^ q.toNat) 1
  else bits .or .u64 (IntKind.u64.wrap (hi - b2 (decide (mid < mid2))) / 2 ^ q.toNat) (b2 (decide (1 < IntKind.u64.wrap (mid - mid2))))
def usc (x h l s : Int) : Int := uscB (x * h / 18446744073709551616) (x * h % 18446744073709551616) (x * l / 18446744073709551616) (s % 64)
theorem c343 (x h l s : Int) (b : Nat) (w : World) (x0 : 0 ≤ x) (x1 : x < 18446744073709551616) (h0 : 0 ≤ h) (h1 : h < 18446744073709551616) (l0 : 0 ≤ l) (l1 : l < 18446744073709551616)
    (q0 : w.cell? ⟨b, 0, none⟩ = some (.int .u64 h)) (q1 : w.cell? ⟨b, 1, none⟩ = some (.int .u64 l)) (q2 : w.cell? ⟨b, 2, none⟩ = some (.int .i64 s)) :
    Calls Tryz.prog 343 #[.int .u64 x, .pointer (some ⟨b, 0, none⟩)] w fun e w' => e = .returned (.int .u64 (usc x h l s)) ∧ Below w.heap.size w w' := by
  have s0 : 0 ≤ s % 64 := by omega
  have s1 : s % 64 ≤ 64 := by omega
  have ha := and_i64_63 s
  unfold usc
  generalize s % 64 = q at *
  have H1 := Lib.hid fun w => c369' x h x0 x1 h0 h1 w
  have H2 := Lib.hid fun w => c369' x l x0 x1 l0 l1 w
  generalize x * h / 18446744073709551616 = hi at *
  generalize x * h % 18446744073709551616 = mid at *
  generalize x * l / 18446744073709551616 = hi2 at *
  generalize x * l % 18446744073709551616 = mid2 at *
  generalize hR : uscB hi mid hi2 q = R at *
  unfold uscB at hR
  by_cases hc : (IntKind.u64.wrap (hi / 2 ^ q.toNat * 2 ^ q.toNat) != hi) = true
  · rw [if_pos hc] at hR
    have hR := Lib.hid hR
    clear q1 h0 h1 l0 l1 x0 x1 H2
    go_enter Tryz.func343, Tryz.ntmps343
    go_wp2_with fail
    refine (H1.out _).mono ?_
    rintro e w' ⟨rfl, rfl⟩
    clear H1
    go_wp2_with fail
    go_ret
    exact ⟨by rw [← hR.out]; rfl, Below.refl _ _⟩
  · rw [if_neg hc] at hR
    have hR := Lib.hid hR
    have hc' : (IntKind.u64.wrap (hi / 2 ^ q.toNat * 2 ^ q.toNat) != hi) = false := by simpa using hc
    clear hc h0 h1 l0 l1 x0 x1
    go_enter Tryz.func343, Tryz.ntmps343
    go_wp2_with fail
    refine (H1.out _).mono ?_
    rintro e w' ⟨rfl, rfl⟩
    clear H1
    go_wp2_with fail
    refine (H2.out _).mono ?_
    rintro e w' ⟨rfl, rfl⟩
    clear H2
    go_wp2_with fail
    refine (c370 _ _).mono ?_
    rintro e w' ⟨rfl, rfl⟩
    go_wp2_with fail
    go_quiet ((go_at_call 370; exact Calls.quiet_of_same ((c370 _ _).mono fun _ _ h => ⟨h.1, h.2.symm⟩)))
    go_wp2_with fail
    go_ret
    exact ⟨by rw [← hR.out]; rfl, bl_drewN (Below.refl _ _) _⟩
end Go.Proofs.YtahnhhkbdgaidaaGreatDoor
