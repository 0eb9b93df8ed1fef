/-
  Numbers in decimal: products of a number by a table's power, rounding.
-/
import Derived.Test.YtahnhhkbdgaidaaGreatDoorBy
import Derived.WalkArith
namespace Go.Proofs.YtahnhhkbdgaidaaGreatDoor
open Go.RowKit
set_option maxRecDepth 100000
theorem c318 (x : Int) (w : World) (h0 : -100000 ≤ x) (h1 : x ≤ 100000) : Calls Tryz.prog 318 #[.int .i64 x] w fun e w' => e = .returned (.int .i64 (x * 78913 / 262144)) ∧ w = w' := by
  go_enter Tryz.func318, Tryz.ntmps318
  go_wp2_with fail
  go_ret
  exact ⟨rfl, rfl⟩
theorem c340 (x : Int) (w : World) (h0 : -100000 ≤ x) (h1 : x ≤ 100000) : Calls Tryz.prog 340 #[.int .i64 x] w fun e w' => e = .returned (.int .i64 ((x * 631305 - 261663) / 2097152)) ∧ w = w' := by
  go_enter Tryz.func340, Tryz.ntmps340
  go_wp2_with fail
  go_ret
  exact ⟨rfl, rfl⟩
theorem c342 (x : Int) (w : World) (h0 : -100000 ≤ x) (h1 : x ≤ 100000) : Calls Tryz.prog 342 #[.int .i64 x] w fun e w' => e = .returned (.int .i64 (x * 108853 / 32768)) ∧ w = w' := by
  go_enter Tryz.func342, Tryz.ntmps342
  go_wp2_with fail
  go_ret
  exact ⟨rfl, rfl⟩
theorem c344 (x y : Int) (w : World) : Calls Tryz.prog 344 #[.int .u64 x, .int .i64 y] w fun e w' => e = .returned (.int .u64 (IntKind.u64.wrap (x + IntKind.u64.wrap y))) ∧ w = w' := by
  go_enter Tryz.func344, Tryz.ntmps344
  go_wp2_with fail
  go_ret
  exact ⟨rfl, rfl⟩
theorem c345 (x : Int) (w : World) : Calls Tryz.prog 345 #[.int .u64 x] w fun e w' => e = .returned (.int .u64 (IntKind.u64.wrap (x + 3) / 4)) ∧ w = w' := by
  go_enter Tryz.func345, Tryz.ntmps345
  go_wp2_with fail
  go_ret
  exact ⟨rfl, rfl⟩
theorem c346 (x : Int) (w : World) : Calls Tryz.prog 346 #[.int .u64 x] w fun e w' => e = .returned (.int .u64 (IntKind.u64.wrap x / 4)) ∧ w = w' := by
  go_enter Tryz.func346, Tryz.ntmps346
  go_wp2_with fail
  go_ret
  exact ⟨rfl, rfl⟩
theorem c347 (x : Int) (w : World) : Calls Tryz.prog 347 #[.int .u64 x] w fun e w' => e = .returned (.int .u64 (IntKind.u64.wrap (IntKind.u64.wrap (x + 1) + bits BinOp.and IntKind.u64 (x / 4) 1) / 4)) ∧ w = w' := by
  go_enter Tryz.func347, Tryz.ntmps347
  go_wp2_with fail
  go_ret
  exact ⟨rfl, rfl⟩
def b2 (b : Bool) : Int := if b then 1 else 0
theorem c370 (b : Bool) (w : World) : Calls Tryz.prog 370 #[.bool b] w fun e w' => e = .returned (.int .u64 (b2 b)) ∧ w = w' := by
  cases b
  all_goals
    go_enter Tryz.func370, Tryz.ntmps370
    go_wp2_with fail
    go_ret
    exact ⟨rfl, rfl⟩
theorem c369' (x y : Int) (x0 : 0 ≤ x) (x1 : x < 18446744073709551616) (y0 : 0 ≤ y) (y1 : y < 18446744073709551616) (w : World) : Calls Tryz.prog 369 #[.int .u64 x, .int .u64 y] w fun e w' =>
    e = .returned (.tuple #[.int .u64 (x * y / 18446744073709551616), .int .u64 (x * y % 18446744073709551616)]) ∧ w' = w := by
  obtain ⟨a, rfl⟩ := Int.eq_ofNat_of_zero_le x0
  obtain ⟨b, rfl⟩ := Int.eq_ofNat_of_zero_le y0
  have := c369 a b (by omega) (by omega) w
  rw [Int.natCast_ediv, Int.natCast_emod, Int.natCast_mul] at this
  exact this
theorem and_i64_63 (x : Int) : bits .and .i64 x 63 = x % 64 := by
  show IntKind.i64.wrap ((BitVec.ofInt 64 x &&& BitVec.ofInt 64 63).toNat : Int) = _
  have h2 : (BitVec.ofInt 64 63).toNat = 2 ^ 6 - 1 := rfl
  rw [BitVec.toNat_and, h2, Nat.and_two_pow_sub_one_eq_mod, BitVec.toNat_ofInt]
  simp [IntKind.wrap, IntKind.bits, IntKind.signed]
  omega
/-- The number times the table's power, rounded; the last bits tell what was cut off. -/
def uscB (hi mid mid2 : Int) (q : Int) : Int :=
  if (IntKind.u64.wrap (hi / 2 ^ q.toNat * 2 ^ q.toNat) != hi) = true then bits .or .u64 (hi / 2 ^ q.toNat) 1
  else bits .or .u64 (IntKind.u64.wrap (hi - b2 (decide (mid < mid2))) / 2 ^ q.toNat) (b2 (decide (1 < IntKind.u64.wrap (mid - mid2))))
def usc (x h l s : Int) : Int := uscB (x * h / 18446744073709551616) (x * h % 18446744073709551616) (x * l / 18446744073709551616) (s % 64)
theorem c343 (x h l s : Int) (b : Nat) (w : World) (x0 : 0 ≤ x) (x1 : x < 18446744073709551616) (h0 : 0 ≤ h) (h1 : h < 18446744073709551616) (l0 : 0 ≤ l) (l1 : l < 18446744073709551616)
    (q0 : w.cell? ⟨b, 0, none⟩ = some (.int .u64 h)) (q1 : w.cell? ⟨b, 1, none⟩ = some (.int .u64 l)) (q2 : w.cell? ⟨b, 2, none⟩ = some (.int .i64 s)) :
    Calls Tryz.prog 343 #[.int .u64 x, .pointer (some ⟨b, 0, none⟩)] w fun e w' => e = .returned (.int .u64 (usc x h l s)) ∧ Below w.heap.size w w' := by
  have s0 : 0 ≤ s % 64 := by omega
  have s1 : s % 64 ≤ 64 := by omega
  have ha := and_i64_63 s
  unfold usc
  generalize s % 64 = q at *
  have H1 := Lib.hid fun w => c369' x h x0 x1 h0 h1 w
  have H2 := Lib.hid fun w => c369' x l x0 x1 l0 l1 w
  generalize x * h / 18446744073709551616 = hi at *
  generalize x * h % 18446744073709551616 = mid at *
  generalize x * l / 18446744073709551616 = hi2 at *
  generalize x * l % 18446744073709551616 = mid2 at *
  generalize hR : uscB hi mid hi2 q = R at *
  unfold uscB at hR
  by_cases hc : (IntKind.u64.wrap (hi / 2 ^ q.toNat * 2 ^ q.toNat) != hi) = true
  · rw [if_pos hc] at hR
    have hR := Lib.hid hR
    clear q1 h0 h1 l0 l1 x0 x1 H2
    go_enter Tryz.func343, Tryz.ntmps343
    go_wp2_with fail
    refine (H1.out _).mono ?_
    rintro e w' ⟨rfl, rfl⟩
    clear H1
    go_wp2_with fail
    go_ret
    exact ⟨by rw [← hR.out]; rfl, Below.refl _ _⟩
  · rw [if_neg hc] at hR
    have hR := Lib.hid hR
    have hc' : (IntKind.u64.wrap (hi / 2 ^ q.toNat * 2 ^ q.toNat) != hi) = false := by simpa using hc
    clear hc h0 h1 l0 l1 x0 x1
    go_enter Tryz.func343, Tryz.ntmps343
    go_wp2_with fail
    refine (H1.out _).mono ?_
    rintro e w' ⟨rfl, rfl⟩
    clear H1
    go_wp2_with fail
    refine (H2.out _).mono ?_
    rintro e w' ⟨rfl, rfl⟩
    clear H2
    go_wp2_with fail
    refine (c370 _ _).mono ?_
    rintro e w' ⟨rfl, rfl⟩
    go_wp2_with fail
    go_quiet ((go_at_call 370; exact Calls.quiet_of_same ((c370 _ _).mono fun _ _ h => ⟨h.1, h.2.symm⟩)))
    go_wp2_with fail
    go_ret
    exact ⟨by rw [← hR.out]; rfl, bl_drewN (Below.refl _ _) _⟩
end Go.Proofs.YtahnhhkbdgaidaaGreatDoor
