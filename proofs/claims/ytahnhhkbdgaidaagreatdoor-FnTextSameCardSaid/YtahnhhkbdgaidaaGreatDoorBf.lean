/-
  The places of a sequence, one by one.
-/
import Derived.Test.YtahnhhkbdgaidaaGreatDoorBe
import Derived.Deep.RegionHeld3
namespace Go.Proofs.YtahnhhkbdgaidaaGreatDoor
open Go.RowKit

theorem q135 (t : Int) (w : World) (n : Nat) (h0 : 0 ≤ t) (h1 : t ≤ 3) : Calls Tryz.prog 135 #[.int .u8 t] (w.drewN n) fun e w' => e = .returned (.int .i64 (dN t)) ∧ w' = w.drewN n :=
  (c135 t _ h0 h1).mono fun e w' h => ⟨by rw [h.1, dN_eq], h.2.symm⟩
theorem c84 (t : Int) (a : Option Addr) (n c : Nat) (w : World) (h0 : 0 ≤ t) (h1 : t ≤ 3) (hn : n ≤ 17592186044416) :
    Calls Tryz.prog 84 #[.agg #[.int .u8 t, .slice a n c]] w fun e w' => e = .returned (.int .i64 ((n / dN t : Nat) : Int)) ∧ Below w.heap.size w w' := by
  have hb := dN_bd t
  have hdd : ((n : Int) / (dN t : Int)) = ((n / dN t : Nat) : Int) := (Int.natCast_ediv _ _).symm
  have hw : IntKind.i64.wrap ((n : Int) / (dN t : Int)) = ((n / dN t : Nat) : Int) := by
    have := Nat.div_le_self n (dN t); rw [hdd]; generalize n / dN t = m at *; exact IntWalk.i64_in _ (by omega)
  clear hdd
  have H := Lib.hid (fun w n => q135 t w n h0 h1)
  generalize dN t = q at *
  go_enter Tryz.func84, Tryz.ntmps84
  go_wp2_with fail
  go_quiet ((go_at_call 135; exact Calls.quiet_of_same (H.out _ _)))
  go_wp2_with fail
  go_ret
  exact ⟨rfl, bl_drewN ((Below.refl _ _).alloc (Nat.le_refl _) _) _⟩

theorem st_float (k : FloatKind) (n : Nat) (a : Addr) (w : World) : (store a (.float k n)).run Tryz.prog w = stored Tryz.prog w a (.float k n) .plain := run_store Tryz.prog w a _ .plain rfl
set_option maxRecDepth 100000 in
set_option maxHeartbeats 1000000 in
theorem c87_0 (b off n c i p : Nat) (x y : Nat) (w : World) (hn : n ≤ 17592186044416) (hb : b < w.heap.size) (hp : i * dN 0 = p)
    (hi : p + dN 0 ≤ n) (hx : w.cell? ⟨b, off + p, none⟩ = some (.float .f64 x)) (hy : w.cell? ⟨b, off + (p + 1), none⟩ = some (.float .f64 y)) :
    Calls Tryz.prog 87 #[.agg #[.int .u8 0, .slice (some ⟨b, off, none⟩) n c], .int .i64 i] w fun e w' => e = .returned (.agg #[.float .f64 x, .float .f64 y, .float .f64 0, .float .f64 0, .int .u8 0]) ∧ Below w.heap.size w w' := by
  have hqe : dimN 0 = 2 := by decide
  have hqn : dN 0 = 2 := by decide
  rw [hqn] at hp hi
  have hm : IntKind.i64.wrap ((i : Int) * 2) = (p : Int) := by rw [← hp]; exact (IntWalk.i64_in _ (by omega)).trans (by omega)
  have hm' : (i : Int) * 2 = (p : Int) := by omega
  have hm1 : IntKind.i64.wrap ((p : Int) + 1) = (p : Int) + 1 := IntWalk.i64_in _ (by omega)
  have e0 : (0 : Int) ≤ (p : Int) := by omega
  have e1 : (p : Int) < (n : Int) := by omega
  have e2 : (0 : Int) ≤ (p : Int) + 1 := by omega
  have e3 : (p : Int) + 1 < (n : Int) := by omega
  have e4 : ((p : Int) + 1).toNat = p + 1 := by omega
  clear hp
  have hsf := st_float
  have Hm' := Lib.hid hm'; clear hm'
  go_enter Tryz.func87, Tryz.ntmps87
  go_wp2_with (go_at_call 135; refine (c135 _ _ (by omega) (by omega)).mono ?_; rintro e w' ⟨rfl, rfl⟩; rw [hqe])
  have f0 : ((w.alloc (.cells #[.int .u8 0, .slice (some ⟨b, off, none⟩) n c] 67)).alloc (.cells #[.float .f64 0, .float .f64 0, .float .f64 0, .float .f64 0, .int .u8 0] 61)).heap[w.heap.size]? = some (.cells #[.int .u8 0, .slice (some ⟨b, off, none⟩) n c] 67 (0, 0)) := by
    rw [heap_alloc_old _ _ (by simp), heap_alloc_new]
  have f1 : ((w.alloc (.cells #[.int .u8 0, .slice (some ⟨b, off, none⟩) n c] 67)).alloc (.cells #[.float .f64 0, .float .f64 0, .float .f64 0, .float .f64 0, .int .u8 0] 61)).heap[w.heap.size + 1]? = some (.cells #[.float .f64 0, .float .f64 0, .float .f64 0, .float .f64 0, .int .u8 0] 61 (0, 0)) := by
    have := heap_alloc_new (w.alloc (.cells #[.int .u8 0, .slice (some ⟨b, off, none⟩) n c] 67)) (.cells #[.float .f64 0, .float .f64 0, .float .f64 0, .float .f64 0, .int .u8 0] 61)
    simpa using this
  have fB : Below w.heap.size w ((w.alloc (.cells #[.int .u8 0, .slice (some ⟨b, off, none⟩) n c] 67)).alloc (.cells #[.float .f64 0, .float .f64 0, .float .f64 0, .float .f64 0, .int .u8 0] 61)) := ((Below.refl _ _).alloc (Nat.le_refl _) _).alloc (by simp) _
  generalize ((w.alloc (.cells #[.int .u8 0, .slice (some ⟨b, off, none⟩) n c] 67)).alloc (.cells #[.float .f64 0, .float .f64 0, .float .f64 0, .float .f64 0, .int .u8 0] 61)) = w1 at *
  have g0 : w1.cell? ⟨w.heap.size, 0, none⟩ = some (.int .u8 0) := (cells_of f0).1 0
  have g1 : w1.cell? ⟨w.heap.size, 1, none⟩ = some (.slice (some ⟨b, off, none⟩) n c) := (cells_of f0).1 1
  have g2 := (fB.cell hb).trans hx
  have g3 := (fB.cell hb).trans hy
  have l0 : w.heap.size < w1.heap.size := (Array.getElem?_eq_some_iff.1 f0).1
  have l1 : b < w1.heap.size := by omega
  have l2 : w.heap.size + 1 < w1.heap.size := (Array.getElem?_eq_some_iff.1 f1).1
  have F1 := Lib.hid f1
  have FB := Lib.hid fB
  clear hx hy f0 f1 fB
  go_region_held3 (fun w' => w'.cell? ⟨w.heap.size, 0, none⟩ = some (.int .u8 0) ∧ w'.cell? ⟨w.heap.size, 1, none⟩ = some (.slice (some ⟨b, off, none⟩) n c) ∧ w'.cell? ⟨b, off + p, none⟩ = some (.float .f64 x) ∧ w'.cell? ⟨b, off + (p + 1), none⟩ = some (.float .f64 y)) (first | (go_keep; done) | (go_simp; done)) (first | fail)
  obtain ⟨kc, kf⟩ := cells_of F1.out
  have hmw := Hm'.out
  go_wp2_with fail
  refine bodyPost_ret (v := .agg #[.float .f64 x, .float .f64 y, .float .f64 0, .float .f64 0, .int .u8 0]) ?_ rfl ⟨rfl, ?_⟩
  · simp [results, Tryz.results87, go_sem, *]
  · repeat (with_reducible first | refine Below.setCell ?_ (by simp) _ | refine Below.drew ?_ | refine Below.alloc ?_ (by simp; omega) _ | exact FB.out)
set_option maxRecDepth 100000 in
set_option maxHeartbeats 1000000 in
theorem c87_1 (b off n c i p : Nat) (x y z : Nat) (w : World) (hn : n ≤ 17592186044416) (hb : b < w.heap.size) (hp : i * dN 1 = p)
    (hi : p + dN 1 ≤ n) (hx : w.cell? ⟨b, off + p, none⟩ = some (.float .f64 x)) (hy : w.cell? ⟨b, off + (p + 1), none⟩ = some (.float .f64 y)) (kz : w.cell? ⟨b, off + (p + 2), none⟩ = some (.float .f64 z)) :
    Calls Tryz.prog 87 #[.agg #[.int .u8 1, .slice (some ⟨b, off, none⟩) n c], .int .i64 i] w fun e w' => e = .returned (.agg #[.float .f64 x, .float .f64 y, .float .f64 z, .float .f64 0, .int .u8 1]) ∧ Below w.heap.size w w' := by
  have hqe : dimN 1 = 3 := by decide
  have hqn : dN 1 = 3 := by decide
  rw [hqn] at hp hi
  have hm : IntKind.i64.wrap ((i : Int) * 3) = (p : Int) := by rw [← hp]; exact (IntWalk.i64_in _ (by omega)).trans (by omega)
  have hm' : (i : Int) * 3 = (p : Int) := by omega
  have hm1 : IntKind.i64.wrap ((p : Int) + 1) = (p : Int) + 1 := IntWalk.i64_in _ (by omega)
  have e0 : (0 : Int) ≤ (p : Int) := by omega
  have e1 : (p : Int) < (n : Int) := by omega
  have e2 : (0 : Int) ≤ (p : Int) + 1 := by omega
  have e3 : (p : Int) + 1 < (n : Int) := by omega
  have e4 : ((p : Int) + 1).toNat = p + 1 := by omega
  clear hp
  have hsf := st_float
  have Hm' := Lib.hid hm'; clear hm'
  go_enter Tryz.func87, Tryz.ntmps87
  go_wp2_with (go_at_call 135; refine (c135 _ _ (by omega) (by omega)).mono ?_; rintro e w' ⟨rfl, rfl⟩; rw [hqe])
  have f0 : ((w.alloc (.cells #[.int .u8 1, .slice (some ⟨b, off, none⟩) n c] 67)).alloc (.cells #[.float .f64 0, .float .f64 0, .float .f64 0, .float .f64 0, .int .u8 0] 61)).heap[w.heap.size]? = some (.cells #[.int .u8 1, .slice (some ⟨b, off, none⟩) n c] 67 (0, 0)) := by
    rw [heap_alloc_old _ _ (by simp), heap_alloc_new]
  have f1 : ((w.alloc (.cells #[.int .u8 1, .slice (some ⟨b, off, none⟩) n c] 67)).alloc (.cells #[.float .f64 0, .float .f64 0, .float .f64 0, .float .f64 0, .int .u8 0] 61)).heap[w.heap.size + 1]? = some (.cells #[.float .f64 0, .float .f64 0, .float .f64 0, .float .f64 0, .int .u8 0] 61 (0, 0)) := by
    have := heap_alloc_new (w.alloc (.cells #[.int .u8 1, .slice (some ⟨b, off, none⟩) n c] 67)) (.cells #[.float .f64 0, .float .f64 0, .float .f64 0, .float .f64 0, .int .u8 0] 61)
    simpa using this
  have fB : Below w.heap.size w ((w.alloc (.cells #[.int .u8 1, .slice (some ⟨b, off, none⟩) n c] 67)).alloc (.cells #[.float .f64 0, .float .f64 0, .float .f64 0, .float .f64 0, .int .u8 0] 61)) := ((Below.refl _ _).alloc (Nat.le_refl _) _).alloc (by simp) _
  generalize ((w.alloc (.cells #[.int .u8 1, .slice (some ⟨b, off, none⟩) n c] 67)).alloc (.cells #[.float .f64 0, .float .f64 0, .float .f64 0, .float .f64 0, .int .u8 0] 61)) = w1 at *
  have g0 : w1.cell? ⟨w.heap.size, 0, none⟩ = some (.int .u8 1) := (cells_of f0).1 0
  have g1 : w1.cell? ⟨w.heap.size, 1, none⟩ = some (.slice (some ⟨b, off, none⟩) n c) := (cells_of f0).1 1
  have g2 := (fB.cell hb).trans hx
  have g3 := (fB.cell hb).trans hy
  have gz := (fB.cell hb).trans kz
  have l0 : w.heap.size < w1.heap.size := (Array.getElem?_eq_some_iff.1 f0).1
  have l1 : b < w1.heap.size := by omega
  have l2 : w.heap.size + 1 < w1.heap.size := (Array.getElem?_eq_some_iff.1 f1).1
  have F1 := Lib.hid f1
  have FB := Lib.hid fB
  clear hx hy f0 f1 fB kz
  go_region_held3 (fun w' => w'.cell? ⟨w.heap.size, 0, none⟩ = some (.int .u8 1) ∧ w'.cell? ⟨w.heap.size, 1, none⟩ = some (.slice (some ⟨b, off, none⟩) n c) ∧ w'.cell? ⟨b, off + p, none⟩ = some (.float .f64 x) ∧ w'.cell? ⟨b, off + (p + 1), none⟩ = some (.float .f64 y)) (first | (go_keep; done) | (go_simp; done)) (first | fail)
  obtain ⟨kc, kf⟩ := cells_of F1.out
  have hmw := Hm'.out
  go_wp2_with fail
  refine bodyPost_ret (v := .agg #[.float .f64 x, .float .f64 y, .float .f64 z, .float .f64 0, .int .u8 1]) ?_ rfl ⟨rfl, ?_⟩
  · simp [results, Tryz.results87, go_sem, *]
  · repeat (with_reducible first | refine Below.setCell ?_ (by simp) _ | refine Below.drew ?_ | refine Below.alloc ?_ (by simp; omega) _ | exact FB.out)
set_option maxRecDepth 100000 in
set_option maxHeartbeats 1000000 in
theorem c87_2 (b off n c i p : Nat) (x y z : Nat) (w : World) (hn : n ≤ 17592186044416) (hb : b < w.heap.size) (hp : i * dN 2 = p)
    (hi : p + dN 2 ≤ n) (hx : w.cell? ⟨b, off + p, none⟩ = some (.float .f64 x)) (hy : w.cell? ⟨b, off + (p + 1), none⟩ = some (.float .f64 y)) (kz : w.cell? ⟨b, off + (p + 2), none⟩ = some (.float .f64 z)) :
    Calls Tryz.prog 87 #[.agg #[.int .u8 2, .slice (some ⟨b, off, none⟩) n c], .int .i64 i] w fun e w' => e = .returned (.agg #[.float .f64 x, .float .f64 y, .float .f64 0, .float .f64 z, .int .u8 2]) ∧ Below w.heap.size w w' := by
  have hqe : dimN 2 = 3 := by decide
  have hqn : dN 2 = 3 := by decide
  rw [hqn] at hp hi
  have hm : IntKind.i64.wrap ((i : Int) * 3) = (p : Int) := by rw [← hp]; exact (IntWalk.i64_in _ (by omega)).trans (by omega)
  have hm' : (i : Int) * 3 = (p : Int) := by omega
  have hm1 : IntKind.i64.wrap ((p : Int) + 1) = (p : Int) + 1 := IntWalk.i64_in _ (by omega)
  have e0 : (0 : Int) ≤ (p : Int) := by omega
  have e1 : (p : Int) < (n : Int) := by omega
  have e2 : (0 : Int) ≤ (p : Int) + 1 := by omega
  have e3 : (p : Int) + 1 < (n : Int) := by omega
  have e4 : ((p : Int) + 1).toNat = p + 1 := by omega
  clear hp
  have hsf := st_float
  have Hm' := Lib.hid hm'; clear hm'
  go_enter Tryz.func87, Tryz.ntmps87
  go_wp2_with (go_at_call 135; refine (c135 _ _ (by omega) (by omega)).mono ?_; rintro e w' ⟨rfl, rfl⟩; rw [hqe])
  have f0 : ((w.alloc (.cells #[.int .u8 2, .slice (some ⟨b, off, none⟩) n c] 67)).alloc (.cells #[.float .f64 0, .float .f64 0, .float .f64 0, .float .f64 0, .int .u8 0] 61)).heap[w.heap.size]? = some (.cells #[.int .u8 2, .slice (some ⟨b, off, none⟩) n c] 67 (0, 0)) := by
    rw [heap_alloc_old _ _ (by simp), heap_alloc_new]
  have f1 : ((w.alloc (.cells #[.int .u8 2, .slice (some ⟨b, off, none⟩) n c] 67)).alloc (.cells #[.float .f64 0, .float .f64 0, .float .f64 0, .float .f64 0, .int .u8 0] 61)).heap[w.heap.size + 1]? = some (.cells #[.float .f64 0, .float .f64 0, .float .f64 0, .float .f64 0, .int .u8 0] 61 (0, 0)) := by
    have := heap_alloc_new (w.alloc (.cells #[.int .u8 2, .slice (some ⟨b, off, none⟩) n c] 67)) (.cells #[.float .f64 0, .float .f64 0, .float .f64 0, .float .f64 0, .int .u8 0] 61)
    simpa using this
  have fB : Below w.heap.size w ((w.alloc (.cells #[.int .u8 2, .slice (some ⟨b, off, none⟩) n c] 67)).alloc (.cells #[.float .f64 0, .float .f64 0, .float .f64 0, .float .f64 0, .int .u8 0] 61)) := ((Below.refl _ _).alloc (Nat.le_refl _) _).alloc (by simp) _
  generalize ((w.alloc (.cells #[.int .u8 2, .slice (some ⟨b, off, none⟩) n c] 67)).alloc (.cells #[.float .f64 0, .float .f64 0, .float .f64 0, .float .f64 0, .int .u8 0] 61)) = w1 at *
  have g0 : w1.cell? ⟨w.heap.size, 0, none⟩ = some (.int .u8 2) := (cells_of f0).1 0
  have g1 : w1.cell? ⟨w.heap.size, 1, none⟩ = some (.slice (some ⟨b, off, none⟩) n c) := (cells_of f0).1 1
  have g2 := (fB.cell hb).trans hx
  have g3 := (fB.cell hb).trans hy
  have gz := (fB.cell hb).trans kz
  have l0 : w.heap.size < w1.heap.size := (Array.getElem?_eq_some_iff.1 f0).1
  have l1 : b < w1.heap.size := by omega
  have l2 : w.heap.size + 1 < w1.heap.size := (Array.getElem?_eq_some_iff.1 f1).1
  have F1 := Lib.hid f1
  have FB := Lib.hid fB
  clear hx hy f0 f1 fB kz
  go_region_held3 (fun w' => w'.cell? ⟨w.heap.size, 0, none⟩ = some (.int .u8 2) ∧ w'.cell? ⟨w.heap.size, 1, none⟩ = some (.slice (some ⟨b, off, none⟩) n c) ∧ w'.cell? ⟨b, off + p, none⟩ = some (.float .f64 x) ∧ w'.cell? ⟨b, off + (p + 1), none⟩ = some (.float .f64 y)) (first | (go_keep; done) | (go_simp; done)) (first | fail)
  obtain ⟨kc, kf⟩ := cells_of F1.out
  have hmw := Hm'.out
  go_wp2_with fail
  refine bodyPost_ret (v := .agg #[.float .f64 x, .float .f64 y, .float .f64 0, .float .f64 z, .int .u8 2]) ?_ rfl ⟨rfl, ?_⟩
  · simp [results, Tryz.results87, go_sem, *]
  · repeat (with_reducible first | refine Below.setCell ?_ (by simp) _ | refine Below.drew ?_ | refine Below.alloc ?_ (by simp; omega) _ | exact FB.out)
set_option maxRecDepth 100000 in
set_option maxHeartbeats 1000000 in
theorem c87_3 (b off n c i p : Nat) (x y z u : Nat) (w : World) (hn : n ≤ 17592186044416) (hb : b < w.heap.size) (hp : i * dN 3 = p)
    (hi : p + dN 3 ≤ n) (hx : w.cell? ⟨b, off + p, none⟩ = some (.float .f64 x)) (hy : w.cell? ⟨b, off + (p + 1), none⟩ = some (.float .f64 y)) (kz : w.cell? ⟨b, off + (p + 2), none⟩ = some (.float .f64 z)) (ku : w.cell? ⟨b, off + (p + 3), none⟩ = some (.float .f64 u)) :
    Calls Tryz.prog 87 #[.agg #[.int .u8 3, .slice (some ⟨b, off, none⟩) n c], .int .i64 i] w fun e w' => e = .returned (.agg #[.float .f64 x, .float .f64 y, .float .f64 z, .float .f64 u, .int .u8 3]) ∧ Below w.heap.size w w' := by
  have hqe : dimN 3 = 4 := by decide
  have hqn : dN 3 = 4 := by decide
  rw [hqn] at hp hi
  have hm : IntKind.i64.wrap ((i : Int) * 4) = (p : Int) := by rw [← hp]; exact (IntWalk.i64_in _ (by omega)).trans (by omega)
  have hm' : (i : Int) * 4 = (p : Int) := by omega
  have hm1 : IntKind.i64.wrap ((p : Int) + 1) = (p : Int) + 1 := IntWalk.i64_in _ (by omega)
  have e0 : (0 : Int) ≤ (p : Int) := by omega
  have e1 : (p : Int) < (n : Int) := by omega
  have e2 : (0 : Int) ≤ (p : Int) + 1 := by omega
  have e3 : (p : Int) + 1 < (n : Int) := by omega
  have e4 : ((p : Int) + 1).toNat = p + 1 := by omega
  clear hp
  have hsf := st_float
  have Hm' := Lib.hid hm'; clear hm'
  go_enter Tryz.func87, Tryz.ntmps87
  go_wp2_with (go_at_call 135; refine (c135 _ _ (by omega) (by omega)).mono ?_; rintro e w' ⟨rfl, rfl⟩; rw [hqe])
  have f0 : ((w.alloc (.cells #[.int .u8 3, .slice (some ⟨b, off, none⟩) n c] 67)).alloc (.cells #[.float .f64 0, .float .f64 0, .float .f64 0, .float .f64 0, .int .u8 0] 61)).heap[w.heap.size]? = some (.cells #[.int .u8 3, .slice (some ⟨b, off, none⟩) n c] 67 (0, 0)) := by
    rw [heap_alloc_old _ _ (by simp), heap_alloc_new]
  have f1 : ((w.alloc (.cells #[.int .u8 3, .slice (some ⟨b, off, none⟩) n c] 67)).alloc (.cells #[.float .f64 0, .float .f64 0, .float .f64 0, .float .f64 0, .int .u8 0] 61)).heap[w.heap.size + 1]? = some (.cells #[.float .f64 0, .float .f64 0, .float .f64 0, .float .f64 0, .int .u8 0] 61 (0, 0)) := by
    have := heap_alloc_new (w.alloc (.cells #[.int .u8 3, .slice (some ⟨b, off, none⟩) n c] 67)) (.cells #[.float .f64 0, .float .f64 0, .float .f64 0, .float .f64 0, .int .u8 0] 61)
    simpa using this
  have fB : Below w.heap.size w ((w.alloc (.cells #[.int .u8 3, .slice (some ⟨b, off, none⟩) n c] 67)).alloc (.cells #[.float .f64 0, .float .f64 0, .float .f64 0, .float .f64 0, .int .u8 0] 61)) := ((Below.refl _ _).alloc (Nat.le_refl _) _).alloc (by simp) _
  generalize ((w.alloc (.cells #[.int .u8 3, .slice (some ⟨b, off, none⟩) n c] 67)).alloc (.cells #[.float .f64 0, .float .f64 0, .float .f64 0, .float .f64 0, .int .u8 0] 61)) = w1 at *
  have g0 : w1.cell? ⟨w.heap.size, 0, none⟩ = some (.int .u8 3) := (cells_of f0).1 0
  have g1 : w1.cell? ⟨w.heap.size, 1, none⟩ = some (.slice (some ⟨b, off, none⟩) n c) := (cells_of f0).1 1
  have g2 := (fB.cell hb).trans hx
  have g3 := (fB.cell hb).trans hy
  have gz := (fB.cell hb).trans kz
  have gu := (fB.cell hb).trans ku
  have l0 : w.heap.size < w1.heap.size := (Array.getElem?_eq_some_iff.1 f0).1
  have l1 : b < w1.heap.size := by omega
  have l2 : w.heap.size + 1 < w1.heap.size := (Array.getElem?_eq_some_iff.1 f1).1
  have F1 := Lib.hid f1
  have FB := Lib.hid fB
  clear hx hy f0 f1 fB kz ku
  go_region_held3 (fun w' => w'.cell? ⟨w.heap.size, 0, none⟩ = some (.int .u8 3) ∧ w'.cell? ⟨w.heap.size, 1, none⟩ = some (.slice (some ⟨b, off, none⟩) n c) ∧ w'.cell? ⟨b, off + p, none⟩ = some (.float .f64 x) ∧ w'.cell? ⟨b, off + (p + 1), none⟩ = some (.float .f64 y)) (first | (go_keep; done) | (go_simp; done)) (first | fail)
  obtain ⟨kc, kf⟩ := cells_of F1.out
  have hmw := Hm'.out
  go_wp2_with fail
  refine bodyPost_ret (v := .agg #[.float .f64 x, .float .f64 y, .float .f64 z, .float .f64 u, .int .u8 3]) ?_ rfl ⟨rfl, ?_⟩
  · simp [results, Tryz.results87, go_sem, *]
  · repeat (with_reducible first | refine Below.setCell ?_ (by simp) _ | refine Below.drew ?_ | refine Below.alloc ?_ (by simp; omega) _ | exact FB.out)

/-- A place with all its numbers. -/
structure Crd where
  x : Nat
  y : Nat
  z : Nat
  m : Nat
  t : Int
/-- The i-th place of a list of numbers. -/
def crdOf (t : Int) (xs : List Nat) (i : Nat) : Crd :=
  { x := xs.getD (i * dN t) 0, y := xs.getD (i * dN t + 1) 0, z := if t = 1 ∨ t = 3 then xs.getD (i * dN t + 2) 0 else 0
    m := if t = 2 then xs.getD (i * dN t + 2) 0 else if t = 3 then xs.getD (i * dN t + 3) 0 else 0, t := t }
theorem fl_at {S : Nat → Prop} {w : World} {xs : List Nat} {b off c : Nat} {n : Nat} (h : Rd S w (fl xs) (.slice (some ⟨b, off, none⟩) n c)) (j : Nat) (hj : j < xs.length) :
    w.cell? ⟨b, off + j, none⟩ = some (.float .f64 (xs.getD j 0)) := by
  obtain ⟨a, c', e, _, hi⟩ := fl_inv h
  obtain ⟨b', off', e', _, _, k⟩ := hi j hj
  simp only [Value.slice.injEq] at e
  obtain ⟨rfl, _, _⟩ := e
  simp only [Option.some.injEq, Addr.mk.injEq, and_true] at e'
  obtain ⟨rfl, rfl⟩ := e'
  rw [k]; simp [List.getD, hj]
theorem c87 (S : Nat → Prop) (t : Int) (xs : List Nat) (a : Option Addr) (c i : Nat) (w : World) (h0 : 0 ≤ t) (h1 : t ≤ 3) (h : Rd S w (fl xs) (.slice a xs.length c)) (hi : i * dN t + dN t ≤ xs.length) :
    Calls Tryz.prog 87 #[.agg #[.int .u8 t, .slice a xs.length c], .int .i64 i] w fun e w' =>
      e = .returned (.agg #[.float .f64 (crdOf t xs i).x, .float .f64 (crdOf t xs i).y, .float .f64 (crdOf t xs i).z, .float .f64 (crdOf t xs i).m, .int .u8 t]) ∧ Below w.heap.size w w' := by
  have hd := dN_bd t
  obtain ⟨a', c', e, hn, hall⟩ := fl_inv h
  simp only [Value.slice.injEq] at e
  obtain ⟨rfl, _, rfl⟩ := e
  obtain ⟨b, off, rfl, _, hb, _⟩ := hall (i * dN t) (by omega)
  have hat := fun j hj => fl_at h j hj
  rcases four t h0 h1 with rfl | rfl | rfl | rfl
  · have hq : dN 0 = 2 := by decide
    exact c87_0 b off _ _ i _ _ _ w hn hb rfl hi (hat _ (by omega)) (hat _ (by omega))
  · have hq : dN 1 = 3 := by decide
    exact c87_1 b off _ _ i _ _ _ _ w hn hb rfl hi (hat _ (by omega)) (hat _ (by omega)) (hat _ (by omega))
  · have hq : dN 2 = 3 := by decide
    exact c87_2 b off _ _ i _ _ _ _ w hn hb rfl hi (hat _ (by omega)) (hat _ (by omega)) (hat _ (by omega))
  · have hq : dN 3 = 4 := by decide
    exact c87_3 b off _ _ i _ _ _ _ _ w hn hb rfl hi (hat _ (by omega)) (hat _ (by omega)) (hat _ (by omega)) (hat _ (by omega))
end Go.Proofs.YtahnhhkbdgaidaaGreatDoor
