/-
  A point under another type of coordinates.
-/
import Derived.Test.YtahnhhkbdgaidaaGreatDoorBl
namespace Go.Proofs.YtahnhhkbdgaidaaGreatDoor
open Go.RowKit

theorem q138 (t : Int) (w : World) (n : Nat) (h0 : 0 ≤ t) (h1 : t ≤ 3) : Calls Tryz.prog 138 #[.int .u8 t] (w.drewN n) fun e w' => e = .returned (.bool (hasZ t)) ∧ w' = w.drewN n :=
  (c138 t _ h0 h1).mono fun e w' h => ⟨h.1, h.2.symm⟩
theorem q148 (t : Int) (w : World) (n : Nat) (h0 : 0 ≤ t) (h1 : t ≤ 3) : Calls Tryz.prog 148 #[.int .u8 t] (w.drewN n) fun e w' => e = .returned (.bool (hasM t)) ∧ w' = w.drewN n :=
  (c148 t _ h0 h1).mono fun e w' h => ⟨h.1, h.2.symm⟩
theorem Lb.drewN {w : World} {b : Nat} {cs : Array Value} {T : TypeId} (h : Lb w b cs T) (n : Nat) : Lb (w.drewN n) b cs T := h
/-- A point under another type. -/
def Pt.force (p : Pt) (t' : Int) : Pt :=
  if p.full then ⟨⟨p.c.x, p.c.y, if hasZ t' != hasZ p.c.t then 0 else p.c.z, if hasM t' != hasM p.c.t then 0 else p.c.m, t'⟩, true⟩ else emptyPt t'
set_option maxRecDepth 100000 in
set_option maxHeartbeats 1000000 in
theorem c114 (p : Pt) (t' : Int) (w : World) (h0 : 0 ≤ p.c.t) (h1 : p.c.t ≤ 3) (g0 : 0 ≤ t') (g1 : t' ≤ 3) :
    Calls Tryz.prog 114 #[.agg p.cells, .int .u8 t'] w fun e w' => e = .returned (.agg (p.force t').cells) ∧ Below w.heap.size w w' := by
  have hsf := st_float
  obtain ⟨⟨x, y, z, m, t⟩, f⟩ := p
  cases f
  · have hE : Pt.force ⟨⟨x, y, z, m, t⟩, false⟩ t' = emptyPt t' := rfl
    rw [hE]
    simp only [Pt.cells]
    go_enter Tryz.func114, Tryz.ntmps114
    go_wp2_with fail
    refine (c85 _ _).mono ?_
    rintro e w1 ⟨rfl, hb1⟩
    have L1 := (Lb.new2 w _ _ _).blw hb1
    obtain ⟨k1, f1, lt1⟩ := L1.use
    go_wp2_with fail
    refine bodyPost_ret (v := .agg (Pt.cells (emptyPt t'))) (by simp [results, Tryz.results114, go_sem, k1, Pt.cells, emptyPt]) rfl ⟨rfl, ?_⟩
    repeat (with_reducible first | refine Below.setCell ?_ (by simp) _ | exact (bl_a2 w _ _).trans (hb1.mono (by simp <;> omega)))
  · have hE : Pt.force ⟨⟨x, y, z, m, t⟩, true⟩ t' = ⟨⟨x, y, if hasZ t' != hasZ t then 0 else z, if hasM t' != hasM t then 0 else m, t'⟩, true⟩ := rfl
    rw [hE]
    simp only [Pt.cells]
    have H1 := Lib.hid fun w n => q138 t w n h0 h1
    have H2 := Lib.hid fun w n => q138 t' w n g0 g1
    have H3 := Lib.hid fun w n => q148 t w n h0 h1
    have H4 := Lib.hid fun w n => q148 t' w n g0 g1
    generalize hasZ t = z1 at *
    generalize hasZ t' = z2 at *
    generalize hasM t = m1 at *
    generalize hasM t' = m2 at *
    go_enter Tryz.func114, Tryz.ntmps114
    go_wp2_with fail
    go_quiet ((go_at_call 138; first | exact Calls.quiet_of_same (H2.out _ _) | exact Calls.quiet_of_same (H1.out _ _)))
    have L0 : Lb (((w.alloc (.cells #[.float .f64 x, .float .f64 y, .float .f64 z, .float .f64 m, .int .u8 t, .bool true] 63)).alloc (.cells #[.float .f64 0, .float .f64 0, .float .f64 0, .float .f64 0, .int .u8 0, .bool false] 63)).drewN nq) w.heap.size _ _ := Lb.drewN (Lb.new' w _ _ _) nq
    have L1 : Lb (((w.alloc (.cells #[.float .f64 x, .float .f64 y, .float .f64 z, .float .f64 m, .int .u8 t, .bool true] 63)).alloc (.cells #[.float .f64 0, .float .f64 0, .float .f64 0, .float .f64 0, .int .u8 0, .bool false] 63)).drewN nq) (w.heap.size + 1) _ _ := Lb.drewN (Lb.new2 w _ _ _) nq
    have HB : Hid (Below w.heap.size w (((w.alloc (.cells #[.float .f64 x, .float .f64 y, .float .f64 z, .float .f64 m, .int .u8 t, .bool true] 63)).alloc (.cells #[.float .f64 0, .float .f64 0, .float .f64 0, .float .f64 0, .int .u8 0, .bool false] 63)).drewN nq)) := bl_drewN (bl_a2 w _ _) nq
    generalize (((w.alloc (.cells #[.float .f64 x, .float .f64 y, .float .f64 z, .float .f64 m, .int .u8 t, .bool true] 63)).alloc (.cells #[.float .f64 0, .float .f64 0, .float .f64 0, .float .f64 0, .int .u8 0, .bool false] 63)).drewN nq) = w1 at *
    clear nq
    obtain ⟨k0, f0, lt0⟩ := L0.use
    obtain ⟨k1, f1, lt1⟩ := L1.use
    have HL0 := Lib.hid L0
    have HL1 := Lib.hid L1
    clear L0 L1
    have fin : ∀ (Z : Nat) (w2 : World), Lb w2 w.heap.size #[.float .f64 x, .float .f64 y, .float .f64 Z, .float .f64 m, .int .u8 t, .bool true] 63 → Lb w2 (w.heap.size + 1) #[.float .f64 0, .float .f64 0, .float .f64 0, .float .f64 0, .int .u8 0, .bool false] 63 → Below w.heap.size w w2 → True := fun _ _ _ _ _ => trivial
    clear fin
    cases z1 <;> cases z2 <;> cases m1 <;> cases m2
    all_goals go_wp2_with fail
    all_goals go_quiet ((go_at_call 148; first | exact Calls.quiet_of_same (H4.out _ _) | exact Calls.quiet_of_same (H3.out _ _)))
    all_goals go_wp2_with fail
    all_goals refine bodyPost_ret ?_ rfl ⟨rfl, ?_⟩
    all_goals first
      | (simp [results, Tryz.results114, go_sem, *]; done)
      | (repeat (with_reducible first | refine Below.setCell ?_ (by simp) _ | refine bl_drewN ?_ _ | exact HB.out))
end Go.Proofs.YtahnhhkbdgaidaaGreatDoor
