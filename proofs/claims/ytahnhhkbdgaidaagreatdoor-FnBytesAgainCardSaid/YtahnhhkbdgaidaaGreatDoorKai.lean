/-
  Geometries of any kind under another type of coordinates.
-/
import Derived.Test.YtahnhhkbdgaidaaGreatDoorKah
namespace Go.Proofs.YtahnhhkbdgaidaaGreatDoor
open Go.RowKit
set_option maxRecDepth 100000 in
theorem d67 (x y z m : Nat) (t : Int) (f : Bool) (b : Nat) (w : World) (hb : b < w.heap.size) (q0 : w.cell? ⟨b, 0, none⟩ = some (.float .f64 x)) (q1 : w.cell? ⟨b, 1, none⟩ = some (.float .f64 y)) (q2 : w.cell? ⟨b, 2, none⟩ = some (.float .f64 z)) (q3 : w.cell? ⟨b, 3, none⟩ = some (.float .f64 m)) (q4 : w.cell? ⟨b, 4, none⟩ = some (.int .u8 t)) (q5 : w.cell? ⟨b, 5, none⟩ = some (.bool f)) : Calls Tryz.prog 67 #[.agg #[.int .i64 1, .iface 168 (.pointer (some ⟨b, 0, none⟩))]] w fun e w' => e = .returned (.agg #[.float .f64 x, .float .f64 y, .float .f64 z, .float .f64 m, .int .u8 t, .bool f]) ∧ Below w.heap.size w w' := by
  have hsf := st_float
  have hta : ∀ (p : Option Addr) (w : World), (Instr.typeAssert (.iface 168 (.pointer p)) 20 168 false).run Tryz.prog w = .ok (.pointer p) w := fun _ _ => by kernel_rfl
  go_enter Tryz.func67, Tryz.ntmps67
  go_wp2_with fail
  refine (c126 _ _ _ _).mono ?_
  rintro e w1 ⟨rfl, hb1⟩
  have L0 := (Lb.new' w _ _ _).blw hb1
  have L1 := (Lb.new2 w _ _ _).blw hb1
  have HB : Below w.heap.size w w1 := (bl_a2 w _ _).trans (hb1.mono (by simp <;> omega))
  have Q0 := (HB.cell (p := ⟨b, 0, none⟩) hb).trans q0
  have Q1 := (HB.cell (p := ⟨b, 1, none⟩) hb).trans q1
  have Q2 := (HB.cell (p := ⟨b, 2, none⟩) hb).trans q2
  have Q3 := (HB.cell (p := ⟨b, 3, none⟩) hb).trans q3
  have Q4 := (HB.cell (p := ⟨b, 4, none⟩) hb).trans q4
  have Q5 := (HB.cell (p := ⟨b, 5, none⟩) hb).trans q5
  obtain ⟨k2, _, lt0⟩ := L0.use
  obtain ⟨k3, f3, lt1⟩ := L1.use
  have HB' := Lib.hid HB
  clear L0 L1 HB hb1 q0 q1 q2 q3 q4 q5
  go_wp2_with fail
  refine bodyPost_ret (v := .agg #[.float .f64 x, .float .f64 y, .float .f64 z, .float .f64 m, .int .u8 t, .bool f]) (by simp [results, Tryz.results67, go_sem, *]) rfl ⟨rfl, ?_⟩
  repeat (with_reducible first | refine Below.setCell ?_ (by simp) _ | exact HB'.out)
set_option maxRecDepth 100000 in
theorem d69 (t : Int) (a : Option Addr) (n c : Nat) (b : Nat) (w : World) (hb : b < w.heap.size) (q0 : w.cell? ⟨b, 0, none⟩ = some (.int .u8 t)) (q1 : w.cell? ⟨b, 1, none⟩ = some (.slice a n c)) : Calls Tryz.prog 69 #[.agg #[.int .i64 2, .iface 169 (.pointer (some ⟨b, 0, none⟩))]] w fun e w' => e = .returned (.agg #[.int .u8 t, .slice a n c]) ∧ Below w.heap.size w w' := by
  have hta : ∀ (p : Option Addr) (w : World), (Instr.typeAssert (.iface 169 (.pointer p)) 20 169 false).run Tryz.prog w = .ok (.pointer p) w := fun _ _ => by kernel_rfl
  go_enter Tryz.func69, Tryz.ntmps69
  go_wp2_with fail
  refine (c126 _ _ _ _).mono ?_
  rintro e w1 ⟨rfl, hb1⟩
  have L0 := (Lb.new' w _ _ _).blw hb1
  have L1 := (Lb.new2 w _ _ _).blw hb1
  have HB : Below w.heap.size w w1 := (bl_a2 w _ _).trans (hb1.mono (by simp <;> omega))
  have Q0 := (HB.cell (p := ⟨b, 0, none⟩) hb).trans q0
  have Q1 := (HB.cell (p := ⟨b, 1, none⟩) hb).trans q1
  obtain ⟨k2, _, lt0⟩ := L0.use
  obtain ⟨k3, f3, lt1⟩ := L1.use
  have HB' := Lib.hid HB
  clear L0 L1 HB hb1 q0 q1
  go_wp2_with fail
  refine bodyPost_ret (v := .agg #[.int .u8 t, .slice a n c]) (by simp [results, Tryz.results69, go_sem, *]) rfl ⟨rfl, ?_⟩
  repeat (with_reducible first | refine Below.setCell ?_ (by simp) _ | exact HB'.out)
set_option maxRecDepth 100000 in
theorem d71 (t : Int) (a : Option Addr) (n c : Nat) (b : Nat) (w : World) (hb : b < w.heap.size) (q0 : w.cell? ⟨b, 0, none⟩ = some (.slice a n c)) (q1 : w.cell? ⟨b, 1, none⟩ = some (.int .u8 t)) : Calls Tryz.prog 71 #[.agg #[.int .i64 3, .iface 170 (.pointer (some ⟨b, 0, none⟩))]] w fun e w' => e = .returned (.agg #[.slice a n c, .int .u8 t]) ∧ Below w.heap.size w w' := by
  have hta : ∀ (p : Option Addr) (w : World), (Instr.typeAssert (.iface 170 (.pointer p)) 20 170 false).run Tryz.prog w = .ok (.pointer p) w := fun _ _ => by kernel_rfl
  go_enter Tryz.func71, Tryz.ntmps71
  go_wp2_with fail
  refine (c126 _ _ _ _).mono ?_
  rintro e w1 ⟨rfl, hb1⟩
  have L0 := (Lb.new' w _ _ _).blw hb1
  have L1 := (Lb.new2 w _ _ _).blw hb1
  have HB : Below w.heap.size w w1 := (bl_a2 w _ _).trans (hb1.mono (by simp <;> omega))
  have Q0 := (HB.cell (p := ⟨b, 0, none⟩) hb).trans q0
  have Q1 := (HB.cell (p := ⟨b, 1, none⟩) hb).trans q1
  obtain ⟨k2, _, lt0⟩ := L0.use
  obtain ⟨k3, f3, lt1⟩ := L1.use
  have HB' := Lib.hid HB
  clear L0 L1 HB hb1 q0 q1
  go_wp2_with fail
  refine bodyPost_ret (v := .agg #[.slice a n c, .int .u8 t]) (by simp [results, Tryz.results71, go_sem, *]) rfl ⟨rfl, ?_⟩
  repeat (with_reducible first | refine Below.setCell ?_ (by simp) _ | exact HB'.out)
set_option maxRecDepth 100000 in
theorem d73 (t : Int) (a : Option Addr) (n c : Nat) (b : Nat) (w : World) (hb : b < w.heap.size) (q0 : w.cell? ⟨b, 0, none⟩ = some (.slice a n c)) (q1 : w.cell? ⟨b, 1, none⟩ = some (.int .u8 t)) : Calls Tryz.prog 73 #[.agg #[.int .i64 4, .iface 171 (.pointer (some ⟨b, 0, none⟩))]] w fun e w' => e = .returned (.agg #[.slice a n c, .int .u8 t]) ∧ Below w.heap.size w w' := by
  have hta : ∀ (p : Option Addr) (w : World), (Instr.typeAssert (.iface 171 (.pointer p)) 20 171 false).run Tryz.prog w = .ok (.pointer p) w := fun _ _ => by kernel_rfl
  go_enter Tryz.func73, Tryz.ntmps73
  go_wp2_with fail
  refine (c126 _ _ _ _).mono ?_
  rintro e w1 ⟨rfl, hb1⟩
  have L0 := (Lb.new' w _ _ _).blw hb1
  have L1 := (Lb.new2 w _ _ _).blw hb1
  have HB : Below w.heap.size w w1 := (bl_a2 w _ _).trans (hb1.mono (by simp <;> omega))
  have Q0 := (HB.cell (p := ⟨b, 0, none⟩) hb).trans q0
  have Q1 := (HB.cell (p := ⟨b, 1, none⟩) hb).trans q1
  obtain ⟨k2, _, lt0⟩ := L0.use
  obtain ⟨k3, f3, lt1⟩ := L1.use
  have HB' := Lib.hid HB
  clear L0 L1 HB hb1 q0 q1
  go_wp2_with fail
  refine bodyPost_ret (v := .agg #[.slice a n c, .int .u8 t]) (by simp [results, Tryz.results73, go_sem, *]) rfl ⟨rfl, ?_⟩
  repeat (with_reducible first | refine Below.setCell ?_ (by simp) _ | exact HB'.out)
set_option maxRecDepth 100000 in
theorem d75 (t : Int) (a : Option Addr) (n c : Nat) (b : Nat) (w : World) (hb : b < w.heap.size) (q0 : w.cell? ⟨b, 0, none⟩ = some (.slice a n c)) (q1 : w.cell? ⟨b, 1, none⟩ = some (.int .u8 t)) : Calls Tryz.prog 75 #[.agg #[.int .i64 5, .iface 172 (.pointer (some ⟨b, 0, none⟩))]] w fun e w' => e = .returned (.agg #[.slice a n c, .int .u8 t]) ∧ Below w.heap.size w w' := by
  have hta : ∀ (p : Option Addr) (w : World), (Instr.typeAssert (.iface 172 (.pointer p)) 20 172 false).run Tryz.prog w = .ok (.pointer p) w := fun _ _ => by kernel_rfl
  go_enter Tryz.func75, Tryz.ntmps75
  go_wp2_with fail
  refine (c126 _ _ _ _).mono ?_
  rintro e w1 ⟨rfl, hb1⟩
  have L0 := (Lb.new' w _ _ _).blw hb1
  have L1 := (Lb.new2 w _ _ _).blw hb1
  have HB : Below w.heap.size w w1 := (bl_a2 w _ _).trans (hb1.mono (by simp <;> omega))
  have Q0 := (HB.cell (p := ⟨b, 0, none⟩) hb).trans q0
  have Q1 := (HB.cell (p := ⟨b, 1, none⟩) hb).trans q1
  obtain ⟨k2, _, lt0⟩ := L0.use
  obtain ⟨k3, f3, lt1⟩ := L1.use
  have HB' := Lib.hid HB
  clear L0 L1 HB hb1 q0 q1
  go_wp2_with fail
  refine bodyPost_ret (v := .agg #[.slice a n c, .int .u8 t]) (by simp [results, Tryz.results75, go_sem, *]) rfl ⟨rfl, ?_⟩
  repeat (with_reducible first | refine Below.setCell ?_ (by simp) _ | exact HB'.out)
set_option maxRecDepth 100000 in
theorem d77 (t : Int) (a : Option Addr) (n c : Nat) (b : Nat) (w : World) (hb : b < w.heap.size) (q0 : w.cell? ⟨b, 0, none⟩ = some (.slice a n c)) (q1 : w.cell? ⟨b, 1, none⟩ = some (.int .u8 t)) : Calls Tryz.prog 77 #[.agg #[.int .i64 6, .iface 173 (.pointer (some ⟨b, 0, none⟩))]] w fun e w' => e = .returned (.agg #[.slice a n c, .int .u8 t]) ∧ Below w.heap.size w w' := by
  have hta : ∀ (p : Option Addr) (w : World), (Instr.typeAssert (.iface 173 (.pointer p)) 20 173 false).run Tryz.prog w = .ok (.pointer p) w := fun _ _ => by kernel_rfl
  go_enter Tryz.func77, Tryz.ntmps77
  go_wp2_with fail
  refine (c126 _ _ _ _).mono ?_
  rintro e w1 ⟨rfl, hb1⟩
  have L0 := (Lb.new' w _ _ _).blw hb1
  have L1 := (Lb.new2 w _ _ _).blw hb1
  have HB : Below w.heap.size w w1 := (bl_a2 w _ _).trans (hb1.mono (by simp <;> omega))
  have Q0 := (HB.cell (p := ⟨b, 0, none⟩) hb).trans q0
  have Q1 := (HB.cell (p := ⟨b, 1, none⟩) hb).trans q1
  obtain ⟨k2, _, lt0⟩ := L0.use
  obtain ⟨k3, f3, lt1⟩ := L1.use
  have HB' := Lib.hid HB
  clear L0 L1 HB hb1 q0 q1
  go_wp2_with fail
  refine bodyPost_ret (v := .agg #[.slice a n c, .int .u8 t]) (by simp [results, Tryz.results77, go_sem, *]) rfl ⟨rfl, ?_⟩
  repeat (with_reducible first | refine Below.setCell ?_ (by simp) _ | exact HB'.out)
set_option maxRecDepth 100000 in
theorem d65 (t : Int) (a : Option Addr) (n c : Nat) (b : Nat) (w : World) (hb : b < w.heap.size) (q0 : w.cell? ⟨b, 0, none⟩ = some (.slice a n c)) (q1 : w.cell? ⟨b, 1, none⟩ = some (.int .u8 t)) : Calls Tryz.prog 65 #[.agg #[.int .i64 0, .iface 176 (.pointer (some ⟨b, 0, none⟩))]] w fun e w' => e = .returned (.agg #[.slice a n c, .int .u8 t]) ∧ Below w.heap.size w w' := by
  have hta : ∀ (p : Option Addr) (w : World), (Instr.typeAssert (.iface 176 (.pointer p)) 20 176 false).run Tryz.prog w = .ok (.pointer p) w := fun _ _ => by kernel_rfl
  go_enter Tryz.func65, Tryz.ntmps65
  go_wp2_with fail
  refine (c126 _ _ _ _).mono ?_
  rintro e w1 ⟨rfl, hb1⟩
  have L0 := (Lb.new' w _ _ _).blw hb1
  have L1 := (Lb.new2 w _ _ _).blw hb1
  have HB : Below w.heap.size w w1 := (bl_a2 w _ _).trans (hb1.mono (by simp <;> omega))
  have Q0 := (HB.cell (p := ⟨b, 0, none⟩) hb).trans q0
  have Q1 := (HB.cell (p := ⟨b, 1, none⟩) hb).trans q1
  obtain ⟨k2, _, lt0⟩ := L0.use
  obtain ⟨k3, f3, lt1⟩ := L1.use
  have HB' := Lib.hid HB
  clear L0 L1 HB hb1 q0 q1
  go_wp2_with fail
  refine bodyPost_ret (v := .agg #[.slice a n c, .int .u8 t]) (by simp [results, Tryz.results65, go_sem, *]) rfl ⟨rfl, ?_⟩
  repeat (with_reducible first | refine Below.setCell ?_ (by simp) _ | exact HB'.out)
set_option maxRecDepth 100000 in
set_option maxHeartbeats 1000000 in
theorem c48_1 (S : Nat → Prop) (x y z m : Nat) (t t' : Int) (f : Bool) (b : Nat) (w : World) (h0 : 0 ≤ t) (h1 : t ≤ 3) (g0 : 0 ≤ t') (g1 : t' ≤ 3) (hS : ∀ b, w.heap.size ≤ b → S b) (hb : b < w.heap.size) (q0 : w.cell? ⟨b, 0, none⟩ = some (.float .f64 x)) (q1 : w.cell? ⟨b, 1, none⟩ = some (.float .f64 y)) (q2 : w.cell? ⟨b, 2, none⟩ = some (.float .f64 z)) (q3 : w.cell? ⟨b, 3, none⟩ = some (.float .f64 m)) (q4 : w.cell? ⟨b, 4, none⟩ = some (.int .u8 t)) (q5 : w.cell? ⟨b, 5, none⟩ = some (.bool f)) 
     :
    Calls Tryz.prog 48 #[.agg #[.int .i64 1, .iface 168 (.pointer (some ⟨b, 0, none⟩))], .int .u8 t'] w fun e w' => ∃ b', e = .returned (.agg #[.int .i64 1, .iface 168 (.pointer (some ⟨b', 0, none⟩))]) ∧
      Rd S w' (.box 168 (Pt.fs (Pt.force ⟨⟨x, y, z, m, t⟩, f⟩ t'))) (.iface 168 (.pointer (some ⟨b', 0, none⟩))) ∧ Below w.heap.size w w' := by
  have hsf := st_float
  go_enter Tryz.func48, Tryz.ntmps48
  go_wp2_with fail
  have Wb := bl_a2 w (.cells #[.int .i64 1, .iface 168 (.pointer (some ⟨b, 0, none⟩))] 47) (.cells #[.int .i64 0, .nilIface] 47)
  have Q0 := (Wb.cell (p := ⟨b, 0, none⟩) hb).trans q0
  have Q1 := (Wb.cell (p := ⟨b, 1, none⟩) hb).trans q1
  have Q2 := (Wb.cell (p := ⟨b, 2, none⟩) hb).trans q2
  have Q3 := (Wb.cell (p := ⟨b, 3, none⟩) hb).trans q3
  have Q4 := (Wb.cell (p := ⟨b, 4, none⟩) hb).trans q4
  have Q5 := (Wb.cell (p := ⟨b, 5, none⟩) hb).trans q5
  clear Wb
  refine (d67 x y z m t f b _ (by simp <;> omega) Q0 Q1 Q2 Q3 Q4 Q5).mono ?_
  rintro e w1 ⟨rfl, hb1⟩
  have hl1 : w.heap.size + 1 < w1.heap.size := by have := hb1.size; simp at this; omega
  have L1 := Lib.hid ((Lb.new2 w _ _ _).blw hb1)
  have HB1 := Lib.hid ((bl_a2 w _ _).trans (hb1.mono (by simp <;> omega)))
  clear hb1 Q0 Q1 Q2 Q3 Q4 Q5 q0 q1 q2 q3 q4 q5
  go_wp2_with fail
  refine ((c114 ⟨⟨x, y, z, m, t⟩, f⟩ t' w1 h0 h1 g0 g1)).mono ?_
  rintro e w2 ⟨rfl, hb2⟩
  simp only [Pt.cells]
  have L2 := Lib.hid (L1.out.blw hb2)
  have HB2 := Lib.hid (HB1.out.trans (hb2.mono (by omega)))
  have hl2 : w.heap.size + 1 < w2.heap.size := Nat.lt_of_lt_of_le hl1 hb2.size
  clear hb2
  go_wp2_with fail
  refine (c57 _ _ _ _ _ _ _).mono ?_
  rintro e w3 ⟨b', rfl, hbn, hbk, hb3⟩
  have L3 := L2.out.blw hb3
  have HB3 := Lib.hid (HB2.out.trans (hb3.mono (by omega)))
  have Lk : Lb w3 b' _ _ := hbk
  obtain ⟨k1, f1, lt1⟩ := L3.use
  clear hb3 hbk
  go_wp2_with fail
  refine bodyPost_ret (v := .agg #[.int .i64 1, .iface 168 (.pointer (some ⟨b', 0, none⟩))]) (by simp [results, Tryz.results48, go_sem, k1]) rfl ⟨b', rfl, ?_, ?_⟩
  · refine Rd.unex (L := w.heap.size + 1) (box_new (cs := #[.float .f64 (Pt.force ⟨⟨x, y, z, m, t⟩, f⟩ t').c.x, .float .f64 (Pt.force ⟨⟨x, y, z, m, t⟩, f⟩ t').c.y, .float .f64 (Pt.force ⟨⟨x, y, z, m, t⟩, f⟩ t').c.z, .float .f64 (Pt.force ⟨⟨x, y, z, m, t⟩, f⟩ t').c.m, .int .u8 (Pt.force ⟨⟨x, y, z, m, t⟩, f⟩ t').c.t, .bool (Pt.force ⟨⟨x, y, z, m, t⟩, f⟩ t').full]) (T := 63) ((Lk.far (by simp <;> omega) _).far (by simp <;> omega) _) ⟨hS _ (by omega), by omega⟩ (fun jj hjj => ?_))
    have hj6 : jj < 6 := hjj
    have hjc : jj = 0 ∨ jj = 1 ∨ jj = 2 ∨ jj = 3 ∨ jj = 4 ∨ jj = 5 := by omega
    rcases hjc with rfl | rfl | rfl | rfl | rfl | rfl <;> exact ⟨_, rfl, .atom _⟩
  · exact (HB3.out.setCell (by simp) _).setCell (by simp) _
set_option maxRecDepth 100000 in
set_option maxHeartbeats 1000000 in
theorem c48_2 (S : Nat → Prop) (xs xs' : List Nat) (t t' : Int) (a : Option Addr) (n c n' : Nat) (b : Nat) (w : World)  (hS : ∀ b, w.heap.size ≤ b → S b) (hb : b < w.heap.size) (q0 : w.cell? ⟨b, 0, none⟩ = some (.int .u8 t)) (q1 : w.cell? ⟨b, 1, none⟩ = some (.slice a n c)) (hr : Rd S w (fl xs) (.slice a n c))
    (HF : ∀ (S : Nat → Prop) (w : World), (∀ b, w.heap.size ≤ b → S b) → Rd S w (fl xs) (.slice a n c) → Calls Tryz.prog 115 #[.agg #[.int .u8 t, .slice a n c], .int .u8 t'] w fun e w' => ∃ a' c', e = .returned (.agg #[.int .u8 t', .slice a' n' c']) ∧ Rd S w' (fl xs') (.slice a' n' c') ∧ Below w.heap.size w w') :
    Calls Tryz.prog 48 #[.agg #[.int .i64 2, .iface 169 (.pointer (some ⟨b, 0, none⟩))], .int .u8 t'] w fun e w' => ∃ b', e = .returned (.agg #[.int .i64 2, .iface 169 (.pointer (some ⟨b', 0, none⟩))]) ∧
      Rd S w' (.box 169 [.atom (.int .u8 t'), fl xs']) (.iface 169 (.pointer (some ⟨b', 0, none⟩))) ∧ Below w.heap.size w w' := by
  have hsf := st_float
  go_enter Tryz.func48, Tryz.ntmps48
  go_wp2_with fail
  have Wb := bl_a2 w (.cells #[.int .i64 2, .iface 169 (.pointer (some ⟨b, 0, none⟩))] 47) (.cells #[.int .i64 0, .nilIface] 47)
  have Q0 := (Wb.cell (p := ⟨b, 0, none⟩) hb).trans q0
  have Q1 := (Wb.cell (p := ⟨b, 1, none⟩) hb).trans q1
  clear Wb
  refine (d69 t a n c b _ (by simp <;> omega) Q0 Q1).mono ?_
  rintro e w1 ⟨rfl, hb1⟩
  have hl1 : w.heap.size + 1 < w1.heap.size := by have := hb1.size; simp at this; omega
  have Hr1 := Lib.hid ((((hr.ex (L := w.heap.size + 1) (by omega)).alloc _).alloc _).blw hb1)
  have L1 := Lib.hid ((Lb.new2 w _ _ _).blw hb1)
  have HB1 := Lib.hid ((bl_a2 w _ _).trans (hb1.mono (by simp <;> omega)))
  clear hb1 Q0 Q1 q0 q1
  go_wp2_with fail
  refine ((HF (Ex S (w.heap.size + 1)) w1 (Ex.up hS (by omega) (by omega)) Hr1.out)).mono ?_
  rintro e w2 ⟨a', c', rfl, hr2, hb2⟩
  have L2 := Lib.hid (L1.out.blw hb2)
  have HB2 := Lib.hid (HB1.out.trans (hb2.mono (by omega)))
  have hl2 : w.heap.size + 1 < w2.heap.size := Nat.lt_of_lt_of_le hl1 hb2.size
  clear hb2
  go_wp2_with fail
  refine (c58 _ _ _ _ _).mono ?_
  rintro e w3 ⟨b', rfl, hbn, hbk, hb3⟩
  have L3 := L2.out.blw hb3
  have hr3 := hr2.blw hb3
  have HB3 := Lib.hid (HB2.out.trans (hb3.mono (by omega)))
  have Lk : Lb w3 b' _ _ := hbk
  obtain ⟨k1, f1, lt1⟩ := L3.use
  clear hb3 hbk
  go_wp2_with fail
  refine bodyPost_ret (v := .agg #[.int .i64 2, .iface 169 (.pointer (some ⟨b', 0, none⟩))]) (by simp [results, Tryz.results48, go_sem, k1]) rfl ⟨b', rfl, ?_, ?_⟩
  · refine Rd.unex (L := w.heap.size + 1) (box_new (cs := #[.int .u8 t', .slice a' n' c']) (T := 69) ((Lk.far (by simp <;> omega) _).far (by simp <;> omega) _) ⟨hS _ (by omega), by omega⟩ (fun jj hjj => ?_))
    have hjc : jj = 0 ∨ jj = 1 := by have : jj < 2 := hjj; omega
    rcases hjc with rfl | rfl
    · exact ⟨_, rfl, .atom _⟩
    · exact ⟨_, rfl, (hr3.set _ _).set _ _⟩
  · exact (HB3.out.setCell (by simp) _).setCell (by simp) _
set_option maxRecDepth 100000 in
set_option maxHeartbeats 1000000 in
theorem c48_3 (S : Nat → Prop) (es es' : List (List F)) (t t' : Int) (a : Option Addr) (n c : Nat) (b : Nat) (w : World)  (hS : ∀ b, w.heap.size ≤ b → S b) (hb : b < w.heap.size) (q0 : w.cell? ⟨b, 0, none⟩ = some (.slice a n c)) (q1 : w.cell? ⟨b, 1, none⟩ = some (.int .u8 t)) (hr : Rd S w (.list es) (.slice a n c))
    (HF : ∀ (S : Nat → Prop) (w : World), (∀ b, w.heap.size ≤ b → S b) → Rd S w (.list es) (.slice a n c) → Calls Tryz.prog 91 #[.agg #[.slice a n c, .int .u8 t], .int .u8 t'] w fun e w' => ∃ a' c', e = .returned (.agg #[.slice a' n c', .int .u8 t']) ∧ Rd S w' (.list es') (.slice a' n c') ∧ Below w.heap.size w w') :
    Calls Tryz.prog 48 #[.agg #[.int .i64 3, .iface 170 (.pointer (some ⟨b, 0, none⟩))], .int .u8 t'] w fun e w' => ∃ b', e = .returned (.agg #[.int .i64 3, .iface 170 (.pointer (some ⟨b', 0, none⟩))]) ∧
      Rd S w' (.box 170 [.list es', .atom (.int .u8 t')]) (.iface 170 (.pointer (some ⟨b', 0, none⟩))) ∧ Below w.heap.size w w' := by
  have hsf := st_float
  go_enter Tryz.func48, Tryz.ntmps48
  go_wp2_with fail
  have Wb := bl_a2 w (.cells #[.int .i64 3, .iface 170 (.pointer (some ⟨b, 0, none⟩))] 47) (.cells #[.int .i64 0, .nilIface] 47)
  have Q0 := (Wb.cell (p := ⟨b, 0, none⟩) hb).trans q0
  have Q1 := (Wb.cell (p := ⟨b, 1, none⟩) hb).trans q1
  clear Wb
  refine (d71 t a n c b _ (by simp <;> omega) Q0 Q1).mono ?_
  rintro e w1 ⟨rfl, hb1⟩
  have hl1 : w.heap.size + 1 < w1.heap.size := by have := hb1.size; simp at this; omega
  have Hr1 := Lib.hid ((((hr.ex (L := w.heap.size + 1) (by omega)).alloc _).alloc _).blw hb1)
  have L1 := Lib.hid ((Lb.new2 w _ _ _).blw hb1)
  have HB1 := Lib.hid ((bl_a2 w _ _).trans (hb1.mono (by simp <;> omega)))
  clear hb1 Q0 Q1 q0 q1
  go_wp2_with fail
  refine ((HF (Ex S (w.heap.size + 1)) w1 (Ex.up hS (by omega) (by omega)) Hr1.out)).mono ?_
  rintro e w2 ⟨a', c', rfl, hr2, hb2⟩
  have L2 := Lib.hid (L1.out.blw hb2)
  have HB2 := Lib.hid (HB1.out.trans (hb2.mono (by omega)))
  have hl2 : w.heap.size + 1 < w2.heap.size := Nat.lt_of_lt_of_le hl1 hb2.size
  clear hb2
  go_wp2_with fail
  refine (c59 _ _ _ _ _).mono ?_
  rintro e w3 ⟨b', rfl, hbn, hbk, hb3⟩
  have L3 := L2.out.blw hb3
  have hr3 := hr2.blw hb3
  have HB3 := Lib.hid (HB2.out.trans (hb3.mono (by omega)))
  have Lk : Lb w3 b' _ _ := hbk
  obtain ⟨k1, f1, lt1⟩ := L3.use
  clear hb3 hbk
  go_wp2_with fail
  refine bodyPost_ret (v := .agg #[.int .i64 3, .iface 170 (.pointer (some ⟨b', 0, none⟩))]) (by simp [results, Tryz.results48, go_sem, k1]) rfl ⟨b', rfl, ?_, ?_⟩
  · refine Rd.unex (L := w.heap.size + 1) (box_new (cs := #[.slice a' n c', .int .u8 t']) (T := 73) ((Lk.far (by simp <;> omega) _).far (by simp <;> omega) _) ⟨hS _ (by omega), by omega⟩ (fun jj hjj => ?_))
    have hjc : jj = 0 ∨ jj = 1 := by have : jj < 2 := hjj; omega
    rcases hjc with rfl | rfl
    · exact ⟨_, rfl, (hr3.set _ _).set _ _⟩
    · exact ⟨_, rfl, .atom _⟩
  · exact (HB3.out.setCell (by simp) _).setCell (by simp) _
set_option maxRecDepth 100000 in
set_option maxHeartbeats 1000000 in
theorem c48_4 (S : Nat → Prop) (es es' : List (List F)) (t t' : Int) (a : Option Addr) (n c : Nat) (b : Nat) (w : World)  (hS : ∀ b, w.heap.size ≤ b → S b) (hb : b < w.heap.size) (q0 : w.cell? ⟨b, 0, none⟩ = some (.slice a n c)) (q1 : w.cell? ⟨b, 1, none⟩ = some (.int .u8 t)) (hr : Rd S w (.list es) (.slice a n c))
    (HF : ∀ (S : Nat → Prop) (w : World), (∀ b, w.heap.size ≤ b → S b) → Rd S w (.list es) (.slice a n c) → Calls Tryz.prog 95 #[.agg #[.slice a n c, .int .u8 t], .int .u8 t'] w fun e w' => ∃ a' c', e = .returned (.agg #[.slice a' n c', .int .u8 t']) ∧ Rd S w' (.list es') (.slice a' n c') ∧ Below w.heap.size w w') :
    Calls Tryz.prog 48 #[.agg #[.int .i64 4, .iface 171 (.pointer (some ⟨b, 0, none⟩))], .int .u8 t'] w fun e w' => ∃ b', e = .returned (.agg #[.int .i64 4, .iface 171 (.pointer (some ⟨b', 0, none⟩))]) ∧
      Rd S w' (.box 171 [.list es', .atom (.int .u8 t')]) (.iface 171 (.pointer (some ⟨b', 0, none⟩))) ∧ Below w.heap.size w w' := by
  have hsf := st_float
  go_enter Tryz.func48, Tryz.ntmps48
  go_wp2_with fail
  have Wb := bl_a2 w (.cells #[.int .i64 4, .iface 171 (.pointer (some ⟨b, 0, none⟩))] 47) (.cells #[.int .i64 0, .nilIface] 47)
  have Q0 := (Wb.cell (p := ⟨b, 0, none⟩) hb).trans q0
  have Q1 := (Wb.cell (p := ⟨b, 1, none⟩) hb).trans q1
  clear Wb
  refine (d73 t a n c b _ (by simp <;> omega) Q0 Q1).mono ?_
  rintro e w1 ⟨rfl, hb1⟩
  have hl1 : w.heap.size + 1 < w1.heap.size := by have := hb1.size; simp at this; omega
  have Hr1 := Lib.hid ((((hr.ex (L := w.heap.size + 1) (by omega)).alloc _).alloc _).blw hb1)
  have L1 := Lib.hid ((Lb.new2 w _ _ _).blw hb1)
  have HB1 := Lib.hid ((bl_a2 w _ _).trans (hb1.mono (by simp <;> omega)))
  clear hb1 Q0 Q1 q0 q1
  go_wp2_with fail
  refine ((HF (Ex S (w.heap.size + 1)) w1 (Ex.up hS (by omega) (by omega)) Hr1.out)).mono ?_
  rintro e w2 ⟨a', c', rfl, hr2, hb2⟩
  have L2 := Lib.hid (L1.out.blw hb2)
  have HB2 := Lib.hid (HB1.out.trans (hb2.mono (by omega)))
  have hl2 : w.heap.size + 1 < w2.heap.size := Nat.lt_of_lt_of_le hl1 hb2.size
  clear hb2
  go_wp2_with fail
  refine (c60 _ _ _ _ _).mono ?_
  rintro e w3 ⟨b', rfl, hbn, hbk, hb3⟩
  have L3 := L2.out.blw hb3
  have hr3 := hr2.blw hb3
  have HB3 := Lib.hid (HB2.out.trans (hb3.mono (by omega)))
  have Lk : Lb w3 b' _ _ := hbk
  obtain ⟨k1, f1, lt1⟩ := L3.use
  clear hb3 hbk
  go_wp2_with fail
  refine bodyPost_ret (v := .agg #[.int .i64 4, .iface 171 (.pointer (some ⟨b', 0, none⟩))]) (by simp [results, Tryz.results48, go_sem, k1]) rfl ⟨b', rfl, ?_, ?_⟩
  · refine Rd.unex (L := w.heap.size + 1) (box_new (cs := #[.slice a' n c', .int .u8 t']) (T := 77) ((Lk.far (by simp <;> omega) _).far (by simp <;> omega) _) ⟨hS _ (by omega), by omega⟩ (fun jj hjj => ?_))
    have hjc : jj = 0 ∨ jj = 1 := by have : jj < 2 := hjj; omega
    rcases hjc with rfl | rfl
    · exact ⟨_, rfl, (hr3.set _ _).set _ _⟩
    · exact ⟨_, rfl, .atom _⟩
  · exact (HB3.out.setCell (by simp) _).setCell (by simp) _
set_option maxRecDepth 100000 in
set_option maxHeartbeats 1000000 in
theorem c48_5 (S : Nat → Prop) (es es' : List (List F)) (t t' : Int) (a : Option Addr) (n c : Nat) (b : Nat) (w : World)  (hS : ∀ b, w.heap.size ≤ b → S b) (hb : b < w.heap.size) (q0 : w.cell? ⟨b, 0, none⟩ = some (.slice a n c)) (q1 : w.cell? ⟨b, 1, none⟩ = some (.int .u8 t)) (hr : Rd S w (.list es) (.slice a n c))
    (HF : ∀ (S : Nat → Prop) (w : World), (∀ b, w.heap.size ≤ b → S b) → Rd S w (.list es) (.slice a n c) → Calls Tryz.prog 98 #[.agg #[.slice a n c, .int .u8 t], .int .u8 t'] w fun e w' => ∃ a' c', e = .returned (.agg #[.slice a' n c', .int .u8 t']) ∧ Rd S w' (.list es') (.slice a' n c') ∧ Below w.heap.size w w') :
    Calls Tryz.prog 48 #[.agg #[.int .i64 5, .iface 172 (.pointer (some ⟨b, 0, none⟩))], .int .u8 t'] w fun e w' => ∃ b', e = .returned (.agg #[.int .i64 5, .iface 172 (.pointer (some ⟨b', 0, none⟩))]) ∧
      Rd S w' (.box 172 [.list es', .atom (.int .u8 t')]) (.iface 172 (.pointer (some ⟨b', 0, none⟩))) ∧ Below w.heap.size w w' := by
  have hsf := st_float
  go_enter Tryz.func48, Tryz.ntmps48
  go_wp2_with fail
  have Wb := bl_a2 w (.cells #[.int .i64 5, .iface 172 (.pointer (some ⟨b, 0, none⟩))] 47) (.cells #[.int .i64 0, .nilIface] 47)
  have Q0 := (Wb.cell (p := ⟨b, 0, none⟩) hb).trans q0
  have Q1 := (Wb.cell (p := ⟨b, 1, none⟩) hb).trans q1
  clear Wb
  refine (d75 t a n c b _ (by simp <;> omega) Q0 Q1).mono ?_
  rintro e w1 ⟨rfl, hb1⟩
  have hl1 : w.heap.size + 1 < w1.heap.size := by have := hb1.size; simp at this; omega
  have Hr1 := Lib.hid ((((hr.ex (L := w.heap.size + 1) (by omega)).alloc _).alloc _).blw hb1)
  have L1 := Lib.hid ((Lb.new2 w _ _ _).blw hb1)
  have HB1 := Lib.hid ((bl_a2 w _ _).trans (hb1.mono (by simp <;> omega)))
  clear hb1 Q0 Q1 q0 q1
  go_wp2_with fail
  refine ((HF (Ex S (w.heap.size + 1)) w1 (Ex.up hS (by omega) (by omega)) Hr1.out)).mono ?_
  rintro e w2 ⟨a', c', rfl, hr2, hb2⟩
  have L2 := Lib.hid (L1.out.blw hb2)
  have HB2 := Lib.hid (HB1.out.trans (hb2.mono (by omega)))
  have hl2 : w.heap.size + 1 < w2.heap.size := Nat.lt_of_lt_of_le hl1 hb2.size
  clear hb2
  go_wp2_with fail
  refine (c61 _ _ _ _ _).mono ?_
  rintro e w3 ⟨b', rfl, hbn, hbk, hb3⟩
  have L3 := L2.out.blw hb3
  have hr3 := hr2.blw hb3
  have HB3 := Lib.hid (HB2.out.trans (hb3.mono (by omega)))
  have Lk : Lb w3 b' _ _ := hbk
  obtain ⟨k1, f1, lt1⟩ := L3.use
  clear hb3 hbk
  go_wp2_with fail
  refine bodyPost_ret (v := .agg #[.int .i64 5, .iface 172 (.pointer (some ⟨b', 0, none⟩))]) (by simp [results, Tryz.results48, go_sem, k1]) rfl ⟨b', rfl, ?_, ?_⟩
  · refine Rd.unex (L := w.heap.size + 1) (box_new (cs := #[.slice a' n c', .int .u8 t']) (T := 80) ((Lk.far (by simp <;> omega) _).far (by simp <;> omega) _) ⟨hS _ (by omega), by omega⟩ (fun jj hjj => ?_))
    have hjc : jj = 0 ∨ jj = 1 := by have : jj < 2 := hjj; omega
    rcases hjc with rfl | rfl
    · exact ⟨_, rfl, (hr3.set _ _).set _ _⟩
    · exact ⟨_, rfl, .atom _⟩
  · exact (HB3.out.setCell (by simp) _).setCell (by simp) _
set_option maxRecDepth 100000 in
set_option maxHeartbeats 1000000 in
theorem c48_6 (S : Nat → Prop) (es es' : List (List F)) (t t' : Int) (a : Option Addr) (n c : Nat) (b : Nat) (w : World)  (hS : ∀ b, w.heap.size ≤ b → S b) (hb : b < w.heap.size) (q0 : w.cell? ⟨b, 0, none⟩ = some (.slice a n c)) (q1 : w.cell? ⟨b, 1, none⟩ = some (.int .u8 t)) (hr : Rd S w (.list es) (.slice a n c))
    (HF : ∀ (S : Nat → Prop) (w : World), (∀ b, w.heap.size ≤ b → S b) → Rd S w (.list es) (.slice a n c) → Calls Tryz.prog 101 #[.agg #[.slice a n c, .int .u8 t], .int .u8 t'] w fun e w' => ∃ a' c', e = .returned (.agg #[.slice a' n c', .int .u8 t']) ∧ Rd S w' (.list es') (.slice a' n c') ∧ Below w.heap.size w w') :
    Calls Tryz.prog 48 #[.agg #[.int .i64 6, .iface 173 (.pointer (some ⟨b, 0, none⟩))], .int .u8 t'] w fun e w' => ∃ b', e = .returned (.agg #[.int .i64 6, .iface 173 (.pointer (some ⟨b', 0, none⟩))]) ∧
      Rd S w' (.box 173 [.list es', .atom (.int .u8 t')]) (.iface 173 (.pointer (some ⟨b', 0, none⟩))) ∧ Below w.heap.size w w' := by
  have hsf := st_float
  go_enter Tryz.func48, Tryz.ntmps48
  go_wp2_with fail
  have Wb := bl_a2 w (.cells #[.int .i64 6, .iface 173 (.pointer (some ⟨b, 0, none⟩))] 47) (.cells #[.int .i64 0, .nilIface] 47)
  have Q0 := (Wb.cell (p := ⟨b, 0, none⟩) hb).trans q0
  have Q1 := (Wb.cell (p := ⟨b, 1, none⟩) hb).trans q1
  clear Wb
  refine (d77 t a n c b _ (by simp <;> omega) Q0 Q1).mono ?_
  rintro e w1 ⟨rfl, hb1⟩
  have hl1 : w.heap.size + 1 < w1.heap.size := by have := hb1.size; simp at this; omega
  have Hr1 := Lib.hid ((((hr.ex (L := w.heap.size + 1) (by omega)).alloc _).alloc _).blw hb1)
  have L1 := Lib.hid ((Lb.new2 w _ _ _).blw hb1)
  have HB1 := Lib.hid ((bl_a2 w _ _).trans (hb1.mono (by simp <;> omega)))
  clear hb1 Q0 Q1 q0 q1
  go_wp2_with fail
  refine ((HF (Ex S (w.heap.size + 1)) w1 (Ex.up hS (by omega) (by omega)) Hr1.out)).mono ?_
  rintro e w2 ⟨a', c', rfl, hr2, hb2⟩
  have L2 := Lib.hid (L1.out.blw hb2)
  have HB2 := Lib.hid (HB1.out.trans (hb2.mono (by omega)))
  have hl2 : w.heap.size + 1 < w2.heap.size := Nat.lt_of_lt_of_le hl1 hb2.size
  clear hb2
  go_wp2_with fail
  refine (c62 _ _ _ _ _).mono ?_
  rintro e w3 ⟨b', rfl, hbn, hbk, hb3⟩
  have L3 := L2.out.blw hb3
  have hr3 := hr2.blw hb3
  have HB3 := Lib.hid (HB2.out.trans (hb3.mono (by omega)))
  have Lk : Lb w3 b' _ _ := hbk
  obtain ⟨k1, f1, lt1⟩ := L3.use
  clear hb3 hbk
  go_wp2_with fail
  refine bodyPost_ret (v := .agg #[.int .i64 6, .iface 173 (.pointer (some ⟨b', 0, none⟩))]) (by simp [results, Tryz.results48, go_sem, k1]) rfl ⟨b', rfl, ?_, ?_⟩
  · refine Rd.unex (L := w.heap.size + 1) (box_new (cs := #[.slice a' n c', .int .u8 t']) (T := 84) ((Lk.far (by simp <;> omega) _).far (by simp <;> omega) _) ⟨hS _ (by omega), by omega⟩ (fun jj hjj => ?_))
    have hjc : jj = 0 ∨ jj = 1 := by have : jj < 2 := hjj; omega
    rcases hjc with rfl | rfl
    · exact ⟨_, rfl, (hr3.set _ _).set _ _⟩
    · exact ⟨_, rfl, .atom _⟩
  · exact (HB3.out.setCell (by simp) _).setCell (by simp) _
set_option maxRecDepth 100000 in
set_option maxHeartbeats 1000000 in
theorem c48_0 (S : Nat → Prop) (es es' : List (List F)) (t t' : Int) (a : Option Addr) (n c : Nat) (b : Nat) (w : World)  (hS : ∀ b, w.heap.size ≤ b → S b) (hb : b < w.heap.size) (q0 : w.cell? ⟨b, 0, none⟩ = some (.slice a n c)) (q1 : w.cell? ⟨b, 1, none⟩ = some (.int .u8 t)) (hr : Rd S w (.list es) (.slice a n c))
    (HF : ∀ (S : Nat → Prop) (w : World), (∀ b, w.heap.size ≤ b → S b) → Rd S w (.list es) (.slice a n c) → Calls Tryz.prog 113 #[.agg #[.slice a n c, .int .u8 t], .int .u8 t'] w fun e w' => ∃ a' c', e = .returned (.agg #[.slice a' n c', .int .u8 t']) ∧ Rd S w' (.list es') (.slice a' n c') ∧ Below w.heap.size w w') :
    Calls Tryz.prog 48 #[.agg #[.int .i64 0, .iface 176 (.pointer (some ⟨b, 0, none⟩))], .int .u8 t'] w fun e w' => ∃ b', e = .returned (.agg #[.int .i64 0, .iface 176 (.pointer (some ⟨b', 0, none⟩))]) ∧
      Rd S w' (.box 176 [.list es', .atom (.int .u8 t')]) (.iface 176 (.pointer (some ⟨b', 0, none⟩))) ∧ Below w.heap.size w w' := by
  have hsf := st_float
  go_enter Tryz.func48, Tryz.ntmps48
  go_wp2_with fail
  have Wb := bl_a2 w (.cells #[.int .i64 0, .iface 176 (.pointer (some ⟨b, 0, none⟩))] 47) (.cells #[.int .i64 0, .nilIface] 47)
  have Q0 := (Wb.cell (p := ⟨b, 0, none⟩) hb).trans q0
  have Q1 := (Wb.cell (p := ⟨b, 1, none⟩) hb).trans q1
  clear Wb
  refine (d65 t a n c b _ (by simp <;> omega) Q0 Q1).mono ?_
  rintro e w1 ⟨rfl, hb1⟩
  have hl1 : w.heap.size + 1 < w1.heap.size := by have := hb1.size; simp at this; omega
  have Hr1 := Lib.hid ((((hr.ex (L := w.heap.size + 1) (by omega)).alloc _).alloc _).blw hb1)
  have L1 := Lib.hid ((Lb.new2 w _ _ _).blw hb1)
  have HB1 := Lib.hid ((bl_a2 w _ _).trans (hb1.mono (by simp <;> omega)))
  clear hb1 Q0 Q1 q0 q1
  go_wp2_with fail
  refine ((HF (Ex S (w.heap.size + 1)) w1 (Ex.up hS (by omega) (by omega)) Hr1.out)).mono ?_
  rintro e w2 ⟨a', c', rfl, hr2, hb2⟩
  have L2 := Lib.hid (L1.out.blw hb2)
  have HB2 := Lib.hid (HB1.out.trans (hb2.mono (by omega)))
  have hl2 : w.heap.size + 1 < w2.heap.size := Nat.lt_of_lt_of_le hl1 hb2.size
  clear hb2
  go_wp2_with fail
  refine (c64 _ _ _ _ _).mono ?_
  rintro e w3 ⟨b', rfl, hbn, hbk, hb3⟩
  have L3 := L2.out.blw hb3
  have hr3 := hr2.blw hb3
  have HB3 := Lib.hid (HB2.out.trans (hb3.mono (by omega)))
  have Lk : Lb w3 b' _ _ := hbk
  obtain ⟨k1, f1, lt1⟩ := L3.use
  clear hb3 hbk
  go_wp2_with fail
  refine bodyPost_ret (v := .agg #[.int .i64 0, .iface 176 (.pointer (some ⟨b', 0, none⟩))]) (by simp [results, Tryz.results48, go_sem, k1]) rfl ⟨b', rfl, ?_, ?_⟩
  · refine Rd.unex (L := w.heap.size + 1) (box_new (cs := #[.slice a' n c', .int .u8 t']) (T := 104) ((Lk.far (by simp <;> omega) _).far (by simp <;> omega) _) ⟨hS _ (by omega), by omega⟩ (fun jj hjj => ?_))
    have hjc : jj = 0 ∨ jj = 1 := by have : jj < 2 := hjj; omega
    rcases hjc with rfl | rfl
    · exact ⟨_, rfl, (hr3.set _ _).set _ _⟩
    · exact ⟨_, rfl, .atom _⟩
  · exact (HB3.out.setCell (by simp) _).setCell (by simp) _
end Go.Proofs.YtahnhhkbdgaidaaGreatDoor
