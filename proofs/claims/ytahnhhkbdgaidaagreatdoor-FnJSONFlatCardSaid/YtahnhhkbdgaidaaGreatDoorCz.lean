/-
  The statement's own function: it answers true.
-/
import Derived.Test.YtahnhhkbdgaidaaGreatDoorCn
import Derived.Test.YtahnhhkbdgaidaaGreatDoorCu
import Derived.Test.YtahnhhkbdgaidaaGreatDoorCv
import Derived.Test.YtahnhhkbdgaidaaGreatDoorBd
import Derived.Test.YtahnhhkbdgaidaaGreatDoorCx
namespace Go.Proofs.YtahnhhkbdgaidaaGreatDoor
open Go.RowKit
set_option maxRecDepth 100000
theorem Bf.below {B : Nat} {W w : World} {v : Value} {bs : List UInt8} (h : Bf B W none v bs w) : Below W.heap.size W w := ⟨h.kept.os, h.kept.tape, h.kept.output, h.kept.size, fun i hi => h.kept.block i hi (by simp)⟩
set_option maxHeartbeats 1000000 in
theorem c68 (out : List UInt8) (x y z m : Nat) (t : Int) (full : Bool) (w : World)
    (H : ∀ w', Below w.heap.size w w' → Calls Tryz.prog 128 #[.agg #[.float .f64 x, .float .f64 y, .float .f64 z, .float .f64 m, .int .u8 t, .bool full], .slice none 0 0] w' fun e w2 => ∃ v2, e = .returned v2 ∧ Bf w'.heap.size w' none v2 out w2) :
    Calls Tryz.prog 68 #[.agg #[.float .f64 x, .float .f64 y, .float .f64 z, .float .f64 m, .int .u8 t, .bool full]] w fun e w' => e = .returned (.string ⟨out.toArray⟩) ∧ Below w.heap.size w w' := by
  have HH := Lib.hid (H (w.alloc (.cells #[.float .f64 x, .float .f64 y, .float .f64 z, .float .f64 m, .int .u8 t, .bool full] 63)) (bl_a1 w _))
  have HB := Lib.hid (bl_a1 w (.cells #[.float .f64 x, .float .f64 y, .float .f64 z, .float .f64 m, .int .u8 t, .bool full] 63))
  clear H
  go_enter Tryz.func68, Tryz.ntmps68
  go_wp2_with fail
  refine HH.out.mono ?_
  rintro _ w2 ⟨v2, rfl, hx2⟩
  have hs := hx2.str
  have Hx2 := Lib.hid (HB.out.trans (hx2.below.mono (by simp))); clear hx2
  go_wp2_with fail
  go_ret
  exact ⟨rfl, Hx2.out⟩
set_option maxHeartbeats 1000000 in
theorem c26_1 (out : List UInt8) (x y z m : Nat) (t : Int) (full : Bool) (b : Nat) (w : World) (hbl : b < w.heap.size) (q0 : w.cell? ⟨b, 0, none⟩ = some (.float .f64 x)) (q1 : w.cell? ⟨b, 1, none⟩ = some (.float .f64 y)) (q2 : w.cell? ⟨b, 2, none⟩ = some (.float .f64 z)) (q3 : w.cell? ⟨b, 3, none⟩ = some (.float .f64 m)) (q4 : w.cell? ⟨b, 4, none⟩ = some (.int .u8 t)) (q5 : w.cell? ⟨b, 5, none⟩ = some (.bool full))
    (H : ∀ w', Below w.heap.size w w' → Calls Tryz.prog 128 #[.agg #[.float .f64 x, .float .f64 y, .float .f64 z, .float .f64 m, .int .u8 t, .bool full], .slice none 0 0] w' fun e w2 => ∃ v2, e = .returned v2 ∧ Bf w'.heap.size w' none v2 out w2) :
    Calls Tryz.prog 26 #[.agg #[.int .i64 1, .iface 168 (.pointer (some ⟨b, 0, none⟩))]] w fun e w' => e = .returned (.string ⟨out.toArray⟩) ∧ Below w.heap.size w w' := by
  have HB := Lib.hid (bl_a1 w (.cells #[.int .i64 1, .iface 168 (.pointer (some ⟨b, 0, none⟩))] 47))
  have HD := Lib.hid (d67 x y z m t full b (w.alloc (.cells #[.int .i64 1, .iface 168 (.pointer (some ⟨b, 0, none⟩))] 47)) (by simp <;> omega) ((HB.out.cell (p := ⟨b, 0, none⟩) hbl).trans q0) ((HB.out.cell (p := ⟨b, 1, none⟩) hbl).trans q1) ((HB.out.cell (p := ⟨b, 2, none⟩) hbl).trans q2) ((HB.out.cell (p := ⟨b, 3, none⟩) hbl).trans q3) ((HB.out.cell (p := ⟨b, 4, none⟩) hbl).trans q4) ((HB.out.cell (p := ⟨b, 5, none⟩) hbl).trans q5))
  have HA := Lib.hid fun w1 (hw : Below w.heap.size w w1) => c68 out x y z m t full w1 (fun w' hb => H w' (hw.trans (hb.mono hw.size)))
  clear H q0 q1 q2 q3 q4 q5
  go_enter Tryz.func26, Tryz.ntmps26
  go_wp2_with fail
  refine HD.out.mono ?_
  rintro _ w1 ⟨rfl, hb1⟩
  have HB1 := Lib.hid (HB.out.trans (hb1.mono (by simp))); clear hb1
  go_wp2_with fail
  refine (HA.out _ HB1.out).mono ?_
  rintro _ w2 ⟨rfl, hb2⟩
  have HB2 := Lib.hid (HB1.out.trans (hb2.mono HB1.out.size)); clear hb2
  go_wp2_with fail
  go_ret
  exact ⟨rfl, HB2.out⟩
set_option maxHeartbeats 1000000 in
theorem c70 (out : List UInt8) (t : Int) (a : Option Addr) (n c : Nat) (w : World)
    (H : ∀ w', Below w.heap.size w w' → Calls Tryz.prog 129 #[.agg #[.int .u8 t, .slice a n c], .slice none 0 0] w' fun e w2 => ∃ v2, e = .returned v2 ∧ Bf w'.heap.size w' none v2 out w2) :
    Calls Tryz.prog 70 #[.agg #[.int .u8 t, .slice a n c]] w fun e w' => e = .returned (.string ⟨out.toArray⟩) ∧ Below w.heap.size w w' := by
  have HH := Lib.hid (H (w.alloc (.cells #[.int .u8 t, .slice a n c] 69)) (bl_a1 w _))
  have HB := Lib.hid (bl_a1 w (.cells #[.int .u8 t, .slice a n c] 69))
  clear H
  go_enter Tryz.func70, Tryz.ntmps70
  go_wp2_with fail
  refine HH.out.mono ?_
  rintro _ w2 ⟨v2, rfl, hx2⟩
  have hs := hx2.str
  have Hx2 := Lib.hid (HB.out.trans (hx2.below.mono (by simp))); clear hx2
  go_wp2_with fail
  go_ret
  exact ⟨rfl, Hx2.out⟩
set_option maxHeartbeats 1000000 in
theorem c26_2 (out : List UInt8) (t : Int) (a : Option Addr) (n c : Nat) (b : Nat) (w : World) (hbl : b < w.heap.size) (q0 : w.cell? ⟨b, 0, none⟩ = some (.int .u8 t)) (q1 : w.cell? ⟨b, 1, none⟩ = some (.slice a n c))
    (H : ∀ w', Below w.heap.size w w' → Calls Tryz.prog 129 #[.agg #[.int .u8 t, .slice a n c], .slice none 0 0] w' fun e w2 => ∃ v2, e = .returned v2 ∧ Bf w'.heap.size w' none v2 out w2) :
    Calls Tryz.prog 26 #[.agg #[.int .i64 2, .iface 169 (.pointer (some ⟨b, 0, none⟩))]] w fun e w' => e = .returned (.string ⟨out.toArray⟩) ∧ Below w.heap.size w w' := by
  have HB := Lib.hid (bl_a1 w (.cells #[.int .i64 2, .iface 169 (.pointer (some ⟨b, 0, none⟩))] 47))
  have HD := Lib.hid (d69 t a n c b (w.alloc (.cells #[.int .i64 2, .iface 169 (.pointer (some ⟨b, 0, none⟩))] 47)) (by simp <;> omega) ((HB.out.cell (p := ⟨b, 0, none⟩) hbl).trans q0) ((HB.out.cell (p := ⟨b, 1, none⟩) hbl).trans q1))
  have HA := Lib.hid fun w1 (hw : Below w.heap.size w w1) => c70 out t a n c w1 (fun w' hb => H w' (hw.trans (hb.mono hw.size)))
  clear H q0 q1
  go_enter Tryz.func26, Tryz.ntmps26
  go_wp2_with fail
  refine HD.out.mono ?_
  rintro _ w1 ⟨rfl, hb1⟩
  have HB1 := Lib.hid (HB.out.trans (hb1.mono (by simp))); clear hb1
  go_wp2_with fail
  refine (HA.out _ HB1.out).mono ?_
  rintro _ w2 ⟨rfl, hb2⟩
  have HB2 := Lib.hid (HB1.out.trans (hb2.mono HB1.out.size)); clear hb2
  go_wp2_with fail
  go_ret
  exact ⟨rfl, HB2.out⟩
set_option maxHeartbeats 1000000 in
theorem c72 (out : List UInt8) (t : Int) (a : Option Addr) (n c : Nat) (w : World)
    (H : ∀ w', Below w.heap.size w w' → Calls Tryz.prog 130 #[.agg #[.slice a n c, .int .u8 t], .slice none 0 0] w' fun e w2 => ∃ v2, e = .returned v2 ∧ Bf w'.heap.size w' none v2 out w2) :
    Calls Tryz.prog 72 #[.agg #[.slice a n c, .int .u8 t]] w fun e w' => e = .returned (.string ⟨out.toArray⟩) ∧ Below w.heap.size w w' := by
  have HH := Lib.hid (H (w.alloc (.cells #[.slice a n c, .int .u8 t] 73)) (bl_a1 w _))
  have HB := Lib.hid (bl_a1 w (.cells #[.slice a n c, .int .u8 t] 73))
  clear H
  go_enter Tryz.func72, Tryz.ntmps72
  go_wp2_with fail
  refine HH.out.mono ?_
  rintro _ w2 ⟨v2, rfl, hx2⟩
  have hs := hx2.str
  have Hx2 := Lib.hid (HB.out.trans (hx2.below.mono (by simp))); clear hx2
  go_wp2_with fail
  go_ret
  exact ⟨rfl, Hx2.out⟩
set_option maxHeartbeats 1000000 in
theorem c26_3 (out : List UInt8) (t : Int) (a : Option Addr) (n c : Nat) (b : Nat) (w : World) (hbl : b < w.heap.size) (q0 : w.cell? ⟨b, 0, none⟩ = some (.slice a n c)) (q1 : w.cell? ⟨b, 1, none⟩ = some (.int .u8 t))
    (H : ∀ w', Below w.heap.size w w' → Calls Tryz.prog 130 #[.agg #[.slice a n c, .int .u8 t], .slice none 0 0] w' fun e w2 => ∃ v2, e = .returned v2 ∧ Bf w'.heap.size w' none v2 out w2) :
    Calls Tryz.prog 26 #[.agg #[.int .i64 3, .iface 170 (.pointer (some ⟨b, 0, none⟩))]] w fun e w' => e = .returned (.string ⟨out.toArray⟩) ∧ Below w.heap.size w w' := by
  have HB := Lib.hid (bl_a1 w (.cells #[.int .i64 3, .iface 170 (.pointer (some ⟨b, 0, none⟩))] 47))
  have HD := Lib.hid (d71 t a n c b (w.alloc (.cells #[.int .i64 3, .iface 170 (.pointer (some ⟨b, 0, none⟩))] 47)) (by simp <;> omega) ((HB.out.cell (p := ⟨b, 0, none⟩) hbl).trans q0) ((HB.out.cell (p := ⟨b, 1, none⟩) hbl).trans q1))
  have HA := Lib.hid fun w1 (hw : Below w.heap.size w w1) => c72 out t a n c w1 (fun w' hb => H w' (hw.trans (hb.mono hw.size)))
  clear H q0 q1
  go_enter Tryz.func26, Tryz.ntmps26
  go_wp2_with fail
  refine HD.out.mono ?_
  rintro _ w1 ⟨rfl, hb1⟩
  have HB1 := Lib.hid (HB.out.trans (hb1.mono (by simp))); clear hb1
  go_wp2_with fail
  refine (HA.out _ HB1.out).mono ?_
  rintro _ w2 ⟨rfl, hb2⟩
  have HB2 := Lib.hid (HB1.out.trans (hb2.mono HB1.out.size)); clear hb2
  go_wp2_with fail
  go_ret
  exact ⟨rfl, HB2.out⟩
set_option maxHeartbeats 1000000 in
theorem c74 (out : List UInt8) (t : Int) (a : Option Addr) (n c : Nat) (w : World)
    (H : ∀ w', Below w.heap.size w w' → Calls Tryz.prog 131 #[.agg #[.slice a n c, .int .u8 t], .slice none 0 0] w' fun e w2 => ∃ v2, e = .returned v2 ∧ Bf w'.heap.size w' none v2 out w2) :
    Calls Tryz.prog 74 #[.agg #[.slice a n c, .int .u8 t]] w fun e w' => e = .returned (.string ⟨out.toArray⟩) ∧ Below w.heap.size w w' := by
  have HH := Lib.hid (H (w.alloc (.cells #[.slice a n c, .int .u8 t] 77)) (bl_a1 w _))
  have HB := Lib.hid (bl_a1 w (.cells #[.slice a n c, .int .u8 t] 77))
  clear H
  go_enter Tryz.func74, Tryz.ntmps74
  go_wp2_with fail
  refine HH.out.mono ?_
  rintro _ w2 ⟨v2, rfl, hx2⟩
  have hs := hx2.str
  have Hx2 := Lib.hid (HB.out.trans (hx2.below.mono (by simp))); clear hx2
  go_wp2_with fail
  go_ret
  exact ⟨rfl, Hx2.out⟩
set_option maxHeartbeats 1000000 in
theorem c26_4 (out : List UInt8) (t : Int) (a : Option Addr) (n c : Nat) (b : Nat) (w : World) (hbl : b < w.heap.size) (q0 : w.cell? ⟨b, 0, none⟩ = some (.slice a n c)) (q1 : w.cell? ⟨b, 1, none⟩ = some (.int .u8 t))
    (H : ∀ w', Below w.heap.size w w' → Calls Tryz.prog 131 #[.agg #[.slice a n c, .int .u8 t], .slice none 0 0] w' fun e w2 => ∃ v2, e = .returned v2 ∧ Bf w'.heap.size w' none v2 out w2) :
    Calls Tryz.prog 26 #[.agg #[.int .i64 4, .iface 171 (.pointer (some ⟨b, 0, none⟩))]] w fun e w' => e = .returned (.string ⟨out.toArray⟩) ∧ Below w.heap.size w w' := by
  have HB := Lib.hid (bl_a1 w (.cells #[.int .i64 4, .iface 171 (.pointer (some ⟨b, 0, none⟩))] 47))
  have HD := Lib.hid (d73 t a n c b (w.alloc (.cells #[.int .i64 4, .iface 171 (.pointer (some ⟨b, 0, none⟩))] 47)) (by simp <;> omega) ((HB.out.cell (p := ⟨b, 0, none⟩) hbl).trans q0) ((HB.out.cell (p := ⟨b, 1, none⟩) hbl).trans q1))
  have HA := Lib.hid fun w1 (hw : Below w.heap.size w w1) => c74 out t a n c w1 (fun w' hb => H w' (hw.trans (hb.mono hw.size)))
  clear H q0 q1
  go_enter Tryz.func26, Tryz.ntmps26
  go_wp2_with fail
  refine HD.out.mono ?_
  rintro _ w1 ⟨rfl, hb1⟩
  have HB1 := Lib.hid (HB.out.trans (hb1.mono (by simp))); clear hb1
  go_wp2_with fail
  refine (HA.out _ HB1.out).mono ?_
  rintro _ w2 ⟨rfl, hb2⟩
  have HB2 := Lib.hid (HB1.out.trans (hb2.mono HB1.out.size)); clear hb2
  go_wp2_with fail
  go_ret
  exact ⟨rfl, HB2.out⟩
set_option maxHeartbeats 1000000 in
theorem c76 (out : List UInt8) (t : Int) (a : Option Addr) (n c : Nat) (w : World)
    (H : ∀ w', Below w.heap.size w w' → Calls Tryz.prog 132 #[.agg #[.slice a n c, .int .u8 t], .slice none 0 0] w' fun e w2 => ∃ v2, e = .returned v2 ∧ Bf w'.heap.size w' none v2 out w2) :
    Calls Tryz.prog 76 #[.agg #[.slice a n c, .int .u8 t]] w fun e w' => e = .returned (.string ⟨out.toArray⟩) ∧ Below w.heap.size w w' := by
  have HH := Lib.hid (H (w.alloc (.cells #[.slice a n c, .int .u8 t] 80)) (bl_a1 w _))
  have HB := Lib.hid (bl_a1 w (.cells #[.slice a n c, .int .u8 t] 80))
  clear H
  go_enter Tryz.func76, Tryz.ntmps76
  go_wp2_with fail
  refine HH.out.mono ?_
  rintro _ w2 ⟨v2, rfl, hx2⟩
  have hs := hx2.str
  have Hx2 := Lib.hid (HB.out.trans (hx2.below.mono (by simp))); clear hx2
  go_wp2_with fail
  go_ret
  exact ⟨rfl, Hx2.out⟩
set_option maxHeartbeats 1000000 in
theorem c26_5 (out : List UInt8) (t : Int) (a : Option Addr) (n c : Nat) (b : Nat) (w : World) (hbl : b < w.heap.size) (q0 : w.cell? ⟨b, 0, none⟩ = some (.slice a n c)) (q1 : w.cell? ⟨b, 1, none⟩ = some (.int .u8 t))
    (H : ∀ w', Below w.heap.size w w' → Calls Tryz.prog 132 #[.agg #[.slice a n c, .int .u8 t], .slice none 0 0] w' fun e w2 => ∃ v2, e = .returned v2 ∧ Bf w'.heap.size w' none v2 out w2) :
    Calls Tryz.prog 26 #[.agg #[.int .i64 5, .iface 172 (.pointer (some ⟨b, 0, none⟩))]] w fun e w' => e = .returned (.string ⟨out.toArray⟩) ∧ Below w.heap.size w w' := by
  have HB := Lib.hid (bl_a1 w (.cells #[.int .i64 5, .iface 172 (.pointer (some ⟨b, 0, none⟩))] 47))
  have HD := Lib.hid (d75 t a n c b (w.alloc (.cells #[.int .i64 5, .iface 172 (.pointer (some ⟨b, 0, none⟩))] 47)) (by simp <;> omega) ((HB.out.cell (p := ⟨b, 0, none⟩) hbl).trans q0) ((HB.out.cell (p := ⟨b, 1, none⟩) hbl).trans q1))
  have HA := Lib.hid fun w1 (hw : Below w.heap.size w w1) => c76 out t a n c w1 (fun w' hb => H w' (hw.trans (hb.mono hw.size)))
  clear H q0 q1
  go_enter Tryz.func26, Tryz.ntmps26
  go_wp2_with fail
  refine HD.out.mono ?_
  rintro _ w1 ⟨rfl, hb1⟩
  have HB1 := Lib.hid (HB.out.trans (hb1.mono (by simp))); clear hb1
  go_wp2_with fail
  refine (HA.out _ HB1.out).mono ?_
  rintro _ w2 ⟨rfl, hb2⟩
  have HB2 := Lib.hid (HB1.out.trans (hb2.mono HB1.out.size)); clear hb2
  go_wp2_with fail
  go_ret
  exact ⟨rfl, HB2.out⟩
set_option maxHeartbeats 1000000 in
theorem c78 (out : List UInt8) (t : Int) (a : Option Addr) (n c : Nat) (w : World)
    (H : ∀ w', Below w.heap.size w w' → Calls Tryz.prog 133 #[.agg #[.slice a n c, .int .u8 t], .slice none 0 0] w' fun e w2 => ∃ v2, e = .returned v2 ∧ Bf w'.heap.size w' none v2 out w2) :
    Calls Tryz.prog 78 #[.agg #[.slice a n c, .int .u8 t]] w fun e w' => e = .returned (.string ⟨out.toArray⟩) ∧ Below w.heap.size w w' := by
  have HH := Lib.hid (H (w.alloc (.cells #[.slice a n c, .int .u8 t] 84)) (bl_a1 w _))
  have HB := Lib.hid (bl_a1 w (.cells #[.slice a n c, .int .u8 t] 84))
  clear H
  go_enter Tryz.func78, Tryz.ntmps78
  go_wp2_with fail
  refine HH.out.mono ?_
  rintro _ w2 ⟨v2, rfl, hx2⟩
  have hs := hx2.str
  have Hx2 := Lib.hid (HB.out.trans (hx2.below.mono (by simp))); clear hx2
  go_wp2_with fail
  go_ret
  exact ⟨rfl, Hx2.out⟩
set_option maxHeartbeats 1000000 in
theorem c26_6 (out : List UInt8) (t : Int) (a : Option Addr) (n c : Nat) (b : Nat) (w : World) (hbl : b < w.heap.size) (q0 : w.cell? ⟨b, 0, none⟩ = some (.slice a n c)) (q1 : w.cell? ⟨b, 1, none⟩ = some (.int .u8 t))
    (H : ∀ w', Below w.heap.size w w' → Calls Tryz.prog 133 #[.agg #[.slice a n c, .int .u8 t], .slice none 0 0] w' fun e w2 => ∃ v2, e = .returned v2 ∧ Bf w'.heap.size w' none v2 out w2) :
    Calls Tryz.prog 26 #[.agg #[.int .i64 6, .iface 173 (.pointer (some ⟨b, 0, none⟩))]] w fun e w' => e = .returned (.string ⟨out.toArray⟩) ∧ Below w.heap.size w w' := by
  have HB := Lib.hid (bl_a1 w (.cells #[.int .i64 6, .iface 173 (.pointer (some ⟨b, 0, none⟩))] 47))
  have HD := Lib.hid (d77 t a n c b (w.alloc (.cells #[.int .i64 6, .iface 173 (.pointer (some ⟨b, 0, none⟩))] 47)) (by simp <;> omega) ((HB.out.cell (p := ⟨b, 0, none⟩) hbl).trans q0) ((HB.out.cell (p := ⟨b, 1, none⟩) hbl).trans q1))
  have HA := Lib.hid fun w1 (hw : Below w.heap.size w w1) => c78 out t a n c w1 (fun w' hb => H w' (hw.trans (hb.mono hw.size)))
  clear H q0 q1
  go_enter Tryz.func26, Tryz.ntmps26
  go_wp2_with fail
  refine HD.out.mono ?_
  rintro _ w1 ⟨rfl, hb1⟩
  have HB1 := Lib.hid (HB.out.trans (hb1.mono (by simp))); clear hb1
  go_wp2_with fail
  refine (HA.out _ HB1.out).mono ?_
  rintro _ w2 ⟨rfl, hb2⟩
  have HB2 := Lib.hid (HB1.out.trans (hb2.mono HB1.out.size)); clear hb2
  go_wp2_with fail
  go_ret
  exact ⟨rfl, HB2.out⟩
set_option maxHeartbeats 1000000 in
theorem c66 (out : List UInt8) (t : Int) (a : Option Addr) (n c : Nat) (w : World)
    (H : ∀ w', Below w.heap.size w w' → Calls Tryz.prog 127 #[.agg #[.slice a n c, .int .u8 t], .slice none 0 0] w' fun e w2 => ∃ v2, e = .returned v2 ∧ Bf w'.heap.size w' none v2 out w2) :
    Calls Tryz.prog 66 #[.agg #[.slice a n c, .int .u8 t]] w fun e w' => e = .returned (.string ⟨out.toArray⟩) ∧ Below w.heap.size w w' := by
  have HH := Lib.hid (H (w.alloc (.cells #[.slice a n c, .int .u8 t] 104)) (bl_a1 w _))
  have HB := Lib.hid (bl_a1 w (.cells #[.slice a n c, .int .u8 t] 104))
  clear H
  go_enter Tryz.func66, Tryz.ntmps66
  go_wp2_with fail
  refine HH.out.mono ?_
  rintro _ w2 ⟨v2, rfl, hx2⟩
  have hs := hx2.str
  have Hx2 := Lib.hid (HB.out.trans (hx2.below.mono (by simp))); clear hx2
  go_wp2_with fail
  go_ret
  exact ⟨rfl, Hx2.out⟩
set_option maxHeartbeats 1000000 in
theorem c26_0 (out : List UInt8) (t : Int) (a : Option Addr) (n c : Nat) (b : Nat) (w : World) (hbl : b < w.heap.size) (q0 : w.cell? ⟨b, 0, none⟩ = some (.slice a n c)) (q1 : w.cell? ⟨b, 1, none⟩ = some (.int .u8 t))
    (H : ∀ w', Below w.heap.size w w' → Calls Tryz.prog 127 #[.agg #[.slice a n c, .int .u8 t], .slice none 0 0] w' fun e w2 => ∃ v2, e = .returned v2 ∧ Bf w'.heap.size w' none v2 out w2) :
    Calls Tryz.prog 26 #[.agg #[.int .i64 0, .iface 176 (.pointer (some ⟨b, 0, none⟩))]] w fun e w' => e = .returned (.string ⟨out.toArray⟩) ∧ Below w.heap.size w w' := by
  have HB := Lib.hid (bl_a1 w (.cells #[.int .i64 0, .iface 176 (.pointer (some ⟨b, 0, none⟩))] 47))
  have HD := Lib.hid (d65 t a n c b (w.alloc (.cells #[.int .i64 0, .iface 176 (.pointer (some ⟨b, 0, none⟩))] 47)) (by simp <;> omega) ((HB.out.cell (p := ⟨b, 0, none⟩) hbl).trans q0) ((HB.out.cell (p := ⟨b, 1, none⟩) hbl).trans q1))
  have HA := Lib.hid fun w1 (hw : Below w.heap.size w w1) => c66 out t a n c w1 (fun w' hb => H w' (hw.trans (hb.mono hw.size)))
  clear H q0 q1
  go_enter Tryz.func26, Tryz.ntmps26
  go_wp2_with fail
  refine HD.out.mono ?_
  rintro _ w1 ⟨rfl, hb1⟩
  have HB1 := Lib.hid (HB.out.trans (hb1.mono (by simp))); clear hb1
  go_wp2_with fail
  refine (HA.out _ HB1.out).mono ?_
  rintro _ w2 ⟨rfl, hb2⟩
  have HB2 := Lib.hid (HB1.out.trans (hb2.mono HB1.out.size)); clear hb2
  go_wp2_with fail
  go_ret
  exact ⟨rfl, HB2.out⟩
theorem c26 (tab : Nat → Int) (f : Nat → List UInt8) (hF : Prints tab f) (S : Nat → Prop) (g : Geo) (x : Value) (w : World) (hok : g.ok) (hT : Tabs tab w)
    (hlen : (geoB f g).length ≤ 70000000000000) (hx : GeoV S w g x) : Calls Tryz.prog 26 #[.agg #[.int .i64 g.kind, x]] w fun e w' => e = .returned (.string ⟨(geoB f g).toArray⟩) ∧ Below w.heap.size w w' := by
  obtain ⟨b, rfl⟩ := hx.shape
  have h6 := hT.lt
  have hx : GeoV (Old S w.heap.size) w g _ := Rd.old hx
  have hS : ∀ b, Old S w.heap.size b → b < w.heap.size := fun b hb => hb.2
  have hS' : ∀ w', Below w.heap.size w w' → ∀ b, Old S w.heap.size b → b < w'.heap.size := fun w' h b hb => Nat.lt_of_lt_of_le hb.2 h.size
  cases g with
  | pt p =>
    simp only [Geo.ok, geoB] at *
    obtain ⟨hbl, q0, q1, q2, q3, q4, q5⟩ := box_pt hx
    exact c26_1 _ _ _ _ _ _ _ b w hbl q0 q1 q2 q3 q4 q5 (fun w' h2 => c128 tab f hF w'.heap.size [] (.slice none 0 0) p.c.x p.c.y p.c.z p.c.m p.c.t p.full w' (hT.blw h2) (Nat.lt_of_lt_of_le h6 h2.size) (Bf.new w') (by simpa using hlen) hok.1 hok.2)
  | ln l =>
    simp only [Geo.ok, geoB] at *
    obtain ⟨hbl, a, c, q0, q1, hr⟩ := box_ln hx
    exact c26_2 _ _ _ _ _ b w hbl q0 q1 (fun w' h2 => c129 tab f hF w'.heap.size [] (.slice none 0 0) (Old S w.heap.size) l a c w' (hT.blw h2) (Nat.lt_of_lt_of_le h6 h2.size) (Bf.new w') (by simpa using hlen) hok (hS' w' h2) (hr.blw h2))
  | pg p =>
    simp only [Geo.ok, geoB] at *
    obtain ⟨hbl, a, c, q0, q1, hr⟩ := box_list hx
    rw [List.length_map] at q0 hr
    exact c26_3 _ _ _ _ _ b w hbl q0 q1 (fun w' h2 => c130 tab f hF w'.heap.size [] (.slice none 0 0) (Old S w.heap.size) p a c w' (hT.blw h2) (Nat.lt_of_lt_of_le h6 h2.size) (Bf.new w') (by simpa using hlen) hok (hS' w' h2) (hr.blw h2))
  | mp ps t =>
    simp only [Geo.ok, geoB] at *
    obtain ⟨hbl, a, c, q0, q1, hr⟩ := box_list (show Rd (Old S w.heap.size) w (.box 171 [.list (ps.map Pt.fs), .atom (.int .u8 t)]) _ from hx)
    rw [List.length_map] at q0 hr
    exact c26_4 _ _ _ _ _ b w hbl q0 q1 (fun w' h2 => c131 tab f hF w'.heap.size (Old S w.heap.size) [] (.slice none 0 0) ps t a c w' (hT.blw h2) (Nat.lt_of_lt_of_le h6 h2.size) (Bf.new w') (by simpa using hlen) hok.1 hok.2.2.1 hok.2.2.2 (hS' w' h2) (hr.blw h2))
  | ml ps t =>
    simp only [Geo.ok, geoB] at *
    obtain ⟨hbl, a, c, q0, q1, hr⟩ := box_list (show Rd (Old S w.heap.size) w (.box 172 [.list (ps.map Ln.fs), .atom (.int .u8 t)]) _ from hx)
    rw [List.length_map] at q0 hr
    exact c26_5 _ _ _ _ _ b w hbl q0 q1 (fun w' h2 => c132 tab f hF w'.heap.size (Old S w.heap.size) [] (.slice none 0 0) ps t a c w' (hT.blw h2) (Nat.lt_of_lt_of_le h6 h2.size) (Bf.new w') (by simpa using hlen) hok.1 hok.2.2.1 hok.2.2.2 (hS' w' h2) (hr.blw h2))
  | mg ps t =>
    simp only [Geo.ok, geoB] at *
    obtain ⟨hbl, a, c, q0, q1, hr⟩ := box_list (show Rd (Old S w.heap.size) w (.box 173 [.list (ps.map Pg.fs), .atom (.int .u8 t)]) _ from hx)
    rw [List.length_map] at q0 hr
    exact c26_6 _ _ _ _ _ b w hbl q0 q1 (fun w' h2 => c133 tab f hF w'.heap.size (Old S w.heap.size) [] (.slice none 0 0) ps t a c w' (hT.blw h2) (Nat.lt_of_lt_of_le h6 h2.size) (Bf.new w') (by simpa using hlen) hok.1 hok.2.2.1 hok.2.2.2 (hS' w' h2) (hr.blw h2))
  | gc gs t =>
    simp only [Geo.ok, geoB, geoBL_map] at *
    obtain ⟨hbl, a, c, q0, q1, hr⟩ := box_list (show Rd (Old S w.heap.size) w (.box 176 [.list (Geo.fsL gs), .atom (.int .u8 t)]) _ from hx)
    rw [Geo.fsL_map] at q0 hr
    rw [List.length_map] at q0 hr
    exact c26_0 _ _ _ _ _ b w hbl q0 q1 (fun w' h2 => c127 tab f hF w'.heap.size (Old S w.heap.size) [] (.slice none 0 0) gs t a c w' (fun j hj bs v x w2 hT hb hl hx => c180 tab f hF w'.heap.size (Old S w.heap.size) (Nat.lt_of_lt_of_le h6 h2.size) (hS' w' h2) _ gs[j] bs v x w2 (Nat.le_refl _) (Geo.okL_mem hok.1 _ (List.getElem_mem hj)) hT hb hl hx)
      (hT.blw h2) (Nat.lt_of_lt_of_le h6 h2.size) (Bf.new w') (by simpa using hlen) (Geo.okL_mem hok.1) hok.2.2.1 hok.2.2.2 (hS' w' h2) (hr.blw h2))
set_option maxHeartbeats 1000000 in
theorem c11 (tab : Nat → Int) (f : Nat → List UInt8) (hF : Prints tab f) (S : Nat → Prop) (g : G) (vn vk : Value) (w : World) (hok : g.ok) (hT : Tabs tab w) (hS : ∀ b, w.heap.size ≤ b → S b)
    (hlen : (geoB f (geoOf g)).length ≤ 70000000000000) (hn : Rd S w (fl g.nums) vn) (hk : Rd S w (.list (G.fsL g.kids)) vk) :
    Calls Tryz.prog 11 #[.agg #[.int .i64 g.kind, .int .i64 g.dim, vn, vk]] w fun e w' => e = .returned (.string ⟨(geoB f (geoOf g)).toArray⟩) ∧ Below w.heap.size w w' := by
  obtain ⟨an, cn, rfl⟩ := fl_shape hn
  obtain ⟨ak, ck, rfl⟩ := kids_shape hk
  have HB := Lib.hid (bl_a1 w (.cells #[.int .i64 g.kind, .int .i64 g.dim, .slice an g.nums.length cn, .slice ak g.kids.length ck] 25))
  have HM := Lib.hid (made g.size g (Nat.le_refl _) hok S (.slice an g.nums.length cn) (.slice ak g.kids.length ck) (w.alloc (.cells #[.int .i64 g.kind, .int .i64 g.dim, .slice an g.nums.length cn, .slice ak g.kids.length ck] 25)) (fun b hb => hS b (by simp at hb; omega)) (hn.alloc _) (hk.alloc _))
  have H26 := Lib.hid fun x w1 (hb : Below w.heap.size w w1) (hx : GeoV S w1 (geoOf g) x) => c26 tab f hF S (geoOf g) x w1 (geoOf_ok g hok) (hT.blw hb) hlen hx
  clear hn hk
  go_enter Tryz.func11, Tryz.ntmps11
  go_wp2_with fail
  refine HM.out.mono ?_
  rintro _ w1 ⟨b', rfl, hx, hb1⟩
  have HB1 := Lib.hid (HB.out.trans (hb1.mono (by simp)))
  have Hx := Lib.hid hx
  clear hx hb1
  go_wp2_with fail
  refine (H26.out _ _ HB1.out Hx.out).mono ?_
  rintro _ w2 ⟨rfl, hb2⟩
  have HB2 := Lib.hid (HB1.out.trans (hb2.mono HB1.out.size)); clear hb2
  go_wp2_with fail
  go_ret
  exact ⟨rfl, HB2.out⟩
end Go.Proofs.YtahnhhkbdgaidaaGreatDoor
namespace Go.Proofs.YtahnhhkbdgaidaaGreatDoor
open Go.RowKit
mutual
/-- All types of coordinates are ones. -/
def G.dimok : G → Prop
  | .mk _ d _ ks => 0 ≤ d ∧ d ≤ 3 ∧ G.dimokL ks
def G.dimokL : List G → Prop
  | [] => True
  | g :: r => g.dimok ∧ G.dimokL r
end
theorem G.dimokL_of : ∀ {l : List G}, (∀ g ∈ l, g.dimok) → G.dimokL l
  | [], _ => by simp [G.dimokL]
  | a :: r, h => by
    simp only [G.dimokL]
    exact ⟨h a (by simp), G.dimokL_of fun g hg => h g (by simp [hg])⟩
theorem G.pw_pos : ∀ (g : G), 1 ≤ g.pw
  | .mk _ d ns ks => by simp only [G.pw]; generalize ns.length / dN d = q; omega
theorem G.pwL_len : ∀ l : List G, l.length ≤ G.pwL l
  | [] => by simp
  | g :: r => by have := G.pwL_len r; have := g.pw_pos; simp only [G.pwL, List.length_cons]; omega
mutual
theorem fine_of : ∀ g : G, g.dimok → g.pw ≤ 200000 → g.fine
  | .mk k d ns ks, h, hp => by
    simp only [G.dimok] at h
    simp only [G.pw] at hp
    simp only [G.fine]
    have hd := dN_bd d
    have h1 := Nat.div_add_mod ns.length (dN d)
    have h2 := Nat.mod_lt ns.length (show 0 < dN d by omega)
    have h3 := G.pwL_len ks
    have h4 : dN d * (ns.length / dN d) ≤ 4 * 200000 := Nat.mul_le_mul (by omega) (by generalize ns.length / dN d = q at *; omega)
    have h5 : G.pwL ks ≤ 200000 := by generalize ns.length / dN d = q at *; omega
    clear hp
    generalize dN d * (ns.length / dN d) = z at *
    exact ⟨h.1, h.2.1, by omega, by omega, fineL_of ks h.2.2 h5⟩
theorem fineL_of : ∀ l : List G, G.dimokL l → G.pwL l ≤ 200000 → G.fineL l
  | [], _, _ => by simp [G.fineL]
  | g :: r, h, hp => by
    simp only [G.dimokL] at h
    simp only [G.pwL] at hp
    simp only [G.fineL]
    exact ⟨fine_of g h.1 (by omega), fineL_of r h.2 (by omega)⟩
end
theorem ptG_dimok (p : Pt) (h : p.ok) : (ptG p).dimok := by simp only [ptG, G.dimok, G.dimokL]; exact ⟨h.1, h.2, trivial⟩
theorem lnG_dimok (p : Ln) (h : p.ok) : (lnG p).dimok := by simp only [lnG, G.dimok, G.dimokL]; exact ⟨h.1, h.2.1, trivial⟩
theorem mapG_dimok {α : Type} (f : α → G) (l : List α) (h : ∀ x ∈ l, (f x).dimok) : G.dimokL (l.map f) := G.dimokL_of fun g hg => by obtain ⟨x, hx, rfl⟩ := List.mem_map.1 hg; exact h x hx
theorem pgG_dimok (p : Pg) (h : p.ok) : (pgG p).dimok := by simp only [pgG, G.dimok]; exact ⟨h.2.2.1, h.2.2.2, mapG_dimok _ _ fun l hl => lnG_dimok l (h.1 l hl)⟩
mutual
theorem toG_dimok : ∀ g : Geo, g.ok → g.toG.dimok
  | .pt p, h => by simp only [Geo.ok] at h; simp only [Geo.toG]; exact ptG_dimok p h
  | .ln p, h => by simp only [Geo.ok] at h; simp only [Geo.toG]; exact lnG_dimok p h
  | .pg p, h => by simp only [Geo.ok] at h; simp only [Geo.toG]; exact pgG_dimok p h
  | .mp ps t, h => by simp only [Geo.ok] at h; simp only [Geo.toG, G.dimok]; exact ⟨h.2.2.1, h.2.2.2, mapG_dimok _ _ fun l hl => ptG_dimok l (h.1 l hl)⟩
  | .ml ps t, h => by simp only [Geo.ok] at h; simp only [Geo.toG, G.dimok]; exact ⟨h.2.2.1, h.2.2.2, mapG_dimok _ _ fun l hl => lnG_dimok l (h.1 l hl)⟩
  | .mg ps t, h => by simp only [Geo.ok] at h; simp only [Geo.toG, G.dimok]; exact ⟨h.2.2.1, h.2.2.2, mapG_dimok _ _ fun l hl => pgG_dimok l (h.1 l hl)⟩
  | .gc gs t, h => by simp only [Geo.ok] at h; simp only [Geo.toG, G.dimok]; exact ⟨h.2.2.1, h.2.2.2, toGL_dimok gs h.1⟩
theorem toGL_dimok : ∀ l : List Geo, Geo.okL l → G.dimokL (Geo.toGL l)
  | [], _ => by simp [Geo.toGL, G.dimokL]
  | g :: r, h => by
    simp only [Geo.okL] at h
    simp only [Geo.toGL, G.dimokL]
    exact ⟨toG_dimok g h.1, toGL_dimok r h.2⟩
end
theorem newG_dimok (g : G) (h : g.ok) : (newG g).dimok := by rw [newG_geo g h]; exact toG_dimok _ (geoOf_ok g h)
theorem G.dimok_dim (g : G) (h : g.dimok) : 0 ≤ g.dim ∧ g.dim ≤ 3 := by cases g; simp only [G.dimok] at h; exact ⟨h.1, h.2.1⟩
theorem newG_fine (g : G) (h : g.wt ≤ 200000) : (newG g).fine := fine_of _ (newG_dimok g (wt_ok g (by omega))) (by have := newG_pw g; omega)
theorem wt_kid : ∀ (l : List G) (i : Nat) (h : i < l.length), (l[i]).wt ≤ G.wtL l
  | [], _, h => absurd h (by simp)
  | g :: r, 0, _ => by simp [G.wtL]
  | g :: r, i + 1, h => by
    have := wt_kid r i (by simpa using h)
    simp only [List.getElem_cons_succ, G.wtL]
    omega
theorem c13 : ∀ (m : Nat) (g : G) (S : Nat → Prop) (vn vk : Value) (w : World), g.size ≤ m → g.wt ≤ 200000 → (∀ b, w.heap.size ≤ b → S b) → Rd S w (fl g.nums) vn → Rd S w (.list (G.fsL g.kids)) vk → CapG w g vn vk →
    Calls Tryz.prog 13 #[.agg #[.int .i64 g.kind, .int .i64 g.dim, vn, vk]] w (NewR S w (newG g)) := by
  intro m
  induction m with
  | zero => intro g _ _ _ _ h; have := G.size_eq g; omega
  | succ m ih =>
  intro g S vn vk w hm hw hS hn hk hcap
  obtain ⟨k, d, ns, ks⟩ := g
  simp only [G.kind, G.dim, G.nums, G.kids] at hn hk ⊢
  simp only [G.size] at hm
  simp only [G.wt] at hw
  simp only [CapG] at hcap
  obtain ⟨⟨an, cn, rfl, hcl, hnil⟩, hkc⟩ := hcap
  obtain ⟨ak, ck, rfl⟩ := kids_shape hk
  have hokL := (wtL_ok ks (by omega)).1
  have hkl := (wtL_ok ks (by omega)).2
  by_cases h1 : k = 1
  · subst h1
    refine (c13_1 S d ns an ak cn _ ck w (by omega) hcl hnil hS hn).mono fun e w' ⟨a1, c1, he, hr, hb⟩ => ?_
    have e1 : newG (.mk 1 d ns ks) = .mk 1 (d % 4) (leafN 1 (d % 4) ns) [] := by simp [newG, kindOf]
    rw [e1]
    exact ⟨a1, c1, none, 0, he, hr, by simp only [G.kids, G.fsL]; exact .nil _ _, hb⟩
  by_cases h2 : k = 2
  · subst h2
    refine (c13_2 S d ns an ak cn _ ck w (by omega) hcl hnil hS hn).mono fun e w' ⟨a1, c1, he, hr, hb⟩ => ?_
    have e1 : newG (.mk 2 d ns ks) = .mk 2 (d % 4) (leafN 2 (d % 4) ns) [] := by simp [newG, kindOf]
    rw [e1]
    exact ⟨a1, c1, none, 0, he, hr, by simp only [G.kids, G.fsL]; exact .nil _ _, hb⟩
  have IH := fun (j : Nat) (hj : j < ks.length) (S : Nat → Prop) (vn vk : Value) (w : World) (hS : ∀ b, w.heap.size ≤ b → S b) (hn : Rd S w (fl (ks[j]).nums) vn) (hk : Rd S w (.list (G.fsL (ks[j]).kids)) vk) (hc : CapG w ks[j] vn vk) =>
    ih ks[j] S vn vk w (by have := G.size_kid ks j hj; omega) (by have := wt_kid ks j hj; omega) hS hn hk hc
  have hdims : ∀ g ∈ ks, 0 ≤ (newG g).dim ∧ (newG g).dim ≤ 3 := fun g hg => G.dimok_dim _ (newG_dimok g (G.okL_mem hokL g hg))
  have hfine : ∀ kk, (G.mk kk (d % 4) [] ((ks.map newG).filter (fitG kk))).fine := fun kk => by
    refine fine_of _ ?_ ?_
    · simp only [G.dimok]
      exact ⟨(dim_bd d).1, (dim_bd d).2, G.dimokL_of fun g hg => by
        obtain ⟨x, hx, rfl⟩ := List.mem_map.1 (List.mem_filter.1 hg).1
        exact newG_dimok x (G.okL_mem hokL x hx)⟩
    · have h1 := pwL_filter (fitG kk) (ks.map newG)
      have h2 := newGL_pw ks
      rw [newGL_map] at h2
      simp only [G.pw, List.length_nil, Nat.zero_div]; omega
  by_cases hneg : k < 0
  · rw [newG_part k d ns ks 0 (by simp [kindOf, hneg]) (by omega)]
    exact c13_neg S k d ks an ak _ cn ck w hneg (by omega) (hfine 0) hdims IH hS hk hkc
  by_cases hbig : 6 < k
  · rw [newG_part k d ns ks 0 (by simp [kindOf, hbig]) (by omega)]
    exact c13_big S k d ks an ak _ cn ck w hbig (by omega) (hfine 0) hdims IH hS hk hkc
  by_cases hz : k = 0
  · subst hz
    rw [newG_part 0 d ns ks 0 (by decide) (by omega)]
    exact c13_zero S 0 d ks an ak _ cn ck w (by omega) (hfine 0) hdims IH hS hk hkc
  · rw [newG_part k d ns ks k (by unfold kindOf; rw [if_neg (by omega)]) (by omega)]
    have hq : 0 ≤ kidOf k := by
      have : k = 3 ∨ k = 4 ∨ k = 5 ∨ k = 6 := by omega
      rcases this with rfl | rfl | rfl | rfl <;> decide
    exact c13_part S k d ks an ak _ cn ck w (by omega) (by omega) h1 h2 (kidOf k) rfl hq (by omega) (hfine k) hdims IH hS hk hkc
end Go.Proofs.YtahnhhkbdgaidaaGreatDoor
namespace Go.Proofs.YtahnhhkbdgaidaaGreatDoor
open Go.RowKit
set_option maxRecDepth 100000
theorem e23 (x : Nat) : ∃ b, ∀ w, Calls Tryz.prog 23 #[.float .f64 x] w fun e w' => e = .returned (.bool b) ∧ w = w' := by
  apply Exists.intro
  intro w
  go_enter Tryz.func23, Tryz.ntmps23
  go_wp2
  go_ret
  exact ⟨rfl, rfl⟩
theorem e56 (x : Nat) : ∃ y, ∀ w, Calls Tryz.prog 56 #[.float .f64 x] w fun e w' => e = .returned (.float .f64 y) ∧ w = w' := by
  have h1 := x122
  have h2 := x123
  apply Exists.intro
  intro w
  go_enter Tryz.func56, Tryz.ntmps56
  go_wp2
  go_ret
  exact ⟨rfl, rfl⟩
theorem e24 (x : Nat) : ∃ b, ∀ w, Calls Tryz.prog 24 #[.float .f64 x, .int .i64 0] w fun e w' => e = .returned (.bool b) ∧ w = w' := by
  obtain ⟨y, hy⟩ := e56 x
  apply Exists.intro
  intro w
  go_enter Tryz.func24, Tryz.ntmps24
  go_wp2_with (go_at_call 56; refine (hy _).mono ?_; rintro e w' ⟨rfl, rfl⟩)
  go_ret
  exact ⟨rfl, rfl⟩
theorem e10 (x : Nat) : ∃ b, ∀ w, Calls Tryz.prog 10 #[.float .f64 x] w fun e w' => e = .returned (.bool b) ∧ w = w' := by
  obtain ⟨b1, h1⟩ := e23 x
  obtain ⟨b2, h2⟩ := e24 x
  cases b1
  · apply Exists.intro
    intro w
    go_enter Tryz.func10, Tryz.ntmps10
    go_wp2_with (first | (go_at_call 23; refine (h1 _).mono ?_; rintro e w' ⟨rfl, rfl⟩) | (go_at_call 24; refine (h2 _).mono ?_; rintro e w' ⟨rfl, rfl⟩))
    go_ret
    exact ⟨rfl, rfl⟩
  · apply Exists.intro
    intro w
    go_enter Tryz.func10, Tryz.ntmps10
    go_wp2_with (first | (go_at_call 23; refine (h1 _).mono ?_; rintro e w' ⟨rfl, rfl⟩) | (go_at_call 24; refine (h2 _).mono ?_; rintro e w' ⟨rfl, rfl⟩))
    go_ret
    exact ⟨rfl, rfl⟩
/-- The answer for one number. -/
noncomputable def finB (x : Nat) : Bool := Classical.choose (e10 x)
theorem d10 (x : Nat) (w : World) : Calls Tryz.prog 10 #[.float .f64 x] w fun e w' => e = .returned (.bool (finB x)) ∧ w = w' := Classical.choose_spec (e10 x) w
mutual
noncomputable def allB : G → Bool
  | .mk _ _ ns ks => ns.all finB && allBL ks
noncomputable def allBL : List G → Bool
  | [] => true
  | g :: r => allB g && allBL r
end
theorem allBL_map : ∀ l : List G, allBL l = l.all allB
  | [] => by simp [allBL]
  | g :: r => by simp [allBL, allBL_map r]
theorem allB_num (k d : Int) (ns : List Nat) (ks : List G) (j : Nat) (h : j < ns.length) (hf : finB ns[j] = false) : allB (.mk k d ns ks) = false := by
  have : ns.all finB = false := by rw [List.all_eq_false]; exact ⟨ns[j], List.getElem_mem h, by simp [hf]⟩
  simp [allB, this]
theorem allB_kid (k d : Int) (ns : List Nat) (ks : List G) (j : Nat) (h : j < ks.length) (hf : allB ks[j] = false) : allB (.mk k d ns ks) = false := by
  have : ks.all allB = false := by rw [List.all_eq_false]; exact ⟨ks[j], List.getElem_mem h, by simp [hf]⟩
  simp [allB, allBL_map, this]
theorem allB_all (k d : Int) (ns : List Nat) (ks : List G) (hn : ∀ j (h : j < ns.length), finB ns[j] = true) (hk : ∀ j (h : j < ks.length), allB ks[j] = true) : allB (.mk k d ns ks) = true := by
  simp only [allB, allBL_map, Bool.and_eq_true, List.all_eq_true]
  exact ⟨fun x hx => by obtain ⟨j, h, rfl⟩ := List.getElem_of_mem hx; exact hn j h, fun x hx => by obtain ⟨j, h, rfl⟩ := List.getElem_of_mem hx; exact hk j h⟩
theorem d9 (S : Nat → Prop) : ∀ (m : Nat) (g : G) (vn vk : Value) (w : World), g.size ≤ m →
    Rd S w (fl g.nums) vn → Rd S w (.list (G.fsL g.kids)) vk →
    Calls Tryz.prog 9 #[.agg #[.int .i64 g.kind, .int .i64 g.dim, vn, vk], .func (.func 10) #[] #[]] w fun e w' => e = .returned (.bool (allB g)) ∧ Below w.heap.size w w' := by
  intro m
  induction m with
  | zero => intro g _ _ _ h; rw [G.size_eq] at h; omega
  | succ m ih =>
    intro g vn vk w hm hn hk
    cases g with
    | mk k d ns ks =>
    simp only [G.kind, G.dim, G.nums, G.kids] at *
    obtain ⟨an, cn, rfl, hnm, hnum⟩ := fl_inv hn
    obtain ⟨ak, ck, rfl, hkm, hkid⟩ := kids_inv hk
    have HN := Lib.hid (allB_num k d ns ks); have HK := Lib.hid (allB_kid k d ns ks); have HA := Lib.hid (allB_all k d ns ks)
    generalize allB (.mk k d ns ks) = ans at *
    go_enter Tryz.func9, Tryz.ntmps9
    go_wp2_with fail
    go_loopw [12] (fun i wr => ∃ j : Nat, j ≤ ns.length ∧ i = .int .i64 j ∧ Hid (∀ p (h : p < ns.length), p < j → finB ns[p] = true) ∧ Below (w.heap.size + 1) (w.alloc (.cells #[.int .i64 k, .int .i64 d, .slice an ns.length cn, .slice ak ks.length ck] 25)) wr) (fun i _ => ns.length - (intOf i).toNat)
    case atStart => exact ⟨0, Nat.zero_le _, rfl, Lib.hid (fun p _ h => absurd h (by omega)), by simpa using Below.refl _ _⟩
    case round =>
      obtain ⟨j, hj, rfl, hpre, hB⟩ := hrel
      have hBw : Below w.heap.size w wr := bl_box1 hB
      have hB1 := (bl_cells hB).1
      by_cases hlt : j < ns.length
      · obtain ⟨b, off, rfl, _, hb, k0⟩ := hnum j hlt
        have H10 := Lib.hid (d10 ns[j])
        have HNj := Lib.hid (HN.out j hlt)
        have Hnx : Hid (finB ns[j] = true → ∀ p (h : p < ns.length), p < j + 1 → finB ns[p] = true) := Lib.hid fun h p hp hpj => by
          by_cases e : p < j
          · exact hpre.out p hp e
          · obtain rfl : p = j := by omega
            exact h
        generalize finB ns[j] = fb at *
        cases fb
        · have HE := Lib.hid (HNj.out rfl)
          go_wp2_with (go_at_call 10; refine (H10.out _).mono ?_; rintro e w' ⟨rfl, rfl⟩)
          go_ret
          exact ⟨by rw [HE.out]; rfl, hBw⟩
        · go_wp2_with (go_at_call 10; refine (H10.out _).mono ?_; rintro e w' ⟨rfl, rfl⟩)
          go_roundw
          case rel => exact ⟨j + 1, by omega, by go_num, Lib.hid (Hnx.out trivial), hB⟩
          case measure => simp [intOf]; omega
      · have hdl : decide ((j : Int) < ns.length) = false := by simp; omega
        have Hall : Hid (∀ p (h : p < ns.length), finB ns[p] = true) := Lib.hid fun p hp => hpre.out p hp (by omega)
        clear hpre
        go_wp2_with fail
        go_loopw [24] (fun i wr => ∃ j : Nat, j ≤ ks.length ∧ i = .int .i64 j ∧ Hid (∀ p (h : p < ks.length), p < j → allB ks[p] = true) ∧ Below (w.heap.size + 1) (w.alloc (.cells #[.int .i64 k, .int .i64 d, .slice an ns.length cn, .slice ak ks.length ck] 25)) wr) (fun i _ => ks.length - (intOf i).toNat)
        case atStart => exact ⟨0, Nat.zero_le _, rfl, Lib.hid (fun p _ h => absurd h (by omega)), hB⟩
        case round =>
          clear hB hBw hB1
          obtain ⟨i, hi, rfl, hpre, hB⟩ := hrel
          by_cases hlt : i < ks.length
          · obtain ⟨b, off, vn, vk, rfl, _, hb, k0, k1, k2, k3, r2, r3⟩ := hkid i hlt
            have hsm : (ks[i]).size ≤ m := by have := G.size_kid ks i hlt; simp only [G.size] at hm; omega
            have hBw : Below w.heap.size w wr := (bl_box1 hB)
            have hc := (bl_cells hBw).1
            have q2 := r2.blw hBw
            have q3 := r3.blw hBw
            obtain ⟨an', cn', rfl⟩ := fl_shape r2
            obtain ⟨ak', ck', rfl⟩ := kids_shape r3
            have HKj := Lib.hid (HK.out i hlt)
            have Hnx : Hid (allB ks[i] = true → ∀ p (h : p < ks.length), p < i + 1 → allB ks[p] = true) := Lib.hid fun h p hp hpj => by
              by_cases e : p < i
              · exact hpre.out p hp e
              · obtain rfl : p = i := by omega
                exact h
            go_wp2_with fail
            refine (ih (ks[i]) _ _ _ hsm (q2.alloc _) (q3.alloc _)).mono ?_
            rintro e w1 ⟨rfl, hb1⟩
            generalize allB ks[i] = fb at *
            cases fb
            · have HE := Lib.hid (HKj.out rfl)
              go_wp2_with fail
              go_ret
              exact ⟨by rw [HE.out]; rfl, hBw.trans (((Below.refl _ _).alloc hBw.size _).trans (hb1.mono (by have := hBw.size; simp; omega)))⟩
            · go_wp2_with fail
              go_roundw
              case rel => exact ⟨i + 1, by omega, by go_num, Lib.hid (Hnx.out trivial), hB.trans (((Below.refl _ _).alloc (by simpa using hB.size) _).trans (hb1.mono (by have := hB.size; simp at this ⊢; omega)))⟩
              case measure => simp [intOf]; omega
          · have hdl : decide ((i : Int) < ks.length) = false := by simp; omega
            have HE : Hid (ans = true) := Lib.hid (HA.out Hall.out (fun p hp => hpre.out p hp (by omega)))
            go_wp2_with fail
            go_ret
            exact ⟨by rw [HE.out]; rfl, (bl_box1 hB)⟩
end Go.Proofs.YtahnhhkbdgaidaaGreatDoor
namespace Go.Proofs.YtahnhhkbdgaidaaGreatDoor
open Go.RowKit
set_option maxRecDepth 100000
set_option maxHeartbeats 2000000 in
theorem c3 (tab : Nat → Int) (S : Nat → Prop) (g : G) (vn vk : Value) (w : World) (hT : Tabs tab w) (hS : ∀ b, w.heap.size ≤ b → S b) (hn : Rd S w (fl g.nums) vn) (hk : Rd S w (.list (G.fsL g.kids)) vk) (hcap : CapG w g vn vk) :
    Calls Tryz.prog 3 #[.agg #[.int .i64 g.kind, .int .i64 g.dim, vn, vk]] w fun e w' => e = .returned (.bool true) ∧ Below w.heap.size w w' := by
  obtain ⟨an, cn, rfl⟩ := fl_shape hn
  obtain ⟨ak, ck, rfl⟩ := kids_shape hk
  have HB0 := Lib.hid (bl_a1 w (.cells #[.int .i64 g.kind, .int .i64 g.dim, .slice an g.nums.length cn, .slice ak g.kids.length ck] 25))
  have L0 := Lb.new w #[.int .i64 g.kind, .int .i64 g.dim, .slice an g.nums.length cn, .slice ak g.kids.length ck] 25
  have HL0 := Lib.hid L0
  have H7 := Lib.hid (c7 g.kind g.dim an ak g.nums.length g.kids.length cn ck (w.alloc (.cells #[.int .i64 g.kind, .int .i64 g.dim, .slice an g.nums.length cn, .slice ak g.kids.length ck] 25)))
  clear L0
  generalize decide (g.nums.length ≤ 2147483647 ∧ g.kids.length ≤ 2147483647) = fits at *
  cases fits
  · go_enter Tryz.func3, Tryz.ntmps3
    go_wp2_with fail
    refine H7.out.mono ?_
    rintro _ w1 ⟨rfl, hb1⟩
    have HB1 := Lib.hid (HB0.out.trans (hb1.mono (by simp)))
    clear hb1
    go_wp2_with fail
    go_ret
    exact ⟨rfl, HB1.out⟩
  have H8 : Hid (∀ (b : Nat) (w' : World), b < w'.heap.size → Lb w' b #[.int .i64 g.kind, .int .i64 g.dim, .slice an g.nums.length cn, .slice ak g.kids.length ck] 25 → Below w.heap.size w w' → Calls Tryz.prog 8 #[.slice (some ⟨b, 0, none⟩) 1 1] w' fun e w'' => e = .returned (.bool (decide (0 ≤ gw g 2000))) ∧ Below w'.heap.size w' w'') := Lib.hid fun b w' hb hL hbl =>
    c8 S g _ _ b w' hb (hL.use.1 0) (hL.use.1 1) (hL.use.1 2) (hL.use.1 3) (hn.blw hbl) (hk.blw hbl)
  have H9 : Hid (∀ w', Below w.heap.size w w' → Calls Tryz.prog 9 #[.agg #[.int .i64 g.kind, .int .i64 g.dim, .slice an g.nums.length cn, .slice ak g.kids.length ck], .func (.func 10) #[] #[]] w' fun e w'' => e = .returned (.bool (allB g)) ∧ Below w'.heap.size w' w'') := Lib.hid fun w' hbl =>
    d9 S g.size g _ _ w' (Nat.le_refl _) (hn.blw hbl) (hk.blw hbl)
  by_cases hsm : 0 ≤ gw g 2000
  · have hsb : decide (0 ≤ gw g 2000) = true := by simpa using hsm
    rw [hsb] at H8
    obtain ⟨elaw, hlen, hok⟩ := text_law (ftxt tab) (ftxt_len tab) g hsm
    have hwt : g.wt ≤ 2000 := by have := gw_wt g 2000 hsm; omega
    have H11 : Hid (∀ w', Below w.heap.size w w' → Calls Tryz.prog 11 #[.agg #[.int .i64 g.kind, .int .i64 g.dim, .slice an g.nums.length cn, .slice ak g.kids.length ck]] w' fun e w'' => e = .returned (.string ⟨(geoB (ftxt tab) (geoOf g)).toArray⟩) ∧ Below w'.heap.size w' w'') := Lib.hid fun w' hbl =>
      c11 tab (ftxt tab) (prints tab) S g _ _ w' hok (hT.blw hbl) (fun b hb => hS b (Nat.le_trans hbl.size hb)) (by omega) (hn.blw hbl) (hk.blw hbl)
    have H13 : Hid (∀ w', Below w.heap.size w w' → Calls Tryz.prog 13 #[.agg #[.int .i64 g.kind, .int .i64 g.dim, .slice an g.nums.length cn, .slice ak g.kids.length ck]] w' (NewR S w' (newG g))) := Lib.hid fun w' hbl =>
      c13 g.size g S _ _ w' (Nat.le_refl _) (by omega) (fun b hb => hS b (Nat.le_trans hbl.size hb)) (hn.blw hbl) (hk.blw hbl) (CapG.blw hbl g _ _ hcap)
    have hfine : (newG g).fine := newG_fine g (by omega)
    have H12 : Hid (∀ w', Below w.heap.size w w' → ∀ (vn vk : Value), Rd S w' (fl (newG g).nums) vn → Rd S w' (.list (G.fsL (newG g).kids)) vk → Calls Tryz.prog 12 #[.agg #[.int .i64 (newG g).kind, .int .i64 (newG g).dim, vn, vk]] w' (TextR w' (geoB (ftxt tab) (geoOf g)))) := Lib.hid fun w' hbl vn vk h1 h2 => by
      rw [← elaw]
      exact c12_all tab (ftxt tab) (prints tab) (newG g) S vn vk w' (hT.blw hbl) hfine (by rw [elaw]; omega) h1 h2
    generalize geoB (ftxt tab) (geoOf g) = T at *
    generalize newG g = m at *
    clear hn hk hcap hT hsm elaw hok hwt hfine hsb
    generalize allB g = fin at *
    cases fin
    · skip
      go_enter Tryz.func3, Tryz.ntmps3
      go_wp2_with fail
      refine H7.out.mono ?_
      rintro _ w1 ⟨rfl, hb1⟩
      have HL1 := Lib.hid (HL0.out.blw hb1)
      obtain ⟨kb, _, ltb⟩ := HL1.out.use
      have HB1 := Lib.hid (HB0.out.trans (hb1.mono (by simp)))
      clear hb1
      have hbC : Below w1.heap.size w1 ((w1.alloc (.cells #[.int .i64 g.kind, .int .i64 g.dim, .slice an g.nums.length cn, .slice ak g.kids.length ck] 25)).drew) := (bl_a1 w1 _).drew
      have HBC := Lib.hid (HB1.out.trans (hbC.mono HB1.out.size))
      have HLC := Lib.hid (HL1.out.blw hbC)
      have H8a := Lib.hid (H8.out w1.heap.size ((w1.alloc (.cells #[.int .i64 g.kind, .int .i64 g.dim, .slice an g.nums.length cn, .slice ak g.kids.length ck] 25)).drew) (by simp [World.drew]) ((Lb.new w1 #[.int .i64 g.kind, .int .i64 g.dim, .slice an g.nums.length cn, .slice ak g.kids.length ck] 25).drewN 1) HBC.out)
      clear hbC
      go_wp2_with fail
      go_region_with (first
          | (go_at_call 8; refine H8a.out.mono ?_; rintro _ w2 ⟨rfl, hb2⟩
             have HB2 := Lib.hid (HBC.out.trans (hb2.mono HBC.out.size))
             have HL2 := Lib.hid (HLC.out.blw hb2)
             obtain ⟨kb2, _, ltb2⟩ := HL2.out.use
             clear hb2)
          | (go_at_call 9; refine (H9.out _ HB2.out).mono ?_; rintro _ w3 ⟨rfl, hb3⟩
             have HB3 := Lib.hid (HB2.out.trans (hb3.mono HB2.out.size))
             have HL3 := Lib.hid (HL2.out.blw hb3)
             obtain ⟨kb3, _, ltb3⟩ := HL3.out.use
             clear hb3))
      all_goals go_wp2_with fail
      all_goals go_ret
      all_goals exact ⟨rfl, HB3.out⟩
    · skip
      go_enter Tryz.func3, Tryz.ntmps3
      go_wp2_with fail
      refine H7.out.mono ?_
      rintro _ w1 ⟨rfl, hb1⟩
      have HL1 := Lib.hid (HL0.out.blw hb1)
      obtain ⟨kb, _, ltb⟩ := HL1.out.use
      have HB1 := Lib.hid (HB0.out.trans (hb1.mono (by simp)))
      clear hb1
      have hbC : Below w1.heap.size w1 ((w1.alloc (.cells #[.int .i64 g.kind, .int .i64 g.dim, .slice an g.nums.length cn, .slice ak g.kids.length ck] 25)).drew) := (bl_a1 w1 _).drew
      have HBC := Lib.hid (HB1.out.trans (hbC.mono HB1.out.size))
      have HLC := Lib.hid (HL1.out.blw hbC)
      have H8a := Lib.hid (H8.out w1.heap.size ((w1.alloc (.cells #[.int .i64 g.kind, .int .i64 g.dim, .slice an g.nums.length cn, .slice ak g.kids.length ck] 25)).drew) (by simp [World.drew]) ((Lb.new w1 #[.int .i64 g.kind, .int .i64 g.dim, .slice an g.nums.length cn, .slice ak g.kids.length ck] 25).drewN 1) HBC.out)
      clear hbC
      go_wp2_with fail
      go_region_with (first
          | (go_at_call 8; refine H8a.out.mono ?_; rintro _ w2 ⟨rfl, hb2⟩
             have HB2 := Lib.hid (HBC.out.trans (hb2.mono HBC.out.size))
             have HL2 := Lib.hid (HLC.out.blw hb2)
             obtain ⟨kb2, _, ltb2⟩ := HL2.out.use
             clear hb2)
          | (go_at_call 9; refine (H9.out _ HB2.out).mono ?_; rintro _ w3 ⟨rfl, hb3⟩
             have HB3 := Lib.hid (HB2.out.trans (hb3.mono HB2.out.size))
             have HL3 := Lib.hid (HL2.out.blw hb3)
             obtain ⟨kb3, _, ltb3⟩ := HL3.out.use
             clear hb3)
          | (go_at_call 11; refine (H11.out _ HB3.out).mono ?_; rintro _ w4 ⟨rfl, hb4⟩
             have HB4 := Lib.hid (HB3.out.trans (hb4.mono HB3.out.size))
             have HL4 := Lib.hid (HL3.out.blw hb4)
             obtain ⟨kb4, _, ltb4⟩ := HL4.out.use
             clear hb4)
          | (go_at_call 13; refine (H13.out _ HB4.out).mono ?_; rintro _ w5 ⟨a1, c1, a2, c2, rfl, hr1, hr2, hb5⟩
             have HB5 := Lib.hid (HB4.out.trans (hb5.mono HB4.out.size))
             have Hr1 := Lib.hid hr1; have Hr2 := Lib.hid hr2
             clear hb5 hr1 hr2)
          | (go_at_call 12; refine (H12.out _ HB5.out _ _ Hr1.out Hr2.out).mono ?_; rintro _ w6 ⟨rfl, hb6⟩
             have HB6 := Lib.hid (HB5.out.trans (hb6.mono HB5.out.size))
             clear hb6))
      all_goals go_wp2_with fail
      all_goals go_ret
      all_goals exact ⟨rfl, HB6.out⟩
  · have hsb : decide (0 ≤ gw g 2000) = false := by simpa using hsm
    rw [hsb] at H8
    clear hn hk hcap hT hsm hsb
    go_enter Tryz.func3, Tryz.ntmps3
    go_wp2_with fail
    refine H7.out.mono ?_
    rintro _ w1 ⟨rfl, hb1⟩
    have HL1 := Lib.hid (HL0.out.blw hb1)
    obtain ⟨kb, _, ltb⟩ := HL1.out.use
    have HB1 := Lib.hid (HB0.out.trans (hb1.mono (by simp)))
    clear hb1
    have hbC : Below w1.heap.size w1 ((w1.alloc (.cells #[.int .i64 g.kind, .int .i64 g.dim, .slice an g.nums.length cn, .slice ak g.kids.length ck] 25)).drew) := (bl_a1 w1 _).drew
    have HBC := Lib.hid (HB1.out.trans (hbC.mono HB1.out.size))
    have HLC := Lib.hid (HL1.out.blw hbC)
    have H8a := Lib.hid (H8.out w1.heap.size ((w1.alloc (.cells #[.int .i64 g.kind, .int .i64 g.dim, .slice an g.nums.length cn, .slice ak g.kids.length ck] 25)).drew) (by simp [World.drew]) ((Lb.new w1 #[.int .i64 g.kind, .int .i64 g.dim, .slice an g.nums.length cn, .slice ak g.kids.length ck] 25).drewN 1) HBC.out)
    clear hbC
    go_wp2_with fail
    go_region_with (first
        | (go_at_call 8; refine H8a.out.mono ?_; rintro _ w2 ⟨rfl, hb2⟩
           have HB2 := Lib.hid (HBC.out.trans (hb2.mono HBC.out.size))
           have HL2 := Lib.hid (HLC.out.blw hb2)
           obtain ⟨kb2, _, ltb2⟩ := HL2.out.use
           clear hb2))
    all_goals go_wp2_with fail
    all_goals go_ret
    all_goals exact ⟨rfl, HB2.out⟩
end Go.Proofs.YtahnhhkbdgaidaaGreatDoor
