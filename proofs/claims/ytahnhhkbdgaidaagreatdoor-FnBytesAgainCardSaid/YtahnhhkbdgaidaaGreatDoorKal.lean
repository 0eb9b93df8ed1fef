/-
  A geometry of plain data: seven kinds.
  Numbers in decimal: products of a number by a table's power, rounding.
  Bytes that a call appends: to the slice that it was handed, which the caller owns.
-/
import Derived.Test.YtahnhhkbdgaidaaGreatDoorKak
import Derived.Shelf.Strconv.Itoa0
import Derived.Shelf.Strconv.Itoa1
import Derived.Shelf.LaysM
import Derived.Shelf.Strconv.Itoa2
import Derived.Shelf.Bits.Mul64
import Derived.WalkArith
import Derived.Lib.SmallJoins
import Derived.Lib.ItoaLen
import Derived.Lib.ItoaMem
import Derived.Lib.AppendStr
import Derived.Maps.Range
namespace Go.Proofs.YtahnhhkbdgaidaaGreatDoor
open Go.RowKit
set_option maxRecDepth 100000 in
set_option maxHeartbeats 1000000 in
theorem c25_1 (S : Nat → Prop) (d : Int) (f1 f2 : F) (vn vk : Value) (p : Pt) (w : World) (hS : ∀ b, w.heap.size ≤ b → S b) (hr : Rd S w f1 vn) (hk : Rd S w f2 vk)
    (HF : ∀ (S : Nat → Prop) (w : World), (∀ b, w.heap.size ≤ b → S b) → Rd S w f1 vn → Rd S w f2 vk → Calls Tryz.prog 35 #[.agg #[.int .i64 1, .int .i64 d, vn, vk]] w fun e w' => e = .returned (.agg p.cells) ∧ Below w.heap.size w w') :
    Calls Tryz.prog 25 #[.agg #[.int .i64 1, .int .i64 d, vn, vk]] w fun e w' => ∃ b', e = .returned (.agg #[.int .i64 1, .iface 168 (.pointer (some ⟨b', 0, none⟩))]) ∧
      Rd S w' (.box 168 (Pt.fs p)) (.iface 168 (.pointer (some ⟨b', 0, none⟩))) ∧ Below w.heap.size w w' := by
  have hsf := st_float
  have H0 := Lib.hid ((hr.ex (L := w.heap.size + 1) (by omega)).alloc (.cells #[.int .i64 1, .int .i64 d, vn, vk] 25) |>.alloc (.cells #[.int .i64 0, .nilIface] 47))
  have H1 := Lib.hid ((hk.ex (L := w.heap.size + 1) (by omega)).alloc (.cells #[.int .i64 1, .int .i64 d, vn, vk] 25) |>.alloc (.cells #[.int .i64 0, .nilIface] 47))
  have L1 := Lib.hid (Lb.new2 w (.cells #[.int .i64 1, .int .i64 d, vn, vk] 25) #[.int .i64 0, .nilIface] 47)
  have HB1 := Lib.hid (bl_a2 w (.cells #[.int .i64 1, .int .i64 d, vn, vk] 25) (.cells #[.int .i64 0, .nilIface] 47))
  have HF := Lib.hid HF
  go_enter Tryz.func25, Tryz.ntmps25
  clear hr hk
  go_wp2_with fail
  refine (HF.out (Ex S (w.heap.size + 1)) _ (Ex.up hS (by simp; omega) (by simp)) H0.out H1.out).mono ?_
  rintro e w2 ⟨rfl, hb2⟩
  simp only [Pt.cells]
  have L2 := Lib.hid (L1.out.blw hb2)
  have HB2 := Lib.hid (HB1.out.trans (hb2.mono (by simp; omega)))
  have hl2 : w.heap.size + 1 < w2.heap.size := by have := hb2.size; simp at this; omega
  clear hb2
  go_wp2_with fail
  refine (c57 _ _ _ _ _ _ _).mono ?_
  rintro e w3 ⟨b', rfl, hbn, hbk, hb3⟩
  have L3 := L2.out.blw hb3
  have HB3 := Lib.hid (HB2.out.trans (hb3.mono (by omega)))
  have Lk : Lb w3 b' _ _ := hbk
  obtain ⟨k1, f1, lt1⟩ := L3.use
  clear hb3 hbk
  go_wp2_with fail
  refine bodyPost_ret (v := .agg #[.int .i64 1, .iface 168 (.pointer (some ⟨b', 0, none⟩))]) (by simp [results, Tryz.results25, go_sem, k1]) rfl ⟨b', rfl, ?_, ?_⟩
  · refine Rd.unex (L := w.heap.size + 1) (box_new (cs := #[.float .f64 p.c.x, .float .f64 p.c.y, .float .f64 p.c.z, .float .f64 p.c.m, .int .u8 p.c.t, .bool p.full]) (T := 63) ((Lk.far (by simp <;> omega) _).far (by simp <;> omega) _) ⟨hS _ (by omega), by omega⟩ (fun jj hjj => ?_))
    have hj6 : jj < 6 := hjj
    have hjc : jj = 0 ∨ jj = 1 ∨ jj = 2 ∨ jj = 3 ∨ jj = 4 ∨ jj = 5 := by omega
    rcases hjc with rfl | rfl | rfl | rfl | rfl | rfl <;> exact ⟨_, rfl, .atom _⟩
  · repeat (with_reducible first | refine Below.setCell ?_ (by simp) _ | exact HB3.out)
set_option maxRecDepth 100000 in
set_option maxHeartbeats 1000000 in
theorem c25_2 (S : Nat → Prop) (d : Int) (f1 f2 : F) (vn vk : Value) (t' : Int) (xs' : List Nat) (n' : Nat) (w : World) (hS : ∀ b, w.heap.size ≤ b → S b) (hr : Rd S w f1 vn) (hk : Rd S w f2 vk)
    (HF : ∀ (S : Nat → Prop) (w : World), (∀ b, w.heap.size ≤ b → S b) → Rd S w f1 vn → Rd S w f2 vk → Calls Tryz.prog 37 #[.agg #[.int .i64 2, .int .i64 d, vn, vk]] w fun e w' => ∃ a' c', e = .returned (.agg #[.int .u8 t', .slice a' n' c']) ∧ Rd S w' (fl xs') (.slice a' n' c') ∧ Below w.heap.size w w') :
    Calls Tryz.prog 25 #[.agg #[.int .i64 2, .int .i64 d, vn, vk]] w fun e w' => ∃ b', e = .returned (.agg #[.int .i64 2, .iface 169 (.pointer (some ⟨b', 0, none⟩))]) ∧
      Rd S w' (.box 169 ([.atom (.int .u8 t'), fl xs'])) (.iface 169 (.pointer (some ⟨b', 0, none⟩))) ∧ Below w.heap.size w w' := by
  have hsf := st_float
  have H0 := Lib.hid ((hr.ex (L := w.heap.size + 1) (by omega)).alloc (.cells #[.int .i64 2, .int .i64 d, vn, vk] 25) |>.alloc (.cells #[.int .i64 0, .nilIface] 47))
  have H1 := Lib.hid ((hk.ex (L := w.heap.size + 1) (by omega)).alloc (.cells #[.int .i64 2, .int .i64 d, vn, vk] 25) |>.alloc (.cells #[.int .i64 0, .nilIface] 47))
  have L1 := Lib.hid (Lb.new2 w (.cells #[.int .i64 2, .int .i64 d, vn, vk] 25) #[.int .i64 0, .nilIface] 47)
  have HB1 := Lib.hid (bl_a2 w (.cells #[.int .i64 2, .int .i64 d, vn, vk] 25) (.cells #[.int .i64 0, .nilIface] 47))
  have HF := Lib.hid HF
  go_enter Tryz.func25, Tryz.ntmps25
  clear hr hk
  go_wp2_with fail
  refine (HF.out (Ex S (w.heap.size + 1)) _ (Ex.up hS (by simp; omega) (by simp)) H0.out H1.out).mono ?_
  rintro e w2 ⟨a', c', rfl, hr2, hb2⟩
  have L2 := Lib.hid (L1.out.blw hb2)
  have HB2 := Lib.hid (HB1.out.trans (hb2.mono (by simp; omega)))
  have hl2 : w.heap.size + 1 < w2.heap.size := by have := hb2.size; simp at this; omega
  clear hb2
  go_wp2_with fail
  refine (c58 _ _ _ _ _).mono ?_
  rintro e w3 ⟨b', rfl, hbn, hbk, hb3⟩
  have L3 := L2.out.blw hb3
  have hr3 := hr2.blw hb3
  have HB3 := Lib.hid (HB2.out.trans (hb3.mono (by omega)))
  have Lk : Lb w3 b' _ _ := hbk
  obtain ⟨k1, f1, lt1⟩ := L3.use
  clear hb3 hbk
  go_wp2_with fail
  refine bodyPost_ret (v := .agg #[.int .i64 2, .iface 169 (.pointer (some ⟨b', 0, none⟩))]) (by simp [results, Tryz.results25, go_sem, k1]) rfl ⟨b', rfl, ?_, ?_⟩
  · refine Rd.unex (L := w.heap.size + 1) (box_new (cs := #[.int .u8 t', .slice a' n' c']) (T := 69) ((Lk.far (by simp <;> omega) _).far (by simp <;> omega) _) ⟨hS _ (by omega), by omega⟩ (fun jj hjj => ?_))
    have hjc : jj = 0 ∨ jj = 1 := by have : jj < 2 := hjj; omega
    rcases hjc with rfl | rfl
    · exact ⟨_, rfl, .atom _⟩
    · exact ⟨_, rfl, (hr3.set _ _).set _ _⟩
  · repeat (with_reducible first | refine Below.setCell ?_ (by simp) _ | exact HB3.out)
set_option maxRecDepth 100000 in
set_option maxHeartbeats 1000000 in
theorem c25_3 (S : Nat → Prop) (d : Int) (f1 f2 : F) (vn vk : Value) (t' : Int) (es' : List (List F)) (n' : Nat) (w : World) (hS : ∀ b, w.heap.size ≤ b → S b) (hr : Rd S w f1 vn) (hk : Rd S w f2 vk)
    (HF : ∀ (S : Nat → Prop) (w : World), (∀ b, w.heap.size ≤ b → S b) → Rd S w f1 vn → Rd S w f2 vk → Calls Tryz.prog 39 #[.agg #[.int .i64 3, .int .i64 d, vn, vk]] w fun e w' => ∃ a' c', e = .returned (.agg #[.slice a' n' c', .int .u8 t']) ∧ Rd S w' (.list es') (.slice a' n' c') ∧ Below w.heap.size w w') :
    Calls Tryz.prog 25 #[.agg #[.int .i64 3, .int .i64 d, vn, vk]] w fun e w' => ∃ b', e = .returned (.agg #[.int .i64 3, .iface 170 (.pointer (some ⟨b', 0, none⟩))]) ∧
      Rd S w' (.box 170 ([.list es', .atom (.int .u8 t')])) (.iface 170 (.pointer (some ⟨b', 0, none⟩))) ∧ Below w.heap.size w w' := by
  have hsf := st_float
  have H0 := Lib.hid ((hr.ex (L := w.heap.size + 1) (by omega)).alloc (.cells #[.int .i64 3, .int .i64 d, vn, vk] 25) |>.alloc (.cells #[.int .i64 0, .nilIface] 47))
  have H1 := Lib.hid ((hk.ex (L := w.heap.size + 1) (by omega)).alloc (.cells #[.int .i64 3, .int .i64 d, vn, vk] 25) |>.alloc (.cells #[.int .i64 0, .nilIface] 47))
  have L1 := Lib.hid (Lb.new2 w (.cells #[.int .i64 3, .int .i64 d, vn, vk] 25) #[.int .i64 0, .nilIface] 47)
  have HB1 := Lib.hid (bl_a2 w (.cells #[.int .i64 3, .int .i64 d, vn, vk] 25) (.cells #[.int .i64 0, .nilIface] 47))
  have HF := Lib.hid HF
  go_enter Tryz.func25, Tryz.ntmps25
  clear hr hk
  go_wp2_with fail
  refine (HF.out (Ex S (w.heap.size + 1)) _ (Ex.up hS (by simp; omega) (by simp)) H0.out H1.out).mono ?_
  rintro e w2 ⟨a', c', rfl, hr2, hb2⟩
  have L2 := Lib.hid (L1.out.blw hb2)
  have HB2 := Lib.hid (HB1.out.trans (hb2.mono (by simp; omega)))
  have hl2 : w.heap.size + 1 < w2.heap.size := by have := hb2.size; simp at this; omega
  clear hb2
  go_wp2_with fail
  refine (c59 _ _ _ _ _).mono ?_
  rintro e w3 ⟨b', rfl, hbn, hbk, hb3⟩
  have L3 := L2.out.blw hb3
  have hr3 := hr2.blw hb3
  have HB3 := Lib.hid (HB2.out.trans (hb3.mono (by omega)))
  have Lk : Lb w3 b' _ _ := hbk
  obtain ⟨k1, f1, lt1⟩ := L3.use
  clear hb3 hbk
  go_wp2_with fail
  refine bodyPost_ret (v := .agg #[.int .i64 3, .iface 170 (.pointer (some ⟨b', 0, none⟩))]) (by simp [results, Tryz.results25, go_sem, k1]) rfl ⟨b', rfl, ?_, ?_⟩
  · refine Rd.unex (L := w.heap.size + 1) (box_new (cs := #[.slice a' n' c', .int .u8 t']) (T := 73) ((Lk.far (by simp <;> omega) _).far (by simp <;> omega) _) ⟨hS _ (by omega), by omega⟩ (fun jj hjj => ?_))
    have hjc : jj = 0 ∨ jj = 1 := by have : jj < 2 := hjj; omega
    rcases hjc with rfl | rfl
    · exact ⟨_, rfl, (hr3.set _ _).set _ _⟩
    · exact ⟨_, rfl, .atom _⟩
  · repeat (with_reducible first | refine Below.setCell ?_ (by simp) _ | exact HB3.out)
set_option maxRecDepth 100000 in
set_option maxHeartbeats 1000000 in
theorem c25_4 (S : Nat → Prop) (d : Int) (f1 f2 : F) (vn vk : Value) (t' : Int) (es' : List (List F)) (n' : Nat) (w : World) (hS : ∀ b, w.heap.size ≤ b → S b) (hr : Rd S w f1 vn) (hk : Rd S w f2 vk)
    (HF : ∀ (S : Nat → Prop) (w : World), (∀ b, w.heap.size ≤ b → S b) → Rd S w f1 vn → Rd S w f2 vk → Calls Tryz.prog 41 #[.agg #[.int .i64 4, .int .i64 d, vn, vk]] w fun e w' => ∃ a' c', e = .returned (.agg #[.slice a' n' c', .int .u8 t']) ∧ Rd S w' (.list es') (.slice a' n' c') ∧ Below w.heap.size w w') :
    Calls Tryz.prog 25 #[.agg #[.int .i64 4, .int .i64 d, vn, vk]] w fun e w' => ∃ b', e = .returned (.agg #[.int .i64 4, .iface 171 (.pointer (some ⟨b', 0, none⟩))]) ∧
      Rd S w' (.box 171 ([.list es', .atom (.int .u8 t')])) (.iface 171 (.pointer (some ⟨b', 0, none⟩))) ∧ Below w.heap.size w w' := by
  have hsf := st_float
  have H0 := Lib.hid ((hr.ex (L := w.heap.size + 1) (by omega)).alloc (.cells #[.int .i64 4, .int .i64 d, vn, vk] 25) |>.alloc (.cells #[.int .i64 0, .nilIface] 47))
  have H1 := Lib.hid ((hk.ex (L := w.heap.size + 1) (by omega)).alloc (.cells #[.int .i64 4, .int .i64 d, vn, vk] 25) |>.alloc (.cells #[.int .i64 0, .nilIface] 47))
  have L1 := Lib.hid (Lb.new2 w (.cells #[.int .i64 4, .int .i64 d, vn, vk] 25) #[.int .i64 0, .nilIface] 47)
  have HB1 := Lib.hid (bl_a2 w (.cells #[.int .i64 4, .int .i64 d, vn, vk] 25) (.cells #[.int .i64 0, .nilIface] 47))
  have HF := Lib.hid HF
  go_enter Tryz.func25, Tryz.ntmps25
  clear hr hk
  go_wp2_with fail
  refine (HF.out (Ex S (w.heap.size + 1)) _ (Ex.up hS (by simp; omega) (by simp)) H0.out H1.out).mono ?_
  rintro e w2 ⟨a', c', rfl, hr2, hb2⟩
  have L2 := Lib.hid (L1.out.blw hb2)
  have HB2 := Lib.hid (HB1.out.trans (hb2.mono (by simp; omega)))
  have hl2 : w.heap.size + 1 < w2.heap.size := by have := hb2.size; simp at this; omega
  clear hb2
  go_wp2_with fail
  refine (c60 _ _ _ _ _).mono ?_
  rintro e w3 ⟨b', rfl, hbn, hbk, hb3⟩
  have L3 := L2.out.blw hb3
  have hr3 := hr2.blw hb3
  have HB3 := Lib.hid (HB2.out.trans (hb3.mono (by omega)))
  have Lk : Lb w3 b' _ _ := hbk
  obtain ⟨k1, f1, lt1⟩ := L3.use
  clear hb3 hbk
  go_wp2_with fail
  refine bodyPost_ret (v := .agg #[.int .i64 4, .iface 171 (.pointer (some ⟨b', 0, none⟩))]) (by simp [results, Tryz.results25, go_sem, k1]) rfl ⟨b', rfl, ?_, ?_⟩
  · refine Rd.unex (L := w.heap.size + 1) (box_new (cs := #[.slice a' n' c', .int .u8 t']) (T := 77) ((Lk.far (by simp <;> omega) _).far (by simp <;> omega) _) ⟨hS _ (by omega), by omega⟩ (fun jj hjj => ?_))
    have hjc : jj = 0 ∨ jj = 1 := by have : jj < 2 := hjj; omega
    rcases hjc with rfl | rfl
    · exact ⟨_, rfl, (hr3.set _ _).set _ _⟩
    · exact ⟨_, rfl, .atom _⟩
  · repeat (with_reducible first | refine Below.setCell ?_ (by simp) _ | exact HB3.out)
set_option maxRecDepth 100000 in
set_option maxHeartbeats 1000000 in
theorem c25_5 (S : Nat → Prop) (d : Int) (f1 f2 : F) (vn vk : Value) (t' : Int) (es' : List (List F)) (n' : Nat) (w : World) (hS : ∀ b, w.heap.size ≤ b → S b) (hr : Rd S w f1 vn) (hk : Rd S w f2 vk)
    (HF : ∀ (S : Nat → Prop) (w : World), (∀ b, w.heap.size ≤ b → S b) → Rd S w f1 vn → Rd S w f2 vk → Calls Tryz.prog 43 #[.agg #[.int .i64 5, .int .i64 d, vn, vk]] w fun e w' => ∃ a' c', e = .returned (.agg #[.slice a' n' c', .int .u8 t']) ∧ Rd S w' (.list es') (.slice a' n' c') ∧ Below w.heap.size w w') :
    Calls Tryz.prog 25 #[.agg #[.int .i64 5, .int .i64 d, vn, vk]] w fun e w' => ∃ b', e = .returned (.agg #[.int .i64 5, .iface 172 (.pointer (some ⟨b', 0, none⟩))]) ∧
      Rd S w' (.box 172 ([.list es', .atom (.int .u8 t')])) (.iface 172 (.pointer (some ⟨b', 0, none⟩))) ∧ Below w.heap.size w w' := by
  have hsf := st_float
  have H0 := Lib.hid ((hr.ex (L := w.heap.size + 1) (by omega)).alloc (.cells #[.int .i64 5, .int .i64 d, vn, vk] 25) |>.alloc (.cells #[.int .i64 0, .nilIface] 47))
  have H1 := Lib.hid ((hk.ex (L := w.heap.size + 1) (by omega)).alloc (.cells #[.int .i64 5, .int .i64 d, vn, vk] 25) |>.alloc (.cells #[.int .i64 0, .nilIface] 47))
  have L1 := Lib.hid (Lb.new2 w (.cells #[.int .i64 5, .int .i64 d, vn, vk] 25) #[.int .i64 0, .nilIface] 47)
  have HB1 := Lib.hid (bl_a2 w (.cells #[.int .i64 5, .int .i64 d, vn, vk] 25) (.cells #[.int .i64 0, .nilIface] 47))
  have HF := Lib.hid HF
  go_enter Tryz.func25, Tryz.ntmps25
  clear hr hk
  go_wp2_with fail
  refine (HF.out (Ex S (w.heap.size + 1)) _ (Ex.up hS (by simp; omega) (by simp)) H0.out H1.out).mono ?_
  rintro e w2 ⟨a', c', rfl, hr2, hb2⟩
  have L2 := Lib.hid (L1.out.blw hb2)
  have HB2 := Lib.hid (HB1.out.trans (hb2.mono (by simp; omega)))
  have hl2 : w.heap.size + 1 < w2.heap.size := by have := hb2.size; simp at this; omega
  clear hb2
  go_wp2_with fail
  refine (c61 _ _ _ _ _).mono ?_
  rintro e w3 ⟨b', rfl, hbn, hbk, hb3⟩
  have L3 := L2.out.blw hb3
  have hr3 := hr2.blw hb3
  have HB3 := Lib.hid (HB2.out.trans (hb3.mono (by omega)))
  have Lk : Lb w3 b' _ _ := hbk
  obtain ⟨k1, f1, lt1⟩ := L3.use
  clear hb3 hbk
  go_wp2_with fail
  refine bodyPost_ret (v := .agg #[.int .i64 5, .iface 172 (.pointer (some ⟨b', 0, none⟩))]) (by simp [results, Tryz.results25, go_sem, k1]) rfl ⟨b', rfl, ?_, ?_⟩
  · refine Rd.unex (L := w.heap.size + 1) (box_new (cs := #[.slice a' n' c', .int .u8 t']) (T := 80) ((Lk.far (by simp <;> omega) _).far (by simp <;> omega) _) ⟨hS _ (by omega), by omega⟩ (fun jj hjj => ?_))
    have hjc : jj = 0 ∨ jj = 1 := by have : jj < 2 := hjj; omega
    rcases hjc with rfl | rfl
    · exact ⟨_, rfl, (hr3.set _ _).set _ _⟩
    · exact ⟨_, rfl, .atom _⟩
  · repeat (with_reducible first | refine Below.setCell ?_ (by simp) _ | exact HB3.out)
set_option maxRecDepth 100000 in
set_option maxHeartbeats 1000000 in
theorem c25_6 (S : Nat → Prop) (d : Int) (f1 f2 : F) (vn vk : Value) (t' : Int) (es' : List (List F)) (n' : Nat) (w : World) (hS : ∀ b, w.heap.size ≤ b → S b) (hr : Rd S w f1 vn) (hk : Rd S w f2 vk)
    (HF : ∀ (S : Nat → Prop) (w : World), (∀ b, w.heap.size ≤ b → S b) → Rd S w f1 vn → Rd S w f2 vk → Calls Tryz.prog 45 #[.agg #[.int .i64 6, .int .i64 d, vn, vk]] w fun e w' => ∃ a' c', e = .returned (.agg #[.slice a' n' c', .int .u8 t']) ∧ Rd S w' (.list es') (.slice a' n' c') ∧ Below w.heap.size w w') :
    Calls Tryz.prog 25 #[.agg #[.int .i64 6, .int .i64 d, vn, vk]] w fun e w' => ∃ b', e = .returned (.agg #[.int .i64 6, .iface 173 (.pointer (some ⟨b', 0, none⟩))]) ∧
      Rd S w' (.box 173 ([.list es', .atom (.int .u8 t')])) (.iface 173 (.pointer (some ⟨b', 0, none⟩))) ∧ Below w.heap.size w w' := by
  have hsf := st_float
  have H0 := Lib.hid ((hr.ex (L := w.heap.size + 1) (by omega)).alloc (.cells #[.int .i64 6, .int .i64 d, vn, vk] 25) |>.alloc (.cells #[.int .i64 0, .nilIface] 47))
  have H1 := Lib.hid ((hk.ex (L := w.heap.size + 1) (by omega)).alloc (.cells #[.int .i64 6, .int .i64 d, vn, vk] 25) |>.alloc (.cells #[.int .i64 0, .nilIface] 47))
  have L1 := Lib.hid (Lb.new2 w (.cells #[.int .i64 6, .int .i64 d, vn, vk] 25) #[.int .i64 0, .nilIface] 47)
  have HB1 := Lib.hid (bl_a2 w (.cells #[.int .i64 6, .int .i64 d, vn, vk] 25) (.cells #[.int .i64 0, .nilIface] 47))
  have HF := Lib.hid HF
  go_enter Tryz.func25, Tryz.ntmps25
  clear hr hk
  go_wp2_with fail
  refine (HF.out (Ex S (w.heap.size + 1)) _ (Ex.up hS (by simp; omega) (by simp)) H0.out H1.out).mono ?_
  rintro e w2 ⟨a', c', rfl, hr2, hb2⟩
  have L2 := Lib.hid (L1.out.blw hb2)
  have HB2 := Lib.hid (HB1.out.trans (hb2.mono (by simp; omega)))
  have hl2 : w.heap.size + 1 < w2.heap.size := by have := hb2.size; simp at this; omega
  clear hb2
  go_wp2_with fail
  refine (c62 _ _ _ _ _).mono ?_
  rintro e w3 ⟨b', rfl, hbn, hbk, hb3⟩
  have L3 := L2.out.blw hb3
  have hr3 := hr2.blw hb3
  have HB3 := Lib.hid (HB2.out.trans (hb3.mono (by omega)))
  have Lk : Lb w3 b' _ _ := hbk
  obtain ⟨k1, f1, lt1⟩ := L3.use
  clear hb3 hbk
  go_wp2_with fail
  refine bodyPost_ret (v := .agg #[.int .i64 6, .iface 173 (.pointer (some ⟨b', 0, none⟩))]) (by simp [results, Tryz.results25, go_sem, k1]) rfl ⟨b', rfl, ?_, ?_⟩
  · refine Rd.unex (L := w.heap.size + 1) (box_new (cs := #[.slice a' n' c', .int .u8 t']) (T := 84) ((Lk.far (by simp <;> omega) _).far (by simp <;> omega) _) ⟨hS _ (by omega), by omega⟩ (fun jj hjj => ?_))
    have hjc : jj = 0 ∨ jj = 1 := by have : jj < 2 := hjj; omega
    rcases hjc with rfl | rfl
    · exact ⟨_, rfl, (hr3.set _ _).set _ _⟩
    · exact ⟨_, rfl, .atom _⟩
  · repeat (with_reducible first | refine Below.setCell ?_ (by simp) _ | exact HB3.out)
set_option maxRecDepth 100000 in
set_option maxHeartbeats 1000000 in
theorem c25_0 (S : Nat → Prop) (k : Int) (h1 : (k == 1) = false) (h2 : (k == 2) = false) (h3 : (k == 3) = false) (h4 : (k == 4) = false) (h5 : (k == 5) = false) (h6 : (k == 6) = false) (d : Int) (f1 f2 : F) (vn vk : Value) (t' : Int) (es' : List (List F)) (n' : Nat) (w : World) (hS : ∀ b, w.heap.size ≤ b → S b) (hr : Rd S w f1 vn) (hk : Rd S w f2 vk)
    (HF : ∀ (S : Nat → Prop) (w : World), (∀ b, w.heap.size ≤ b → S b) → Rd S w f1 vn → Rd S w f2 vk → Calls Tryz.prog 63 #[.agg #[.int .i64 k, .int .i64 d, vn, vk]] w fun e w' => ∃ a' c', e = .returned (.agg #[.slice a' n' c', .int .u8 t']) ∧ Rd S w' (.list es') (.slice a' n' c') ∧ Below w.heap.size w w') :
    Calls Tryz.prog 25 #[.agg #[.int .i64 k, .int .i64 d, vn, vk]] w fun e w' => ∃ b', e = .returned (.agg #[.int .i64 0, .iface 176 (.pointer (some ⟨b', 0, none⟩))]) ∧
      Rd S w' (.box 176 ([.list es', .atom (.int .u8 t')])) (.iface 176 (.pointer (some ⟨b', 0, none⟩))) ∧ Below w.heap.size w w' := by
  have hsf := st_float
  have H0 := Lib.hid ((hr.ex (L := w.heap.size + 1) (by omega)).alloc (.cells #[.int .i64 k, .int .i64 d, vn, vk] 25) |>.alloc (.cells #[.int .i64 0, .nilIface] 47))
  have H1 := Lib.hid ((hk.ex (L := w.heap.size + 1) (by omega)).alloc (.cells #[.int .i64 k, .int .i64 d, vn, vk] 25) |>.alloc (.cells #[.int .i64 0, .nilIface] 47))
  have L1 := Lib.hid (Lb.new2 w (.cells #[.int .i64 k, .int .i64 d, vn, vk] 25) #[.int .i64 0, .nilIface] 47)
  have HB1 := Lib.hid (bl_a2 w (.cells #[.int .i64 k, .int .i64 d, vn, vk] 25) (.cells #[.int .i64 0, .nilIface] 47))
  have HF := Lib.hid HF
  go_enter Tryz.func25, Tryz.ntmps25
  clear hr hk
  go_wp2_with fail
  refine (HF.out (Ex S (w.heap.size + 1)) _ (Ex.up hS (by simp; omega) (by simp)) H0.out H1.out).mono ?_
  rintro e w2 ⟨a', c', rfl, hr2, hb2⟩
  have L2 := Lib.hid (L1.out.blw hb2)
  have HB2 := Lib.hid (HB1.out.trans (hb2.mono (by simp; omega)))
  have hl2 : w.heap.size + 1 < w2.heap.size := by have := hb2.size; simp at this; omega
  clear hb2
  go_wp2_with fail
  refine (c64 _ _ _ _ _).mono ?_
  rintro e w3 ⟨b', rfl, hbn, hbk, hb3⟩
  have L3 := L2.out.blw hb3
  have hr3 := hr2.blw hb3
  have HB3 := Lib.hid (HB2.out.trans (hb3.mono (by omega)))
  have Lk : Lb w3 b' _ _ := hbk
  obtain ⟨k1, f1, lt1⟩ := L3.use
  clear hb3 hbk
  go_wp2_with fail
  refine bodyPost_ret (v := .agg #[.int .i64 0, .iface 176 (.pointer (some ⟨b', 0, none⟩))]) (by simp [results, Tryz.results25, go_sem, k1]) rfl ⟨b', rfl, ?_, ?_⟩
  · refine Rd.unex (L := w.heap.size + 1) (box_new (cs := #[.slice a' n' c', .int .u8 t']) (T := 104) ((Lk.far (by simp <;> omega) _).far (by simp <;> omega) _) ⟨hS _ (by omega), by omega⟩ (fun jj hjj => ?_))
    have hjc : jj = 0 ∨ jj = 1 := by have : jj < 2 := hjj; omega
    rcases hjc with rfl | rfl
    · exact ⟨_, rfl, (hr3.set _ _).set _ _⟩
    · exact ⟨_, rfl, .atom _⟩
  · repeat (with_reducible first | refine Below.setCell ?_ (by simp) _ | exact HB3.out)
theorem made : ∀ (m : Nat) (g : G), g.size ≤ m → g.ok → Made g := by
  intro m
  induction m with
  | zero => intro g h; have := G.size_eq g; omega
  | succ m ih =>
    intro g hm hok S vn vk w hS hn hk
    have hokp := hok
    rw [G.ok_eq] at hokp
    have hgs := G.size_eq g
    rw [geoOf_eq]
    generalize hkd : g.kind = kd
    generalize hdd : g.dim = d
    unfold flatGeo
    split
    · next h => subst h; exact c25_1 S d _ _ vn vk (pointOf 1 d g.nums) w hS hn hk (fun S w hS h h' => by
        obtain ⟨ak, ck, rfl⟩ := kids_shape h'
        exact c35 S 1 d g.nums vn ak _ ck w hS h)
    split
    · next h => subst h; exact c25_2 S d _ _ vn vk (lineOf 2 d g.nums).t (lineOf 2 d g.nums).xs (lineOf 2 d g.nums).xs.length w hS hn hk (fun S w hS h h' => by
        obtain ⟨ak, ck, rfl⟩ := kids_shape h'
        exact c37 S 2 d g.nums vn ak _ ck w hS h)
    split
    · next h => subst h; exact c25_3 S d _ _ vn vk (ringsOf 3 d g.kids).t ((ringsOf 3 d g.kids).rings.map Ln.fs) (ringsOf 3 d g.kids).rings.length w hS hn hk (fun S w hS h h' => by
        obtain ⟨an, cn, rfl⟩ := fl_shape h
        exact c39' S 3 d g.kids an _ cn vk w hokp.2.1 hokp.2.2 hS h')
    split
    · next h => subst h; exact c25_4 S d _ _ vn vk _ ((joined ptT Pt.force d (partsOf ((4 : Int) == 4) 1 pointG g.kids)).1.map Pt.fs) _ w hS hn hk (fun S w hS h h' => by
        obtain ⟨an, cn, rfl⟩ := fl_shape h
        exact c41 S 4 d g.kids an _ cn vk w hokp.2.1 hokp.2.2 hS h')
    split
    · next h => subst h; exact c25_5 S d _ _ vn vk _ ((joined lnT Ln.force d (partsOf ((5 : Int) == 5) 2 lineG g.kids)).1.map Ln.fs) _ w hS hn hk (fun S w hS h h' => by
        obtain ⟨an, cn, rfl⟩ := fl_shape h
        exact c43 S 5 d g.kids an _ cn vk w hokp.2.1 hokp.2.2 hS h')
    split
    · next h => subst h; exact c25_6 S d _ _ vn vk _ ((joined pgT Pg.force d (partsOf ((6 : Int) == 6) 3 polyG g.kids)).1.map Pg.fs) _ w hS hn hk (fun S w hS h h' => by
        obtain ⟨an, cn, rfl⟩ := fl_shape h
        exact c45 S 6 d g.kids an _ cn vk w hokp.2.1 hokp.2.2 hS h')
    · next h1 h2 h3 h4 h5 h6 =>
      have IH : ∀ (j : Nat) (hj : j < g.kids.length), Made g.kids[j] := fun j hj => ih _ (by have := G.size_kid g.kids j hj; omega) (G.okL_mem hokp.2.2 _ (List.getElem_mem hj))
      have := c25_0 S kd (by simpa using h1) (by simpa using h2) (by simpa using h3) (by simpa using h4) (by simpa using h5) (by simpa using h6) d _ _ vn vk (joined Geo.t Geo.force d (g.kids.map geoOf)).2 ((joined Geo.t Geo.force d (g.kids.map geoOf)).1.map Geo.fs) (joined Geo.t Geo.force d (g.kids.map geoOf)).1.length w hS hn hk (fun S w hS h h' => by
        exact c63 S kd d vn g.kids vk w IH hokp.2.1 hokp.2.2 hS h')
      refine this.mono ?_
      rintro e w' ⟨b', he, hr', hB⟩
      refine ⟨b', he, ?_, hB⟩
      show Rd S w' (.box 176 [.list (Geo.fsL (joined Geo.t Geo.force d (g.kids.map geoOf)).1), .atom (.int .u8 _)]) _
      rw [Geo.fsL_map]
      exact hr'
end Go.Proofs.YtahnhhkbdgaidaaGreatDoor
namespace Go.Proofs.YtahnhhkbdgaidaaGreatDoor
open Go.RowKit Go.Shelf
end Go.Proofs.YtahnhhkbdgaidaaGreatDoor
namespace Go.Proofs.YtahnhhkbdgaidaaGreatDoor
open Go.RowKit
set_option maxRecDepth 100000
def b2 (b : Bool) : Int := if b then 1 else 0
end Go.Proofs.YtahnhhkbdgaidaaGreatDoor
namespace Go.Proofs.YtahnhhkbdgaidaaGreatDoor
open Go.RowKit
set_option maxRecDepth 100000
end Go.Proofs.YtahnhhkbdgaidaaGreatDoor
namespace Go.Proofs.YtahnhhkbdgaidaaGreatDoor
open Go.RowKit
def bcells (bs : List UInt8) : List Value := bs.map fun b => Value.int .u8 (b.toNat : Int)
theorem bcells_len (bs : List UInt8) : (bcells bs).length = bs.length := by simp [bcells]
/-- The slice owns these bytes, from block B on; since W only the row r was written, and the slice lies there or in a new block. -/
structure Bf (B : Nat) (W : World) (r : Option Nat) (v : Value) (bs : List UInt8) (w : World) : Prop where
  own : w.ownsRow B 5 1 v bs.length (bcells bs)
  kept : W.grownBy w r
  lies : ∀ j, v.ownBlock = some j → W.heap.size ≤ j ∨ r = some j
  hB : B ≤ W.heap.size
theorem grownBy_refl (w : World) (r : Option Nat) : w.grownBy w r := ⟨rfl, rfl, rfl, Nat.le_refl _, fun _ _ _ => rfl⟩
theorem Bf.here {B : Nat} {W w : World} {r : Option Nat} {v : Value} {bs : List UInt8} (h : Bf B W r v bs w) : Bf B w v.ownBlock v bs w := ⟨h.own, grownBy_refl _ _, fun _ hj => .inr hj, Nat.le_trans h.hB h.kept.size⟩
theorem Bf.new (w : World) : Bf w.heap.size w none (.slice none 0 0) [] w := ⟨World.ownsRow_nil w _ _ _, grownBy_refl _ _, fun j hj => by simp [Value.ownBlock] at hj, Nat.le_refl _⟩
theorem Bf.blk {B : Nat} {W w : World} {r : Option Nat} {v : Value} {bs : List UInt8} (h : Bf B W r v bs w) : ∀ j, v.ownBlock = some j → B ≤ j ∧ j < w.heap.size := fun j hj => by
  rcases h.own.2 with ⟨rfl, _⟩ | ⟨g, cap, cur, rfl, hg, hb, _⟩
  · simp [Value.ownBlock] at hj
  · simp [Value.ownBlock] at hj; subst hj; exact ⟨hg, (Array.getElem?_eq_some_iff.1 hb).1⟩
/-- Steps that write no block that is there. -/
theorem Bf.step {B : Nat} {W w w' : World} {r : Option Nat} {v : Value} {bs : List UInt8} (h : Bf B W r v bs w) (hb : Below w.heap.size w w') : Bf B W r v bs w' :=
  ⟨h.own.kept (row := none) ⟨hb.os, hb.tape, hb.output, hb.size, fun i hi _ => hb.block i hi⟩ (by
      rcases hv : v.ownBlock with _ | j
      · exact .inl rfl
      · exact .inr (by simp)), h.kept.andThen (row' := none) ⟨hb.os, hb.tape, hb.output, hb.size, fun i hi _ => hb.block i hi⟩ (fun j hj => by cases hj), h.lies, h.hB⟩
theorem Bf.alloc {B : Nat} {W w : World} {r : Option Nat} {v : Value} {bs : List UInt8} (h : Bf B W r v bs w) (o : Obj) : Bf B W r v bs (w.alloc o) := h.step (bl_a1 w o)
theorem Bf.shape {B : Nat} {W w : World} {r : Option Nat} {v : Value} {bs : List UInt8} (h : Bf B W r v bs w) : ∃ a c, v = .slice a bs.length c := by
  rcases h.own.2 with ⟨rfl, h0⟩ | ⟨g, cap, cur, rfl, _⟩
  · exact ⟨none, 0, by rw [h0]⟩
  · exact ⟨_, _, rfl⟩
theorem info5 : (Tryz.prog.info? 5).map (fun i => (i.zero, i.size, i.bytes)) = some (some (.int .u8 0), 1, 1) := by kernel_rfl
end Go.Proofs.YtahnhhkbdgaidaaGreatDoor
