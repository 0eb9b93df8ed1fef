/-
  The reader of binary forms: a geometry of any kind, within others.
-/
import Derived.Test.YtahnhhkbdgaidaaGreatDoorKbd
namespace Go.Proofs.YtahnhhkbdgaidaaGreatDoor
open Go.RowKit
set_option maxRecDepth 100000
theorem set2_grown {w w' : World} {r : Option Nat} {k : Nat} (h : w.grownBy w' r) (hk : w.heap.size ≤ k) (x y : Value) : w.grownBy ((w'.setCell ⟨k, 0, none⟩ x).setCell ⟨k, 1, none⟩ y) r := grown_far (grown_far h hk 0 x) hk 1 y
theorem Pr.far2 {P b : Nat} {bo : Int} {no : Bool} {l : List UInt8} {w : World} (h : Pr P b bo no l w) {k : Nat} (x y : Value) (h1 : P ≠ k) (h2 : b ≠ k) : Pr P b bo no l ((w.setCell ⟨k, 0, none⟩ x).setCell ⟨k, 1, none⟩ y) := (h.far 0 x h1 h2).far 1 y h1 h2
set_option maxHeartbeats 2000000 in
theorem c162_1 (S : Nat → Prop) (P b : Nat) (bo : Int) (no : Bool) (t : Int) (p : Pt) (r : List UInt8) (w : World) (hlP : P < w.heap.size) (hlb : b < w.heap.size) (hS : ∀ k, w.heap.size ≤ k → S k)
    (HF : ∀ w1, Below w.heap.size w w1 → w.heap.size + 1 ≤ w1.heap.size → Calls Tryz.prog 189 #[.pointer (some ⟨P, 0, none⟩), .int .u8 t] w1 (PointR P b bo no p r w1)) :
    Calls Tryz.prog 162 #[.pointer (some ⟨P, 0, none⟩), .int .i64 1, .int .u8 t] w (GeoRx S P b bo no 1 168 p.fs r w) := by
  have hsf := st_float
  have l0 := Lib.hid (Lb.new w #[.int .i64 0, .nilIface] 47)
  have HC := Lib.hid (HF _ (bl_a1 w (.cells #[.int .i64 0, .nilIface] 47)) (by simp))
  clear HF
  go_enter Tryz.func162, Tryz.ntmps162
  go_wp2_with fail
  refine HC.out.mono ?_
  rintro _ w1 ⟨rfl, hp1, hg1⟩
  simp only [Pt.cells]
  have hsz1 : w.heap.size + 1 ≤ w1.heap.size := by have := hg1.size; simpa using this
  have hb2 := bl_a1 w1 (.cells #[.float .f64 p.c.x, .float .f64 p.c.y, .float .f64 p.c.z, .float .f64 p.c.m, .int .u8 p.c.t, .bool p.full] 63)
  have L1 := Lib.hid ((l0.out.grown hg1 (fun e => by have := Option.some.inj e; omega)).blw hb2)
  have HP1 := Lib.hid (hp1.blw hb2)
  have HG1 := Lib.hid (grown_trans (grown_trans (alloc_grown w (.cells #[.int .i64 0, .nilIface] 47) _) hg1) (alloc_grown w1 (.cells #[.float .f64 p.c.x, .float .f64 p.c.y, .float .f64 p.c.z, .float .f64 p.c.m, .int .u8 p.c.t, .bool p.full] 63) _))
  clear hp1 hg1 hb2 HC l0
  go_wp2_with fail
  refine (c57 _ _ _ _ _ _ _).mono ?_
  rintro _ w3 ⟨b', rfl, hbn, hbk, hb3⟩
  have hbn' : w1.heap.size + 1 ≤ b' := by simpa using hbn
  obtain ⟨k3, f3, l3⟩ := (L1.out.blw hb3).use
  have HP3 := Lib.hid (HP1.out.blw hb3)
  have HG3 := Lib.hid (grown_trans HG1.out (below_grown hb3 _))
  have Lk : Lb w3 b' _ _ := hbk
  have HLk := Lib.hid Lk
  clear hb3 hbk hbn Lk L1 HP1 HG1
  go_wp2_with fail
  refine bodyPost_ret (v := .tuple #[.agg #[.int .i64 1, .iface 168 (.pointer (some ⟨b', 0, none⟩))], .nilIface]) (by simp [results, Tryz.results162, go_sem, k3]) rfl ⟨b', rfl, ?_, ?_, ?_⟩
  · refine Rd.unex (L := w.heap.size) (box_new (cs := #[.float .f64 p.c.x, .float .f64 p.c.y, .float .f64 p.c.z, .float .f64 p.c.m, .int .u8 p.c.t, .bool p.full]) (T := 63) ((HLk.out.far (by simp; omega) _).far (by simp; omega) _) ⟨hS _ (by omega), by omega⟩ (fun jj hjj => ?_))
    have hj6 : jj < 6 := hjj
    have hjc : jj = 0 ∨ jj = 1 ∨ jj = 2 ∨ jj = 3 ∨ jj = 4 ∨ jj = 5 := by omega
    rcases hjc with rfl | rfl | rfl | rfl | rfl | rfl <;> exact ⟨_, rfl, .atom _⟩
  · exact HP3.out.far2 _ _ (by omega) (by omega)
  · exact set2_grown HG3.out (Nat.le_refl _) _ _
set_option maxHeartbeats 2000000 in
theorem c162_2 (S : Nat → Prop) (P b : Nat) (bo : Int) (no : Bool) (t : Int) (t2 : Int) (xs : List Nat) (r : List UInt8) (w : World) (hlP : P < w.heap.size) (hlb : b < w.heap.size) (hS : ∀ k, w.heap.size ≤ k → S k)
    (HF : ∀ w1, Below w.heap.size w w1 → w.heap.size + 1 ≤ w1.heap.size → Calls Tryz.prog 190 #[.pointer (some ⟨P, 0, none⟩), .int .u8 t] w1 (LineR (Ex S w.heap.size) P b bo no t2 xs r w1)) :
    Calls Tryz.prog 162 #[.pointer (some ⟨P, 0, none⟩), .int .i64 2, .int .u8 t] w (GeoRx S P b bo no 2 169 [.atom (.int .u8 t2), fl xs] r w) := by
  have hsf := st_float
  have l0 := Lib.hid (Lb.new w #[.int .i64 0, .nilIface] 47)
  have HC := Lib.hid (HF _ (bl_a1 w (.cells #[.int .i64 0, .nilIface] 47)) (by simp))
  clear HF
  go_enter Tryz.func162, Tryz.ntmps162
  go_wp2_with fail
  refine HC.out.mono ?_
  rintro _ w1 ⟨a1, c1, rfl, hr1, hp1, hg1⟩
  have hsz1 : w.heap.size + 1 ≤ w1.heap.size := by have := hg1.size; simpa using this
  have hb2 := bl_a1 w1 (.cells #[.int .u8 t2, .slice a1 xs.length c1] 69)
  have L1 := Lib.hid ((l0.out.grown hg1 (fun e => by have := Option.some.inj e; omega)).blw hb2)
  have HP1 := Lib.hid (hp1.blw hb2)
  have HG1 := Lib.hid (grown_trans (grown_trans (alloc_grown w (.cells #[.int .i64 0, .nilIface] 47) _) hg1) (alloc_grown w1 (.cells #[.int .u8 t2, .slice a1 xs.length c1] 69) _))
  have HR1 := Lib.hid (hr1.blw hb2)
  clear hp1 hg1 hb2 HC l0 hr1
  go_wp2_with fail
  refine (c58 _ _ _ _ _).mono ?_
  rintro _ w3 ⟨b', rfl, hbn, hbk, hb3⟩
  have hbn' : w1.heap.size + 1 ≤ b' := by simpa using hbn
  obtain ⟨k3, f3, l3⟩ := (L1.out.blw hb3).use
  have HP3 := Lib.hid (HP1.out.blw hb3)
  have HG3 := Lib.hid (grown_trans HG1.out (below_grown hb3 _))
  have Lk : Lb w3 b' _ _ := hbk
  have HLk := Lib.hid Lk
  have HR3 := Lib.hid (HR1.out.blw hb3)
  clear hb3 hbk hbn Lk L1 HP1 HG1 HR1
  go_wp2_with fail
  refine bodyPost_ret (v := .tuple #[.agg #[.int .i64 2, .iface 169 (.pointer (some ⟨b', 0, none⟩))], .nilIface]) (by simp [results, Tryz.results162, go_sem, k3]) rfl ⟨b', rfl, ?_, ?_, ?_⟩
  · refine Rd.unex (L := w.heap.size) (box_new (cs := #[.int .u8 t2, .slice a1 xs.length c1]) (T := 69) ((HLk.out.far (by simp; omega) _).far (by simp; omega) _) ⟨hS _ (by omega), by omega⟩ (fun jj hjj => ?_))
    have hjc : jj = 0 ∨ jj = 1 := by have : jj < 2 := hjj; omega
    rcases hjc with rfl | rfl
    · exact ⟨_, rfl, .atom _⟩
    · exact ⟨_, rfl, (HR3.out.set _ _).set _ _⟩
  · exact HP3.out.far2 _ _ (by omega) (by omega)
  · exact set2_grown HG3.out (Nat.le_refl _) _ _
set_option maxHeartbeats 2000000 in
theorem c162_3 (S : Nat → Prop) (P b : Nat) (bo : Int) (no : Bool) (t : Int) (t2 : Int) (f : F) (n : Nat) (r : List UInt8) (w : World) (hlP : P < w.heap.size) (hlb : b < w.heap.size) (hS : ∀ k, w.heap.size ≤ k → S k)
    (HF : ∀ w1, Below w.heap.size w w1 → w.heap.size + 1 ≤ w1.heap.size → Calls Tryz.prog 191 #[.pointer (some ⟨P, 0, none⟩), .int .u8 t] w1 (ListR (Ex S w.heap.size) P b bo no f n t2 r w1)) :
    Calls Tryz.prog 162 #[.pointer (some ⟨P, 0, none⟩), .int .i64 3, .int .u8 t] w (GeoRx S P b bo no 3 170 [f, .atom (.int .u8 t2)] r w) := by
  have hsf := st_float
  have l0 := Lib.hid (Lb.new w #[.int .i64 0, .nilIface] 47)
  have HC := Lib.hid (HF _ (bl_a1 w (.cells #[.int .i64 0, .nilIface] 47)) (by simp))
  clear HF
  go_enter Tryz.func162, Tryz.ntmps162
  go_wp2_with fail
  refine HC.out.mono ?_
  rintro _ w1 ⟨a1, c1, rfl, hr1, hp1, hg1⟩
  have hsz1 : w.heap.size + 1 ≤ w1.heap.size := by have := hg1.size; simpa using this
  have hb2 := bl_a1 w1 (.cells #[.slice a1 n c1, .int .u8 t2] 73)
  have L1 := Lib.hid ((l0.out.grown hg1 (fun e => by have := Option.some.inj e; omega)).blw hb2)
  have HP1 := Lib.hid (hp1.blw hb2)
  have HG1 := Lib.hid (grown_trans (grown_trans (alloc_grown w (.cells #[.int .i64 0, .nilIface] 47) _) hg1) (alloc_grown w1 (.cells #[.slice a1 n c1, .int .u8 t2] 73) _))
  have HR1 := Lib.hid (hr1.blw hb2)
  clear hp1 hg1 hb2 HC l0 hr1
  go_wp2_with fail
  refine (c59 _ _ _ _ _).mono ?_
  rintro _ w3 ⟨b', rfl, hbn, hbk, hb3⟩
  have hbn' : w1.heap.size + 1 ≤ b' := by simpa using hbn
  obtain ⟨k3, f3, l3⟩ := (L1.out.blw hb3).use
  have HP3 := Lib.hid (HP1.out.blw hb3)
  have HG3 := Lib.hid (grown_trans HG1.out (below_grown hb3 _))
  have Lk : Lb w3 b' _ _ := hbk
  have HLk := Lib.hid Lk
  have HR3 := Lib.hid (HR1.out.blw hb3)
  clear hb3 hbk hbn Lk L1 HP1 HG1 HR1
  go_wp2_with fail
  refine bodyPost_ret (v := .tuple #[.agg #[.int .i64 3, .iface 170 (.pointer (some ⟨b', 0, none⟩))], .nilIface]) (by simp [results, Tryz.results162, go_sem, k3]) rfl ⟨b', rfl, ?_, ?_, ?_⟩
  · refine Rd.unex (L := w.heap.size) (box_new (cs := #[.slice a1 n c1, .int .u8 t2]) (T := 73) ((HLk.out.far (by simp; omega) _).far (by simp; omega) _) ⟨hS _ (by omega), by omega⟩ (fun jj hjj => ?_))
    have hjc : jj = 0 ∨ jj = 1 := by have : jj < 2 := hjj; omega
    rcases hjc with rfl | rfl
    · exact ⟨_, rfl, (HR3.out.set _ _).set _ _⟩
    · exact ⟨_, rfl, .atom _⟩
  · exact HP3.out.far2 _ _ (by omega) (by omega)
  · exact set2_grown HG3.out (Nat.le_refl _) _ _
set_option maxHeartbeats 2000000 in
theorem c162_4 (S : Nat → Prop) (P b : Nat) (bo : Int) (no : Bool) (t : Int) (t2 : Int) (f : F) (n : Nat) (r : List UInt8) (w : World) (hlP : P < w.heap.size) (hlb : b < w.heap.size) (hS : ∀ k, w.heap.size ≤ k → S k)
    (HF : ∀ w1, Below w.heap.size w w1 → w.heap.size + 1 ≤ w1.heap.size → Calls Tryz.prog 192 #[.pointer (some ⟨P, 0, none⟩), .int .u8 t] w1 (ListR (Ex S w.heap.size) P b bo no f n t2 r w1)) :
    Calls Tryz.prog 162 #[.pointer (some ⟨P, 0, none⟩), .int .i64 4, .int .u8 t] w (GeoRx S P b bo no 4 171 [f, .atom (.int .u8 t2)] r w) := by
  have hsf := st_float
  have l0 := Lib.hid (Lb.new w #[.int .i64 0, .nilIface] 47)
  have HC := Lib.hid (HF _ (bl_a1 w (.cells #[.int .i64 0, .nilIface] 47)) (by simp))
  clear HF
  go_enter Tryz.func162, Tryz.ntmps162
  go_wp2_with fail
  refine HC.out.mono ?_
  rintro _ w1 ⟨a1, c1, rfl, hr1, hp1, hg1⟩
  have hsz1 : w.heap.size + 1 ≤ w1.heap.size := by have := hg1.size; simpa using this
  have hb2 := bl_a1 w1 (.cells #[.slice a1 n c1, .int .u8 t2] 77)
  have L1 := Lib.hid ((l0.out.grown hg1 (fun e => by have := Option.some.inj e; omega)).blw hb2)
  have HP1 := Lib.hid (hp1.blw hb2)
  have HG1 := Lib.hid (grown_trans (grown_trans (alloc_grown w (.cells #[.int .i64 0, .nilIface] 47) _) hg1) (alloc_grown w1 (.cells #[.slice a1 n c1, .int .u8 t2] 77) _))
  have HR1 := Lib.hid (hr1.blw hb2)
  clear hp1 hg1 hb2 HC l0 hr1
  go_wp2_with fail
  refine (c60 _ _ _ _ _).mono ?_
  rintro _ w3 ⟨b', rfl, hbn, hbk, hb3⟩
  have hbn' : w1.heap.size + 1 ≤ b' := by simpa using hbn
  obtain ⟨k3, f3, l3⟩ := (L1.out.blw hb3).use
  have HP3 := Lib.hid (HP1.out.blw hb3)
  have HG3 := Lib.hid (grown_trans HG1.out (below_grown hb3 _))
  have Lk : Lb w3 b' _ _ := hbk
  have HLk := Lib.hid Lk
  have HR3 := Lib.hid (HR1.out.blw hb3)
  clear hb3 hbk hbn Lk L1 HP1 HG1 HR1
  go_wp2_with fail
  refine bodyPost_ret (v := .tuple #[.agg #[.int .i64 4, .iface 171 (.pointer (some ⟨b', 0, none⟩))], .nilIface]) (by simp [results, Tryz.results162, go_sem, k3]) rfl ⟨b', rfl, ?_, ?_, ?_⟩
  · refine Rd.unex (L := w.heap.size) (box_new (cs := #[.slice a1 n c1, .int .u8 t2]) (T := 77) ((HLk.out.far (by simp; omega) _).far (by simp; omega) _) ⟨hS _ (by omega), by omega⟩ (fun jj hjj => ?_))
    have hjc : jj = 0 ∨ jj = 1 := by have : jj < 2 := hjj; omega
    rcases hjc with rfl | rfl
    · exact ⟨_, rfl, (HR3.out.set _ _).set _ _⟩
    · exact ⟨_, rfl, .atom _⟩
  · exact HP3.out.far2 _ _ (by omega) (by omega)
  · exact set2_grown HG3.out (Nat.le_refl _) _ _
set_option maxHeartbeats 2000000 in
theorem c162_5 (S : Nat → Prop) (P b : Nat) (bo : Int) (no : Bool) (t : Int) (t2 : Int) (f : F) (n : Nat) (r : List UInt8) (w : World) (hlP : P < w.heap.size) (hlb : b < w.heap.size) (hS : ∀ k, w.heap.size ≤ k → S k)
    (HF : ∀ w1, Below w.heap.size w w1 → w.heap.size + 1 ≤ w1.heap.size → Calls Tryz.prog 193 #[.pointer (some ⟨P, 0, none⟩), .int .u8 t] w1 (ListR (Ex S w.heap.size) P b bo no f n t2 r w1)) :
    Calls Tryz.prog 162 #[.pointer (some ⟨P, 0, none⟩), .int .i64 5, .int .u8 t] w (GeoRx S P b bo no 5 172 [f, .atom (.int .u8 t2)] r w) := by
  have hsf := st_float
  have l0 := Lib.hid (Lb.new w #[.int .i64 0, .nilIface] 47)
  have HC := Lib.hid (HF _ (bl_a1 w (.cells #[.int .i64 0, .nilIface] 47)) (by simp))
  clear HF
  go_enter Tryz.func162, Tryz.ntmps162
  go_wp2_with fail
  refine HC.out.mono ?_
  rintro _ w1 ⟨a1, c1, rfl, hr1, hp1, hg1⟩
  have hsz1 : w.heap.size + 1 ≤ w1.heap.size := by have := hg1.size; simpa using this
  have hb2 := bl_a1 w1 (.cells #[.slice a1 n c1, .int .u8 t2] 80)
  have L1 := Lib.hid ((l0.out.grown hg1 (fun e => by have := Option.some.inj e; omega)).blw hb2)
  have HP1 := Lib.hid (hp1.blw hb2)
  have HG1 := Lib.hid (grown_trans (grown_trans (alloc_grown w (.cells #[.int .i64 0, .nilIface] 47) _) hg1) (alloc_grown w1 (.cells #[.slice a1 n c1, .int .u8 t2] 80) _))
  have HR1 := Lib.hid (hr1.blw hb2)
  clear hp1 hg1 hb2 HC l0 hr1
  go_wp2_with fail
  refine (c61 _ _ _ _ _).mono ?_
  rintro _ w3 ⟨b', rfl, hbn, hbk, hb3⟩
  have hbn' : w1.heap.size + 1 ≤ b' := by simpa using hbn
  obtain ⟨k3, f3, l3⟩ := (L1.out.blw hb3).use
  have HP3 := Lib.hid (HP1.out.blw hb3)
  have HG3 := Lib.hid (grown_trans HG1.out (below_grown hb3 _))
  have Lk : Lb w3 b' _ _ := hbk
  have HLk := Lib.hid Lk
  have HR3 := Lib.hid (HR1.out.blw hb3)
  clear hb3 hbk hbn Lk L1 HP1 HG1 HR1
  go_wp2_with fail
  refine bodyPost_ret (v := .tuple #[.agg #[.int .i64 5, .iface 172 (.pointer (some ⟨b', 0, none⟩))], .nilIface]) (by simp [results, Tryz.results162, go_sem, k3]) rfl ⟨b', rfl, ?_, ?_, ?_⟩
  · refine Rd.unex (L := w.heap.size) (box_new (cs := #[.slice a1 n c1, .int .u8 t2]) (T := 80) ((HLk.out.far (by simp; omega) _).far (by simp; omega) _) ⟨hS _ (by omega), by omega⟩ (fun jj hjj => ?_))
    have hjc : jj = 0 ∨ jj = 1 := by have : jj < 2 := hjj; omega
    rcases hjc with rfl | rfl
    · exact ⟨_, rfl, (HR3.out.set _ _).set _ _⟩
    · exact ⟨_, rfl, .atom _⟩
  · exact HP3.out.far2 _ _ (by omega) (by omega)
  · exact set2_grown HG3.out (Nat.le_refl _) _ _
set_option maxHeartbeats 2000000 in
theorem c162_6 (S : Nat → Prop) (P b : Nat) (bo : Int) (no : Bool) (t : Int) (t2 : Int) (f : F) (n : Nat) (r : List UInt8) (w : World) (hlP : P < w.heap.size) (hlb : b < w.heap.size) (hS : ∀ k, w.heap.size ≤ k → S k)
    (HF : ∀ w1, Below w.heap.size w w1 → w.heap.size + 1 ≤ w1.heap.size → Calls Tryz.prog 194 #[.pointer (some ⟨P, 0, none⟩), .int .u8 t] w1 (ListR (Ex S w.heap.size) P b bo no f n t2 r w1)) :
    Calls Tryz.prog 162 #[.pointer (some ⟨P, 0, none⟩), .int .i64 6, .int .u8 t] w (GeoRx S P b bo no 6 173 [f, .atom (.int .u8 t2)] r w) := by
  have hsf := st_float
  have l0 := Lib.hid (Lb.new w #[.int .i64 0, .nilIface] 47)
  have HC := Lib.hid (HF _ (bl_a1 w (.cells #[.int .i64 0, .nilIface] 47)) (by simp))
  clear HF
  go_enter Tryz.func162, Tryz.ntmps162
  go_wp2_with fail
  refine HC.out.mono ?_
  rintro _ w1 ⟨a1, c1, rfl, hr1, hp1, hg1⟩
  have hsz1 : w.heap.size + 1 ≤ w1.heap.size := by have := hg1.size; simpa using this
  have hb2 := bl_a1 w1 (.cells #[.slice a1 n c1, .int .u8 t2] 84)
  have L1 := Lib.hid ((l0.out.grown hg1 (fun e => by have := Option.some.inj e; omega)).blw hb2)
  have HP1 := Lib.hid (hp1.blw hb2)
  have HG1 := Lib.hid (grown_trans (grown_trans (alloc_grown w (.cells #[.int .i64 0, .nilIface] 47) _) hg1) (alloc_grown w1 (.cells #[.slice a1 n c1, .int .u8 t2] 84) _))
  have HR1 := Lib.hid (hr1.blw hb2)
  clear hp1 hg1 hb2 HC l0 hr1
  go_wp2_with fail
  refine (c62 _ _ _ _ _).mono ?_
  rintro _ w3 ⟨b', rfl, hbn, hbk, hb3⟩
  have hbn' : w1.heap.size + 1 ≤ b' := by simpa using hbn
  obtain ⟨k3, f3, l3⟩ := (L1.out.blw hb3).use
  have HP3 := Lib.hid (HP1.out.blw hb3)
  have HG3 := Lib.hid (grown_trans HG1.out (below_grown hb3 _))
  have Lk : Lb w3 b' _ _ := hbk
  have HLk := Lib.hid Lk
  have HR3 := Lib.hid (HR1.out.blw hb3)
  clear hb3 hbk hbn Lk L1 HP1 HG1 HR1
  go_wp2_with fail
  refine bodyPost_ret (v := .tuple #[.agg #[.int .i64 6, .iface 173 (.pointer (some ⟨b', 0, none⟩))], .nilIface]) (by simp [results, Tryz.results162, go_sem, k3]) rfl ⟨b', rfl, ?_, ?_, ?_⟩
  · refine Rd.unex (L := w.heap.size) (box_new (cs := #[.slice a1 n c1, .int .u8 t2]) (T := 84) ((HLk.out.far (by simp; omega) _).far (by simp; omega) _) ⟨hS _ (by omega), by omega⟩ (fun jj hjj => ?_))
    have hjc : jj = 0 ∨ jj = 1 := by have : jj < 2 := hjj; omega
    rcases hjc with rfl | rfl
    · exact ⟨_, rfl, (HR3.out.set _ _).set _ _⟩
    · exact ⟨_, rfl, .atom _⟩
  · exact HP3.out.far2 _ _ (by omega) (by omega)
  · exact set2_grown HG3.out (Nat.le_refl _) _ _
set_option maxHeartbeats 2000000 in
theorem c162_0 (S : Nat → Prop) (P b : Nat) (bo : Int) (no : Bool) (t : Int) (t2 : Int) (f : F) (n : Nat) (r : List UInt8) (w : World) (hlP : P < w.heap.size) (hlb : b < w.heap.size) (hS : ∀ k, w.heap.size ≤ k → S k)
    (HF : ∀ w1, Below w.heap.size w w1 → w.heap.size + 1 ≤ w1.heap.size → Calls Tryz.prog 195 #[.pointer (some ⟨P, 0, none⟩), .int .u8 t] w1 (ListR (Ex S w.heap.size) P b bo no f n t2 r w1)) :
    Calls Tryz.prog 162 #[.pointer (some ⟨P, 0, none⟩), .int .i64 0, .int .u8 t] w (GeoRx S P b bo no 0 176 [f, .atom (.int .u8 t2)] r w) := by
  have hsf := st_float
  have l0 := Lib.hid (Lb.new w #[.int .i64 0, .nilIface] 47)
  have HC := Lib.hid (HF _ (bl_a1 w (.cells #[.int .i64 0, .nilIface] 47)) (by simp))
  clear HF
  go_enter Tryz.func162, Tryz.ntmps162
  go_wp2_with fail
  refine HC.out.mono ?_
  rintro _ w1 ⟨a1, c1, rfl, hr1, hp1, hg1⟩
  have hsz1 : w.heap.size + 1 ≤ w1.heap.size := by have := hg1.size; simpa using this
  have hb2 := bl_a1 w1 (.cells #[.slice a1 n c1, .int .u8 t2] 104)
  have L1 := Lib.hid ((l0.out.grown hg1 (fun e => by have := Option.some.inj e; omega)).blw hb2)
  have HP1 := Lib.hid (hp1.blw hb2)
  have HG1 := Lib.hid (grown_trans (grown_trans (alloc_grown w (.cells #[.int .i64 0, .nilIface] 47) _) hg1) (alloc_grown w1 (.cells #[.slice a1 n c1, .int .u8 t2] 104) _))
  have HR1 := Lib.hid (hr1.blw hb2)
  clear hp1 hg1 hb2 HC l0 hr1
  go_wp2_with fail
  refine (c64 _ _ _ _ _).mono ?_
  rintro _ w3 ⟨b', rfl, hbn, hbk, hb3⟩
  have hbn' : w1.heap.size + 1 ≤ b' := by simpa using hbn
  obtain ⟨k3, f3, l3⟩ := (L1.out.blw hb3).use
  have HP3 := Lib.hid (HP1.out.blw hb3)
  have HG3 := Lib.hid (grown_trans HG1.out (below_grown hb3 _))
  have Lk : Lb w3 b' _ _ := hbk
  have HLk := Lib.hid Lk
  have HR3 := Lib.hid (HR1.out.blw hb3)
  clear hb3 hbk hbn Lk L1 HP1 HG1 HR1
  go_wp2_with fail
  refine bodyPost_ret (v := .tuple #[.agg #[.int .i64 0, .iface 176 (.pointer (some ⟨b', 0, none⟩))], .nilIface]) (by simp [results, Tryz.results162, go_sem, k3]) rfl ⟨b', rfl, ?_, ?_, ?_⟩
  · refine Rd.unex (L := w.heap.size) (box_new (cs := #[.slice a1 n c1, .int .u8 t2]) (T := 104) ((HLk.out.far (by simp; omega) _).far (by simp; omega) _) ⟨hS _ (by omega), by omega⟩ (fun jj hjj => ?_))
    have hjc : jj = 0 ∨ jj = 1 := by have : jj < 2 := hjj; omega
    rcases hjc with rfl | rfl
    · exact ⟨_, rfl, (HR3.out.set _ _).set _ _⟩
    · exact ⟨_, rfl, .atom _⟩
  · exact HP3.out.far2 _ _ (by omega) (by omega)
  · exact set2_grown HG3.out (Nat.le_refl _) _ _
set_option maxHeartbeats 2000000 in
theorem c119_g (S : Nat → Prop) (P b : Nat) (bo0 : Int) (no0 : Bool) (x : UInt8) (hx : x = 0 ∨ x = 1) (l4 rest r : List UInt8) (k t : Int) (T : TypeId) (fs : List F) (h4 : l4.length = 4) (hd : dec (x.toNat : Int) l4 = wcode k t) (k0 : 0 ≤ k) (k1 : k ≤ 6) (t0 : 0 ≤ t) (t1 : t ≤ 3) (w : World)
    (HF : ∀ w1, w.heap.size + 1 ≤ w1.heap.size → Pr P b (x.toNat : Int) (x == 1) rest w1 → Calls Tryz.prog 162 #[.pointer (some ⟨P, 0, none⟩), .int .i64 k, .int .u8 t] w1 (GeoRx (Ex S w.heap.size) P b (x.toNat : Int) (x == 1) k T fs r w1))
    (h : Pr P b bo0 no0 (x :: (l4 ++ rest)) w) :
    Calls Tryz.prog 119 #[.pointer (some ⟨P, 0, none⟩)] w (GeoRx S P b (x.toNat : Int) (x == 1) k T fs r w) := by
  have hlP := h.lt
  have hlb := h.inb.2
  have hb0 := bl_a1 w (.cells #[.int .i64 0, .nilIface] 47)
  have HC := Lib.hid (c160 P b bo0 no0 x hx (l4 ++ rest) _ (h.blw hb0))
  have l0 := Lib.hid (Lb.new w #[.int .i64 0, .nilIface] 47)
  have hbo : (x.toNat : Int) = 0 ∨ (x.toNat : Int) = 1 := by rcases hx with rfl | rfl <;> simp
  have HF := Lib.hid HF
  clear h hb0 hx
  generalize (x.toNat : Int) = bo at *
  generalize (x == 1) = no at *
  go_enter Tryz.func119, Tryz.ntmps119
  go_wp2_with fail
  refine HC.out.mono ?_
  rintro _ w1 ⟨rfl, hp1, hg1⟩
  have hsz1 : w.heap.size + 1 ≤ w1.heap.size := by have := hg1.size; simpa using this
  have L1 := Lib.hid (l0.out.grown hg1 (fun e => by have := Option.some.inj e; omega))
  have HC2 := Lib.hid (c161 P b bo hbo no l4 rest k t k0 k1 t0 t1 h4 hd w1 hp1)
  have HG1 := Lib.hid (grown_trans (alloc_grown w (.cells #[.int .i64 0, .nilIface] 47) _) hg1)
  clear hp1 hg1 HC l0
  go_wp2_with fail
  refine HC2.out.mono ?_
  rintro _ w2 ⟨rfl, hp2, hg2⟩
  have hsz2 : w.heap.size + 1 ≤ w2.heap.size := Nat.le_trans hsz1 hg2.size
  have L2 := Lib.hid (L1.out.grown hg2 (fun e => by have := Option.some.inj e; omega))
  have HC3 := Lib.hid (HF.out w2 hsz2 hp2)
  have HG2 := Lib.hid (grown_trans HG1.out hg2)
  clear hp2 hg2 HC2 L1 HG1 HF
  go_wp2_with fail
  refine HC3.out.mono ?_
  rintro _ w3 ⟨b', rfl, hr3, hp3, hg3⟩
  obtain ⟨k3, f3, l3⟩ := (L2.out.grown hg3 (fun e => by have := Option.some.inj e; omega)).use
  have HG3 := Lib.hid (grown_trans HG2.out hg3)
  have HP3 := Lib.hid hp3
  have HR3 := Lib.hid hr3
  clear hr3 hp3 hg3 HC3 HG2 L2
  go_wp2_with fail
  refine bodyPost_ret (v := .tuple #[.agg #[.int .i64 k, .iface T (.pointer (some ⟨b', 0, none⟩))], .nilIface]) (by simp [results, Tryz.results119, go_sem, k3]) rfl ⟨b', rfl, ?_, ?_, ?_⟩
  · refine Rd.unex (L := w.heap.size) ?_
    exact (HR3.out.set _ _).set _ _
  · exact HP3.out.far2 _ _ (by omega) (by omega)
  · exact set2_grown HG3.out (Nat.le_refl _) _ _
set_option maxHeartbeats 2000000 in
theorem c235_g (S : Nat → Prop) (P b : Nat) (bo : Int) (no : Bool) (l r : List UInt8) (k : Int) (T : TypeId) (fs : List F) (w : World) (hS : ∀ k, w.heap.size ≤ k → S k)
    (H119 : ∀ (S' : Nat → Prop) (P2 : Nat) (w1 : World), (∀ k, w1.heap.size ≤ k → S' k) → Pr P2 b 0 false l w1 → Calls Tryz.prog 119 #[.pointer (some ⟨P2, 0, none⟩)] w1 fun e w' => ∃ bo2 no2, GeoRx S' P2 b bo2 no2 k T fs r w1 e w')
    (h : Pr P b bo no l w) :
    Calls Tryz.prog 235 #[.pointer (some ⟨P, 0, none⟩)] w (GeoRx S P b bo no k T fs r w) := by
  have hlP := h.lt
  have hlb := h.inb.2
  obtain ⟨off, c, ha⟩ := h.at
  obtain ⟨kP, fP, lP⟩ := ha.lb.use
  have hb1 := bl_a2 w (.cells #[.int .i64 0, .nilIface] 47) (.cells #[.slice (some ⟨b, off, none⟩) l.length c, .int .u8 0, .bool false] 160)
  have hq : Pr (w.heap.size + 1) b 0 false l ((w.alloc (.cells #[.int .i64 0, .nilIface] 47)).alloc (.cells #[.slice (some ⟨b, off, none⟩) l.length c, .int .u8 0, .bool false] 160)) :=
    ⟨off, c, Lb.new2 w _ _ 160, ha.cap, ha.max, by omega, by simp; omega, fun j hj => by rw [hb1.cell (p := ⟨b, off + j, none⟩) ha.lt]; exact ha.cell j hj⟩
  have HC := Lib.hid (H119 (Ex (Ex S w.heap.size) P) (w.heap.size + 1) _ (fun k hk => by simp at hk; exact ⟨⟨hS k (by omega), by omega⟩, by omega⟩) hq)
  have l0 := Lib.hid (Lb.new' w #[.int .i64 0, .nilIface] 47 (.cells #[.slice (some ⟨b, off, none⟩) l.length c, .int .u8 0, .bool false] 160))
  have Ha := Lib.hid (ha.blw hb1)
  have HB := Lib.hid hb1
  clear h ha hb1 hq H119
  go_enter Tryz.func235, Tryz.ntmps235
  go_wp2_with fail
  refine HC.out.mono ?_
  rintro _ w2 ⟨bo2, no2, b', rfl, hr2, hp2, hg2⟩
  have hsz2 : w.heap.size + 2 ≤ w2.heap.size := by have := hg2.size; simpa using this
  have hb3 := bl_a1 w2 (.cells #[.int .i64 k, .iface T (.pointer (some ⟨b', 0, none⟩))] 47)
  have L2 := (l0.out.grown hg2 (fun e => by have := Option.some.inj e; omega)).blw hb3
  have Ha2 := (Ha.out.grown hg2 (fun e => by have := Option.some.inj e; omega) (fun e => by have := Option.some.inj e; omega)).blw hb3
  obtain ⟨off2, c2, hp3⟩ := (hp2.blw hb3).at
  obtain ⟨kq, _, _⟩ := hp3.lb.use
  obtain ⟨kP2, fP2, lP2⟩ := Ha2.lb.use
  have hfin : PrAt P bo no r b off2 c2 ((w2.alloc (.cells #[.int .i64 k, .iface T (.pointer (some ⟨b', 0, none⟩))] 47)).setCell ⟨P, 0, none⟩ (.slice (some ⟨b, off2, none⟩) r.length c2)) :=
    ⟨by simpa using Ha2.lb.set 0 (.slice (some ⟨b, off2, none⟩) r.length c2), hp3.cap, hp3.max, Ha2.ne, by simpa [World.setCell] using hp3.lt, fun j hj => by
      rw [World.cell?_of_block (Below.heap_setCell _ _ _ b (by simpa using Ha2.ne))]; exact hp3.cell j hj⟩
  have hG : w.grownBy ((w2.alloc (.cells #[.int .i64 k, .iface T (.pointer (some ⟨b', 0, none⟩))] 47)).setCell ⟨P, 0, none⟩ (.slice (some ⟨b, off2, none⟩) r.length c2)) (some P) := by
    have h1 : w.grownBy (w2.alloc (.cells #[.int .i64 k, .iface T (.pointer (some ⟨b', 0, none⟩))] 47)) (some P) := ⟨hb3.os.trans (hg2.os.trans HB.out.os), hb3.tape.trans (hg2.tape.trans HB.out.tape), hb3.output.trans (hg2.output.trans HB.out.output), by simp; omega, fun q hq hne => (hb3.block q (by omega)).trans ((hg2.block q (by simp; omega) (fun e => by have := Option.some.inj e; omega)).trans (HB.out.block q hq))⟩
    exact grown_trans h1 (set_grown _ _ _ _)
  have L3 := L2.far (p := ⟨P, 0, none⟩) (by simp; omega) (.slice (some ⟨b, off2, none⟩) r.length c2)
  obtain ⟨kr, fr, lr⟩ := L2.use
  have hle := Lb.new w2 #[.int .i64 k, .iface T (.pointer (some ⟨b', 0, none⟩))] 47
  obtain ⟨ke, _, _⟩ := hle.use
  have HR3 := Lib.hid ((hr2.blw hb3).set 0 (.slice (some ⟨b, off2, none⟩) r.length c2))
  have Hfin := Lib.hid hfin; have HG := Lib.hid hG
  clear hr2 hp2 hg2 hb3 L2 Ha2 hp3 hfin hG L3 hle HC l0 Ha HB
  go_wp2_with fail
  refine bodyPost_ret (v := .tuple #[.agg #[.int .i64 k, .iface T (.pointer (some ⟨b', 0, none⟩))], .nilIface]) (by simp [results, Tryz.results235, go_sem, kr]) rfl ⟨b', rfl, ?_, ?_, ?_⟩
  · refine Rd.unex (L := w.heap.size) ?_
    have hd := HR3.out.unex
    exact (hd.set _ _).set _ _
  · exact Hfin.out.pr.far2 _ _ (by omega) (by omega)
  · exact set2_grown HG.out (Nat.le_refl _) _ _
end Go.Proofs.YtahnhhkbdgaidaaGreatDoor
