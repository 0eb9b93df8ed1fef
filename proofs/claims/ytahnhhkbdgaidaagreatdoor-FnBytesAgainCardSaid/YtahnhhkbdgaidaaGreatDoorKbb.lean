/-
  The reader of binary forms: points.
-/
import Derived.Test.YtahnhhkbdgaidaaGreatDoorKaz
import Derived.Test.YtahnhhkbdgaidaaGreatDoorKba
namespace Go.Proofs.YtahnhhkbdgaidaaGreatDoor
open Go.RowKit
set_option maxRecDepth 100000
/-- Whether a number is NaN, as the program tells it. -/
def nanB (x : Nat) : Bool := FloatKind.f64.format.order x x != some Ordering.eq
theorem d23 (x : Nat) (w : World) : Calls Tryz.prog 23 #[.float .f64 x] w fun e w' => e = .returned (.bool (nanB x)) ∧ w = w' := by
  go_enter Tryz.func23, Tryz.ntmps23
  go_wp2
  go_ret
  exact ⟨rfl, rfl⟩
theorem nanB_nan : nanB 9221120237041090561 = true := by kernel_rfl
theorem nanB_zero : nanB 0 = false := by kernel_rfl
theorem F8.split {bo : Int} {x : Nat} {xs : List Nat} {l : List UInt8} (h : F8 bo (x :: xs) l) : ∃ l1 l2, l = l1 ++ l2 ∧ l1.length = 8 ∧ dec bo l1 = x ∧ F8 bo xs l2 := by
  obtain ⟨h1, h2⟩ := h
  simp only [List.length_cons] at h1
  refine ⟨l.take 8, l.drop 8, (List.take_append_drop 8 l).symm, by rw [List.length_take]; omega, by have h3 := h2 0 (by simp); rw [List.getElem_cons_zero] at h3; simpa using h3, by rw [List.length_drop]; omega, fun i hi => ?_⟩
  have := h2 (i + 1) (by simpa using hi)
  rw [List.drop_drop, show 8 + 8 * i = 8 * (i + 1) by omega]
  simpa using this
theorem F8.nil {bo : Int} {l : List UInt8} (h : F8 bo [] l) : l = [] := List.eq_nil_of_length_eq_zero (by have := h.1; simpa using this)
/-- What a point's reader answers. -/
def PointR (P b : Nat) (bo : Int) (no : Bool) (p : Pt) (r : List UInt8) (w : World) : Ending → World → Prop := fun e w' => e = .returned (.tuple #[.agg p.cells, .nilIface]) ∧ Pr P b bo no r w' ∧ w.grownBy w' (some P)
/-- A block of the call's own written anew. -/
theorem grown_far {w w' : World} {r : Option Nat} {k : Nat} (h : w.grownBy w' r) (hk : w.heap.size ≤ k) (o : Nat) (x : Value) : w.grownBy (w'.setCell ⟨k, o, none⟩ x) r :=
  ⟨h.os, h.tape, h.output, Nat.le_trans h.size (by simp [World.setCell]), fun q hq hne => (Below.heap_setCell _ _ _ q (by simp; omega)).trans (h.block q hq hne)⟩
theorem Pr.far {P b : Nat} {bo : Int} {no : Bool} {l : List UInt8} {w : World} (h : Pr P b bo no l w) {k : Nat} (o : Nat) (x : Value) (h1 : P ≠ k) (h2 : b ≠ k) : Pr P b bo no l (w.setCell ⟨k, o, none⟩ x) :=
  h.grown (set_grown w k o x) (fun e => h1 (Option.some.inj e)) (fun e => h2 (Option.some.inj e))
set_option maxHeartbeats 4000000 in
theorem c189_0_f (P b : Nat) (bo : Int) (hbo : bo = 0 ∨ bo = 1) (no : Bool) (x y : Nat) (u1 u2 r : List UInt8) (h1 : u1.length = 8) (h2 : u2.length = 8) (e1 : dec bo u1 = x) (e2 : dec bo u2 = y) (hx : nanB x = false) (hy : nanB y = false) (w : World) (h : Pr P b bo no ((u1 ++ (u2 ++ r))) w) :
    Calls Tryz.prog 189 #[.pointer (some ⟨P, 0, none⟩), .int .u8 0] w (PointR P b bo no ⟨⟨x, y, 0, 0, 0⟩, true⟩ r w) := by
  have hsf := st_float
  have hlP := h.lt
  have hlb := h.inb.2
  have l0 := Lib.hid (Lb.new' w #[.float .f64 0, .float .f64 0, .float .f64 0, .float .f64 0, .int .u8 0, .bool false] 63 (.cells #[.float .f64 0, .float .f64 0, .float .f64 0, .float .f64 0, .int .u8 0] 61))
  have l1 := Lib.hid (Lb.new2 w (.cells #[.float .f64 0, .float .f64 0, .float .f64 0, .float .f64 0, .int .u8 0, .bool false] 63) #[.float .f64 0, .float .f64 0, .float .f64 0, .float .f64 0, .int .u8 0] 61)
  have hb0 := bl_a2 w (.cells #[.float .f64 0, .float .f64 0, .float .f64 0, .float .f64 0, .int .u8 0, .bool false] 63) (.cells #[.float .f64 0, .float .f64 0, .float .f64 0, .float .f64 0, .int .u8 0] 61)
  have HG := Lib.hid (below_grown hb0 (some P))
  have HC := c232 P b bo hbo no u1 _ h1 _ (h.blw hb0)
  rw [e1] at HC
  replace HC := Lib.hid HC
  have HX := d23 x; have HY := d23 y
  rw [hx] at HX; rw [hy] at HY
  have HX := Lib.hid HX; have HY := Lib.hid HY
  clear h hx hy hb0
  go_enter Tryz.func189, Tryz.ntmps189
  go_wp2_with fail
  refine HC.out.mono ?_
  rintro _ w1 ⟨rfl, hp1, hg1⟩
  have hsz1 : w.heap.size + 2 ≤ w1.heap.size := by have := hg1.size; simpa using this
  have l1' := (l1.out.grown hg1 (fun e => by have := Option.some.inj e; omega)).set 0 (.float .f64 x)
  have l0' := (l0.out.grown hg1 (fun e => by have := Option.some.inj e; omega)).far (p := ⟨w.heap.size + 1, 0, none⟩) (by simp) (.float .f64 x)
  have hpp := hp1.far (k := w.heap.size + 1) 0 (.float .f64 x) (by omega) (by omega)
  have HG' : w.grownBy (w1.setCell ⟨w.heap.size + 1, 0, none⟩ (.float .f64 x)) (some P) := grown_far (grown_trans HG.out hg1) (Nat.le_succ _) 0 _
  obtain ⟨kc1, fc1, lc1⟩ := l1'.use
  obtain ⟨kd1, fd1, ld1⟩ := (l1.out.grown hg1 (fun e => by have := Option.some.inj e; omega)).use
  replace l1 : Hid (Lb _ _ #[.float .f64 x, .float .f64 0, .float .f64 0, .float .f64 0, .int .u8 0] 61) := Lib.hid (by simpa using l1'); replace l0 := Lib.hid l0'; replace HG := Lib.hid HG'
  replace HC := c232 P b bo hbo no u2 _ h2 _ hpp
  rw [e2] at HC
  replace HC := Lib.hid HC
  clear hp1 hg1 l1' l0' hpp HG'
  go_wp2_with fail
  refine HC.out.mono ?_
  rintro _ w2 ⟨rfl, hp2, hg2⟩
  have hsz2 : w.heap.size + 2 ≤ w2.heap.size := by have := hg2.size; simp [World.setCell] at this; omega
  have l1' := (l1.out.grown hg2 (fun e => by have := Option.some.inj e; omega)).set 1 (.float .f64 y)
  have l0' := (l0.out.grown hg2 (fun e => by have := Option.some.inj e; omega)).far (p := ⟨w.heap.size + 1, 1, none⟩) (by simp) (.float .f64 y)
  have hpp := hp2.far (k := w.heap.size + 1) 1 (.float .f64 y) (by omega) (by omega)
  have HG' : w.grownBy (w2.setCell ⟨w.heap.size + 1, 1, none⟩ (.float .f64 y)) (some P) := grown_far (grown_trans HG.out hg2) (Nat.le_succ _) 1 _
  obtain ⟨kc2, fc2, lc2⟩ := l1'.use
  obtain ⟨kd2, fd2, ld2⟩ := (l1.out.grown hg2 (fun e => by have := Option.some.inj e; omega)).use
  replace l1 : Hid (Lb _ _ #[.float .f64 x, .float .f64 y, .float .f64 0, .float .f64 0, .int .u8 0] 61) := Lib.hid (by simpa using l1'); replace l0 := Lib.hid l0'; replace HG := Lib.hid HG'
  have HPP := Lib.hid hpp
  obtain ⟨kr, fr, lr⟩ := l0.out.use
  clear hp2 hg2 l1' l0' hpp HG' HC kc1 fc1 lc1 kd1 fd1 ld1
  go_wp2_with (go_at_call 23; first | (refine (HX.out _).mono ?_; rintro _ _ ⟨rfl, rfl⟩) | (refine (HY.out _).mono ?_; rintro _ _ ⟨rfl, rfl⟩))
  refine (c86 _ _ _ _ _ _).mono ?_
  rintro _ w9 ⟨rfl, hb9⟩
  obtain ⟨kz, fz, lz⟩ := (l0.out.blw hb9).use
  have HP9 := Lib.hid (HPP.out.blw hb9)
  have HG9 := Lib.hid (grown_trans HG.out (below_grown hb9 _))
  clear hb9 HPP HG l0 l1 HX HY
  go_wp2_with fail
  refine bodyPost_ret (v := .tuple #[.agg #[.float .f64 x, .float .f64 y, .float .f64 0, .float .f64 0, .int .u8 0, .bool true], .nilIface]) (by simp [results, Tryz.results189, go_sem, kz]) rfl ⟨rfl, ?_, ?_⟩
  · have hPR : P ≠ w.heap.size := by omega
    have hbR : b ≠ w.heap.size := by omega
    exact ((((((HP9.out.far 0 _ hPR hbR).far 1 _ hPR hbR).far 2 _ hPR hbR).far 3 _ hPR hbR).far 4 _ hPR hbR).far 5 _ hPR hbR)
  · exact grown_far (grown_far (grown_far (grown_far (grown_far (grown_far HG9.out (Nat.le_refl _) 0 _) (Nat.le_refl _) 1 _) (Nat.le_refl _) 2 _) (Nat.le_refl _) 3 _) (Nat.le_refl _) 4 _) (Nat.le_refl _) 5 _
set_option maxHeartbeats 4000000 in
theorem c189_0_n (P b : Nat) (bo : Int) (hbo : bo = 0 ∨ bo = 1) (no : Bool) (x y : Nat) (u1 u2 r : List UInt8) (h1 : u1.length = 8) (h2 : u2.length = 8) (e1 : dec bo u1 = x) (e2 : dec bo u2 = y) (hx : nanB x = true) (hy : nanB y = true) (w : World) (h : Pr P b bo no ((u1 ++ (u2 ++ r))) w) :
    Calls Tryz.prog 189 #[.pointer (some ⟨P, 0, none⟩), .int .u8 0] w (PointR P b bo no (emptyPt 0) r w) := by
  have hsf := st_float
  have hlP := h.lt
  have hlb := h.inb.2
  have l0 := Lib.hid (Lb.new' w #[.float .f64 0, .float .f64 0, .float .f64 0, .float .f64 0, .int .u8 0, .bool false] 63 (.cells #[.float .f64 0, .float .f64 0, .float .f64 0, .float .f64 0, .int .u8 0] 61))
  have l1 := Lib.hid (Lb.new2 w (.cells #[.float .f64 0, .float .f64 0, .float .f64 0, .float .f64 0, .int .u8 0, .bool false] 63) #[.float .f64 0, .float .f64 0, .float .f64 0, .float .f64 0, .int .u8 0] 61)
  have hb0 := bl_a2 w (.cells #[.float .f64 0, .float .f64 0, .float .f64 0, .float .f64 0, .int .u8 0, .bool false] 63) (.cells #[.float .f64 0, .float .f64 0, .float .f64 0, .float .f64 0, .int .u8 0] 61)
  have HG := Lib.hid (below_grown hb0 (some P))
  have HC := c232 P b bo hbo no u1 _ h1 _ (h.blw hb0)
  rw [e1] at HC
  replace HC := Lib.hid HC
  have HX := d23 x; have HY := d23 y
  rw [hx] at HX; rw [hy] at HY
  have HX := Lib.hid HX; have HY := Lib.hid HY
  clear h hx hy hb0
  go_enter Tryz.func189, Tryz.ntmps189
  go_wp2_with fail
  refine HC.out.mono ?_
  rintro _ w1 ⟨rfl, hp1, hg1⟩
  have hsz1 : w.heap.size + 2 ≤ w1.heap.size := by have := hg1.size; simpa using this
  have l1' := (l1.out.grown hg1 (fun e => by have := Option.some.inj e; omega)).set 0 (.float .f64 x)
  have l0' := (l0.out.grown hg1 (fun e => by have := Option.some.inj e; omega)).far (p := ⟨w.heap.size + 1, 0, none⟩) (by simp) (.float .f64 x)
  have hpp := hp1.far (k := w.heap.size + 1) 0 (.float .f64 x) (by omega) (by omega)
  have HG' : w.grownBy (w1.setCell ⟨w.heap.size + 1, 0, none⟩ (.float .f64 x)) (some P) := grown_far (grown_trans HG.out hg1) (Nat.le_succ _) 0 _
  obtain ⟨kc1, fc1, lc1⟩ := l1'.use
  obtain ⟨kd1, fd1, ld1⟩ := (l1.out.grown hg1 (fun e => by have := Option.some.inj e; omega)).use
  replace l1 : Hid (Lb _ _ #[.float .f64 x, .float .f64 0, .float .f64 0, .float .f64 0, .int .u8 0] 61) := Lib.hid (by simpa using l1'); replace l0 := Lib.hid l0'; replace HG := Lib.hid HG'
  replace HC := c232 P b bo hbo no u2 _ h2 _ hpp
  rw [e2] at HC
  replace HC := Lib.hid HC
  clear hp1 hg1 l1' l0' hpp HG'
  go_wp2_with fail
  refine HC.out.mono ?_
  rintro _ w2 ⟨rfl, hp2, hg2⟩
  have hsz2 : w.heap.size + 2 ≤ w2.heap.size := by have := hg2.size; simp [World.setCell] at this; omega
  have l1' := (l1.out.grown hg2 (fun e => by have := Option.some.inj e; omega)).set 1 (.float .f64 y)
  have l0' := (l0.out.grown hg2 (fun e => by have := Option.some.inj e; omega)).far (p := ⟨w.heap.size + 1, 1, none⟩) (by simp) (.float .f64 y)
  have hpp := hp2.far (k := w.heap.size + 1) 1 (.float .f64 y) (by omega) (by omega)
  have HG' : w.grownBy (w2.setCell ⟨w.heap.size + 1, 1, none⟩ (.float .f64 y)) (some P) := grown_far (grown_trans HG.out hg2) (Nat.le_succ _) 1 _
  obtain ⟨kc2, fc2, lc2⟩ := l1'.use
  obtain ⟨kd2, fd2, ld2⟩ := (l1.out.grown hg2 (fun e => by have := Option.some.inj e; omega)).use
  replace l1 : Hid (Lb _ _ #[.float .f64 x, .float .f64 y, .float .f64 0, .float .f64 0, .int .u8 0] 61) := Lib.hid (by simpa using l1'); replace l0 := Lib.hid l0'; replace HG := Lib.hid HG'
  have HPP := Lib.hid hpp
  obtain ⟨kr, fr, lr⟩ := l0.out.use
  clear hp2 hg2 l1' l0' hpp HG' HC kc1 fc1 lc1 kd1 fd1 ld1
  have H114 : Hid (∀ w, Calls Tryz.prog 114 #[.agg #[.float .f64 0, .float .f64 0, .float .f64 0, .float .f64 0, .int .u8 0, .bool false], .int .u8 0] w fun e w' => e = .returned (.agg #[.float .f64 0, .float .f64 0, .float .f64 0, .float .f64 0, .int .u8 0, .bool false]) ∧ Below w.heap.size w w') := Lib.hid fun w => c114 (emptyPt 0) 0 w (by decide) (by decide) (by decide) (by decide)
  go_wp2_with (go_at_call 23; first | (refine (HX.out _).mono ?_; rintro _ _ ⟨rfl, rfl⟩) | (refine (HY.out _).mono ?_; rintro _ _ ⟨rfl, rfl⟩))
  refine (H114.out _).mono ?_
  rintro _ w9 ⟨rfl, hb9⟩
  obtain ⟨kz, fz, lz⟩ := (l0.out.blw hb9).use
  have HP9 := Lib.hid (HPP.out.blw hb9)
  have HG9 := Lib.hid (grown_trans HG.out (below_grown hb9 _))
  clear hb9 HPP HG l0 l1 HX HY
  go_wp2_with fail
  refine bodyPost_ret (v := .tuple #[.agg #[.float .f64 0, .float .f64 0, .float .f64 0, .float .f64 0, .int .u8 0, .bool false], .nilIface]) (by simp [results, Tryz.results189, go_sem, kz]) rfl ⟨rfl, ?_, ?_⟩
  · have hPR : P ≠ w.heap.size := by omega
    have hbR : b ≠ w.heap.size := by omega
    exact ((((((HP9.out.far 0 _ hPR hbR).far 1 _ hPR hbR).far 2 _ hPR hbR).far 3 _ hPR hbR).far 4 _ hPR hbR).far 5 _ hPR hbR)
  · exact grown_far (grown_far (grown_far (grown_far (grown_far (grown_far HG9.out (Nat.le_refl _) 0 _) (Nat.le_refl _) 1 _) (Nat.le_refl _) 2 _) (Nat.le_refl _) 3 _) (Nat.le_refl _) 4 _) (Nat.le_refl _) 5 _
set_option maxHeartbeats 4000000 in
theorem c189_1_f (P b : Nat) (bo : Int) (hbo : bo = 0 ∨ bo = 1) (no : Bool) (x y z : Nat) (u1 u2 u3 r : List UInt8) (h1 : u1.length = 8) (h2 : u2.length = 8) (h3 : u3.length = 8) (e1 : dec bo u1 = x) (e2 : dec bo u2 = y) (e3 : dec bo u3 = z) (hx : nanB x = false) (hy : nanB y = false) (w : World) (h : Pr P b bo no ((u1 ++ (u2 ++ (u3 ++ r)))) w) :
    Calls Tryz.prog 189 #[.pointer (some ⟨P, 0, none⟩), .int .u8 1] w (PointR P b bo no ⟨⟨x, y, z, 0, 1⟩, true⟩ r w) := by
  have hsf := st_float
  have hlP := h.lt
  have hlb := h.inb.2
  have l0 := Lib.hid (Lb.new' w #[.float .f64 0, .float .f64 0, .float .f64 0, .float .f64 0, .int .u8 0, .bool false] 63 (.cells #[.float .f64 0, .float .f64 0, .float .f64 0, .float .f64 0, .int .u8 1] 61))
  have l1 := Lib.hid (Lb.new2 w (.cells #[.float .f64 0, .float .f64 0, .float .f64 0, .float .f64 0, .int .u8 0, .bool false] 63) #[.float .f64 0, .float .f64 0, .float .f64 0, .float .f64 0, .int .u8 1] 61)
  have hb0 := bl_a2 w (.cells #[.float .f64 0, .float .f64 0, .float .f64 0, .float .f64 0, .int .u8 0, .bool false] 63) (.cells #[.float .f64 0, .float .f64 0, .float .f64 0, .float .f64 0, .int .u8 1] 61)
  have HG := Lib.hid (below_grown hb0 (some P))
  have HC := c232 P b bo hbo no u1 _ h1 _ (h.blw hb0)
  rw [e1] at HC
  replace HC := Lib.hid HC
  have HX := d23 x; have HY := d23 y
  rw [hx] at HX; rw [hy] at HY
  have HX := Lib.hid HX; have HY := Lib.hid HY
  clear h hx hy hb0
  go_enter Tryz.func189, Tryz.ntmps189
  go_wp2_with fail
  refine HC.out.mono ?_
  rintro _ w1 ⟨rfl, hp1, hg1⟩
  have hsz1 : w.heap.size + 2 ≤ w1.heap.size := by have := hg1.size; simpa using this
  have l1' := (l1.out.grown hg1 (fun e => by have := Option.some.inj e; omega)).set 0 (.float .f64 x)
  have l0' := (l0.out.grown hg1 (fun e => by have := Option.some.inj e; omega)).far (p := ⟨w.heap.size + 1, 0, none⟩) (by simp) (.float .f64 x)
  have hpp := hp1.far (k := w.heap.size + 1) 0 (.float .f64 x) (by omega) (by omega)
  have HG' : w.grownBy (w1.setCell ⟨w.heap.size + 1, 0, none⟩ (.float .f64 x)) (some P) := grown_far (grown_trans HG.out hg1) (Nat.le_succ _) 0 _
  obtain ⟨kc1, fc1, lc1⟩ := l1'.use
  obtain ⟨kd1, fd1, ld1⟩ := (l1.out.grown hg1 (fun e => by have := Option.some.inj e; omega)).use
  replace l1 : Hid (Lb _ _ #[.float .f64 x, .float .f64 0, .float .f64 0, .float .f64 0, .int .u8 1] 61) := Lib.hid (by simpa using l1'); replace l0 := Lib.hid l0'; replace HG := Lib.hid HG'
  replace HC := c232 P b bo hbo no u2 _ h2 _ hpp
  rw [e2] at HC
  replace HC := Lib.hid HC
  clear hp1 hg1 l1' l0' hpp HG'
  go_wp2_with fail
  refine HC.out.mono ?_
  rintro _ w2 ⟨rfl, hp2, hg2⟩
  have hsz2 : w.heap.size + 2 ≤ w2.heap.size := by have := hg2.size; simp [World.setCell] at this; omega
  have l1' := (l1.out.grown hg2 (fun e => by have := Option.some.inj e; omega)).set 1 (.float .f64 y)
  have l0' := (l0.out.grown hg2 (fun e => by have := Option.some.inj e; omega)).far (p := ⟨w.heap.size + 1, 1, none⟩) (by simp) (.float .f64 y)
  have hpp := hp2.far (k := w.heap.size + 1) 1 (.float .f64 y) (by omega) (by omega)
  have HG' : w.grownBy (w2.setCell ⟨w.heap.size + 1, 1, none⟩ (.float .f64 y)) (some P) := grown_far (grown_trans HG.out hg2) (Nat.le_succ _) 1 _
  obtain ⟨kc2, fc2, lc2⟩ := l1'.use
  obtain ⟨kd2, fd2, ld2⟩ := (l1.out.grown hg2 (fun e => by have := Option.some.inj e; omega)).use
  replace l1 : Hid (Lb _ _ #[.float .f64 x, .float .f64 y, .float .f64 0, .float .f64 0, .int .u8 1] 61) := Lib.hid (by simpa using l1'); replace l0 := Lib.hid l0'; replace HG := Lib.hid HG'
  replace HC := c232 P b bo hbo no u3 _ h3 _ hpp
  rw [e3] at HC
  replace HC := Lib.hid HC
  clear hp2 hg2 l1' l0' hpp HG' kc1 fc1 lc1 kd1 fd1 ld1
  go_wp2_with fail
  refine HC.out.mono ?_
  rintro _ w3 ⟨rfl, hp3, hg3⟩
  have hsz3 : w.heap.size + 2 ≤ w3.heap.size := by have := hg3.size; simp [World.setCell] at this; omega
  have l1' := (l1.out.grown hg3 (fun e => by have := Option.some.inj e; omega)).set 2 (.float .f64 z)
  have l0' := (l0.out.grown hg3 (fun e => by have := Option.some.inj e; omega)).far (p := ⟨w.heap.size + 1, 2, none⟩) (by simp) (.float .f64 z)
  have hpp := hp3.far (k := w.heap.size + 1) 2 (.float .f64 z) (by omega) (by omega)
  have HG' : w.grownBy (w3.setCell ⟨w.heap.size + 1, 2, none⟩ (.float .f64 z)) (some P) := grown_far (grown_trans HG.out hg3) (Nat.le_succ _) 2 _
  obtain ⟨kc3, fc3, lc3⟩ := l1'.use
  obtain ⟨kd3, fd3, ld3⟩ := (l1.out.grown hg3 (fun e => by have := Option.some.inj e; omega)).use
  replace l1 : Hid (Lb _ _ #[.float .f64 x, .float .f64 y, .float .f64 z, .float .f64 0, .int .u8 1] 61) := Lib.hid (by simpa using l1'); replace l0 := Lib.hid l0'; replace HG := Lib.hid HG'
  have HPP := Lib.hid hpp
  obtain ⟨kr, fr, lr⟩ := l0.out.use
  clear hp3 hg3 l1' l0' hpp HG' HC kc2 fc2 lc2 kd2 fd2 ld2
  go_wp2_with (go_at_call 23; first | (refine (HX.out _).mono ?_; rintro _ _ ⟨rfl, rfl⟩) | (refine (HY.out _).mono ?_; rintro _ _ ⟨rfl, rfl⟩))
  refine (c86 _ _ _ _ _ _).mono ?_
  rintro _ w9 ⟨rfl, hb9⟩
  obtain ⟨kz, fz, lz⟩ := (l0.out.blw hb9).use
  have HP9 := Lib.hid (HPP.out.blw hb9)
  have HG9 := Lib.hid (grown_trans HG.out (below_grown hb9 _))
  clear hb9 HPP HG l0 l1 HX HY
  go_wp2_with fail
  refine bodyPost_ret (v := .tuple #[.agg #[.float .f64 x, .float .f64 y, .float .f64 z, .float .f64 0, .int .u8 1, .bool true], .nilIface]) (by simp [results, Tryz.results189, go_sem, kz]) rfl ⟨rfl, ?_, ?_⟩
  · have hPR : P ≠ w.heap.size := by omega
    have hbR : b ≠ w.heap.size := by omega
    exact ((((((HP9.out.far 0 _ hPR hbR).far 1 _ hPR hbR).far 2 _ hPR hbR).far 3 _ hPR hbR).far 4 _ hPR hbR).far 5 _ hPR hbR)
  · exact grown_far (grown_far (grown_far (grown_far (grown_far (grown_far HG9.out (Nat.le_refl _) 0 _) (Nat.le_refl _) 1 _) (Nat.le_refl _) 2 _) (Nat.le_refl _) 3 _) (Nat.le_refl _) 4 _) (Nat.le_refl _) 5 _
set_option maxHeartbeats 4000000 in
theorem c189_1_n (P b : Nat) (bo : Int) (hbo : bo = 0 ∨ bo = 1) (no : Bool) (x y z : Nat) (u1 u2 u3 r : List UInt8) (h1 : u1.length = 8) (h2 : u2.length = 8) (h3 : u3.length = 8) (e1 : dec bo u1 = x) (e2 : dec bo u2 = y) (e3 : dec bo u3 = z) (hx : nanB x = true) (hy : nanB y = true) (w : World) (h : Pr P b bo no ((u1 ++ (u2 ++ (u3 ++ r)))) w) :
    Calls Tryz.prog 189 #[.pointer (some ⟨P, 0, none⟩), .int .u8 1] w (PointR P b bo no (emptyPt 1) r w) := by
  have hsf := st_float
  have hlP := h.lt
  have hlb := h.inb.2
  have l0 := Lib.hid (Lb.new' w #[.float .f64 0, .float .f64 0, .float .f64 0, .float .f64 0, .int .u8 0, .bool false] 63 (.cells #[.float .f64 0, .float .f64 0, .float .f64 0, .float .f64 0, .int .u8 1] 61))
  have l1 := Lib.hid (Lb.new2 w (.cells #[.float .f64 0, .float .f64 0, .float .f64 0, .float .f64 0, .int .u8 0, .bool false] 63) #[.float .f64 0, .float .f64 0, .float .f64 0, .float .f64 0, .int .u8 1] 61)
  have hb0 := bl_a2 w (.cells #[.float .f64 0, .float .f64 0, .float .f64 0, .float .f64 0, .int .u8 0, .bool false] 63) (.cells #[.float .f64 0, .float .f64 0, .float .f64 0, .float .f64 0, .int .u8 1] 61)
  have HG := Lib.hid (below_grown hb0 (some P))
  have HC := c232 P b bo hbo no u1 _ h1 _ (h.blw hb0)
  rw [e1] at HC
  replace HC := Lib.hid HC
  have HX := d23 x; have HY := d23 y
  rw [hx] at HX; rw [hy] at HY
  have HX := Lib.hid HX; have HY := Lib.hid HY
  clear h hx hy hb0
  go_enter Tryz.func189, Tryz.ntmps189
  go_wp2_with fail
  refine HC.out.mono ?_
  rintro _ w1 ⟨rfl, hp1, hg1⟩
  have hsz1 : w.heap.size + 2 ≤ w1.heap.size := by have := hg1.size; simpa using this
  have l1' := (l1.out.grown hg1 (fun e => by have := Option.some.inj e; omega)).set 0 (.float .f64 x)
  have l0' := (l0.out.grown hg1 (fun e => by have := Option.some.inj e; omega)).far (p := ⟨w.heap.size + 1, 0, none⟩) (by simp) (.float .f64 x)
  have hpp := hp1.far (k := w.heap.size + 1) 0 (.float .f64 x) (by omega) (by omega)
  have HG' : w.grownBy (w1.setCell ⟨w.heap.size + 1, 0, none⟩ (.float .f64 x)) (some P) := grown_far (grown_trans HG.out hg1) (Nat.le_succ _) 0 _
  obtain ⟨kc1, fc1, lc1⟩ := l1'.use
  obtain ⟨kd1, fd1, ld1⟩ := (l1.out.grown hg1 (fun e => by have := Option.some.inj e; omega)).use
  replace l1 : Hid (Lb _ _ #[.float .f64 x, .float .f64 0, .float .f64 0, .float .f64 0, .int .u8 1] 61) := Lib.hid (by simpa using l1'); replace l0 := Lib.hid l0'; replace HG := Lib.hid HG'
  replace HC := c232 P b bo hbo no u2 _ h2 _ hpp
  rw [e2] at HC
  replace HC := Lib.hid HC
  clear hp1 hg1 l1' l0' hpp HG'
  go_wp2_with fail
  refine HC.out.mono ?_
  rintro _ w2 ⟨rfl, hp2, hg2⟩
  have hsz2 : w.heap.size + 2 ≤ w2.heap.size := by have := hg2.size; simp [World.setCell] at this; omega
  have l1' := (l1.out.grown hg2 (fun e => by have := Option.some.inj e; omega)).set 1 (.float .f64 y)
  have l0' := (l0.out.grown hg2 (fun e => by have := Option.some.inj e; omega)).far (p := ⟨w.heap.size + 1, 1, none⟩) (by simp) (.float .f64 y)
  have hpp := hp2.far (k := w.heap.size + 1) 1 (.float .f64 y) (by omega) (by omega)
  have HG' : w.grownBy (w2.setCell ⟨w.heap.size + 1, 1, none⟩ (.float .f64 y)) (some P) := grown_far (grown_trans HG.out hg2) (Nat.le_succ _) 1 _
  obtain ⟨kc2, fc2, lc2⟩ := l1'.use
  obtain ⟨kd2, fd2, ld2⟩ := (l1.out.grown hg2 (fun e => by have := Option.some.inj e; omega)).use
  replace l1 : Hid (Lb _ _ #[.float .f64 x, .float .f64 y, .float .f64 0, .float .f64 0, .int .u8 1] 61) := Lib.hid (by simpa using l1'); replace l0 := Lib.hid l0'; replace HG := Lib.hid HG'
  replace HC := c232 P b bo hbo no u3 _ h3 _ hpp
  rw [e3] at HC
  replace HC := Lib.hid HC
  clear hp2 hg2 l1' l0' hpp HG' kc1 fc1 lc1 kd1 fd1 ld1
  go_wp2_with fail
  refine HC.out.mono ?_
  rintro _ w3 ⟨rfl, hp3, hg3⟩
  have hsz3 : w.heap.size + 2 ≤ w3.heap.size := by have := hg3.size; simp [World.setCell] at this; omega
  have l1' := (l1.out.grown hg3 (fun e => by have := Option.some.inj e; omega)).set 2 (.float .f64 z)
  have l0' := (l0.out.grown hg3 (fun e => by have := Option.some.inj e; omega)).far (p := ⟨w.heap.size + 1, 2, none⟩) (by simp) (.float .f64 z)
  have hpp := hp3.far (k := w.heap.size + 1) 2 (.float .f64 z) (by omega) (by omega)
  have HG' : w.grownBy (w3.setCell ⟨w.heap.size + 1, 2, none⟩ (.float .f64 z)) (some P) := grown_far (grown_trans HG.out hg3) (Nat.le_succ _) 2 _
  obtain ⟨kc3, fc3, lc3⟩ := l1'.use
  obtain ⟨kd3, fd3, ld3⟩ := (l1.out.grown hg3 (fun e => by have := Option.some.inj e; omega)).use
  replace l1 : Hid (Lb _ _ #[.float .f64 x, .float .f64 y, .float .f64 z, .float .f64 0, .int .u8 1] 61) := Lib.hid (by simpa using l1'); replace l0 := Lib.hid l0'; replace HG := Lib.hid HG'
  have HPP := Lib.hid hpp
  obtain ⟨kr, fr, lr⟩ := l0.out.use
  clear hp3 hg3 l1' l0' hpp HG' HC kc2 fc2 lc2 kd2 fd2 ld2
  have H114 : Hid (∀ w, Calls Tryz.prog 114 #[.agg #[.float .f64 0, .float .f64 0, .float .f64 0, .float .f64 0, .int .u8 0, .bool false], .int .u8 1] w fun e w' => e = .returned (.agg #[.float .f64 0, .float .f64 0, .float .f64 0, .float .f64 0, .int .u8 1, .bool false]) ∧ Below w.heap.size w w') := Lib.hid fun w => c114 (emptyPt 0) 1 w (by decide) (by decide) (by decide) (by decide)
  go_wp2_with (go_at_call 23; first | (refine (HX.out _).mono ?_; rintro _ _ ⟨rfl, rfl⟩) | (refine (HY.out _).mono ?_; rintro _ _ ⟨rfl, rfl⟩))
  refine (H114.out _).mono ?_
  rintro _ w9 ⟨rfl, hb9⟩
  obtain ⟨kz, fz, lz⟩ := (l0.out.blw hb9).use
  have HP9 := Lib.hid (HPP.out.blw hb9)
  have HG9 := Lib.hid (grown_trans HG.out (below_grown hb9 _))
  clear hb9 HPP HG l0 l1 HX HY
  go_wp2_with fail
  refine bodyPost_ret (v := .tuple #[.agg #[.float .f64 0, .float .f64 0, .float .f64 0, .float .f64 0, .int .u8 1, .bool false], .nilIface]) (by simp [results, Tryz.results189, go_sem, kz]) rfl ⟨rfl, ?_, ?_⟩
  · have hPR : P ≠ w.heap.size := by omega
    have hbR : b ≠ w.heap.size := by omega
    exact ((((((HP9.out.far 0 _ hPR hbR).far 1 _ hPR hbR).far 2 _ hPR hbR).far 3 _ hPR hbR).far 4 _ hPR hbR).far 5 _ hPR hbR)
  · exact grown_far (grown_far (grown_far (grown_far (grown_far (grown_far HG9.out (Nat.le_refl _) 0 _) (Nat.le_refl _) 1 _) (Nat.le_refl _) 2 _) (Nat.le_refl _) 3 _) (Nat.le_refl _) 4 _) (Nat.le_refl _) 5 _
set_option maxHeartbeats 4000000 in
theorem c189_2_f (P b : Nat) (bo : Int) (hbo : bo = 0 ∨ bo = 1) (no : Bool) (x y m : Nat) (u1 u2 u3 r : List UInt8) (h1 : u1.length = 8) (h2 : u2.length = 8) (h3 : u3.length = 8) (e1 : dec bo u1 = x) (e2 : dec bo u2 = y) (e3 : dec bo u3 = m) (hx : nanB x = false) (hy : nanB y = false) (w : World) (h : Pr P b bo no ((u1 ++ (u2 ++ (u3 ++ r)))) w) :
    Calls Tryz.prog 189 #[.pointer (some ⟨P, 0, none⟩), .int .u8 2] w (PointR P b bo no ⟨⟨x, y, 0, m, 2⟩, true⟩ r w) := by
  have hsf := st_float
  have hlP := h.lt
  have hlb := h.inb.2
  have l0 := Lib.hid (Lb.new' w #[.float .f64 0, .float .f64 0, .float .f64 0, .float .f64 0, .int .u8 0, .bool false] 63 (.cells #[.float .f64 0, .float .f64 0, .float .f64 0, .float .f64 0, .int .u8 2] 61))
  have l1 := Lib.hid (Lb.new2 w (.cells #[.float .f64 0, .float .f64 0, .float .f64 0, .float .f64 0, .int .u8 0, .bool false] 63) #[.float .f64 0, .float .f64 0, .float .f64 0, .float .f64 0, .int .u8 2] 61)
  have hb0 := bl_a2 w (.cells #[.float .f64 0, .float .f64 0, .float .f64 0, .float .f64 0, .int .u8 0, .bool false] 63) (.cells #[.float .f64 0, .float .f64 0, .float .f64 0, .float .f64 0, .int .u8 2] 61)
  have HG := Lib.hid (below_grown hb0 (some P))
  have HC := c232 P b bo hbo no u1 _ h1 _ (h.blw hb0)
  rw [e1] at HC
  replace HC := Lib.hid HC
  have HX := d23 x; have HY := d23 y
  rw [hx] at HX; rw [hy] at HY
  have HX := Lib.hid HX; have HY := Lib.hid HY
  clear h hx hy hb0
  go_enter Tryz.func189, Tryz.ntmps189
  go_wp2_with fail
  refine HC.out.mono ?_
  rintro _ w1 ⟨rfl, hp1, hg1⟩
  have hsz1 : w.heap.size + 2 ≤ w1.heap.size := by have := hg1.size; simpa using this
  have l1' := (l1.out.grown hg1 (fun e => by have := Option.some.inj e; omega)).set 0 (.float .f64 x)
  have l0' := (l0.out.grown hg1 (fun e => by have := Option.some.inj e; omega)).far (p := ⟨w.heap.size + 1, 0, none⟩) (by simp) (.float .f64 x)
  have hpp := hp1.far (k := w.heap.size + 1) 0 (.float .f64 x) (by omega) (by omega)
  have HG' : w.grownBy (w1.setCell ⟨w.heap.size + 1, 0, none⟩ (.float .f64 x)) (some P) := grown_far (grown_trans HG.out hg1) (Nat.le_succ _) 0 _
  obtain ⟨kc1, fc1, lc1⟩ := l1'.use
  obtain ⟨kd1, fd1, ld1⟩ := (l1.out.grown hg1 (fun e => by have := Option.some.inj e; omega)).use
  replace l1 : Hid (Lb _ _ #[.float .f64 x, .float .f64 0, .float .f64 0, .float .f64 0, .int .u8 2] 61) := Lib.hid (by simpa using l1'); replace l0 := Lib.hid l0'; replace HG := Lib.hid HG'
  replace HC := c232 P b bo hbo no u2 _ h2 _ hpp
  rw [e2] at HC
  replace HC := Lib.hid HC
  clear hp1 hg1 l1' l0' hpp HG'
  go_wp2_with fail
  refine HC.out.mono ?_
  rintro _ w2 ⟨rfl, hp2, hg2⟩
  have hsz2 : w.heap.size + 2 ≤ w2.heap.size := by have := hg2.size; simp [World.setCell] at this; omega
  have l1' := (l1.out.grown hg2 (fun e => by have := Option.some.inj e; omega)).set 1 (.float .f64 y)
  have l0' := (l0.out.grown hg2 (fun e => by have := Option.some.inj e; omega)).far (p := ⟨w.heap.size + 1, 1, none⟩) (by simp) (.float .f64 y)
  have hpp := hp2.far (k := w.heap.size + 1) 1 (.float .f64 y) (by omega) (by omega)
  have HG' : w.grownBy (w2.setCell ⟨w.heap.size + 1, 1, none⟩ (.float .f64 y)) (some P) := grown_far (grown_trans HG.out hg2) (Nat.le_succ _) 1 _
  obtain ⟨kc2, fc2, lc2⟩ := l1'.use
  obtain ⟨kd2, fd2, ld2⟩ := (l1.out.grown hg2 (fun e => by have := Option.some.inj e; omega)).use
  replace l1 : Hid (Lb _ _ #[.float .f64 x, .float .f64 y, .float .f64 0, .float .f64 0, .int .u8 2] 61) := Lib.hid (by simpa using l1'); replace l0 := Lib.hid l0'; replace HG := Lib.hid HG'
  replace HC := c232 P b bo hbo no u3 _ h3 _ hpp
  rw [e3] at HC
  replace HC := Lib.hid HC
  clear hp2 hg2 l1' l0' hpp HG' kc1 fc1 lc1 kd1 fd1 ld1
  go_wp2_with fail
  refine HC.out.mono ?_
  rintro _ w3 ⟨rfl, hp3, hg3⟩
  have hsz3 : w.heap.size + 2 ≤ w3.heap.size := by have := hg3.size; simp [World.setCell] at this; omega
  have l1' := (l1.out.grown hg3 (fun e => by have := Option.some.inj e; omega)).set 3 (.float .f64 m)
  have l0' := (l0.out.grown hg3 (fun e => by have := Option.some.inj e; omega)).far (p := ⟨w.heap.size + 1, 3, none⟩) (by simp) (.float .f64 m)
  have hpp := hp3.far (k := w.heap.size + 1) 3 (.float .f64 m) (by omega) (by omega)
  have HG' : w.grownBy (w3.setCell ⟨w.heap.size + 1, 3, none⟩ (.float .f64 m)) (some P) := grown_far (grown_trans HG.out hg3) (Nat.le_succ _) 3 _
  obtain ⟨kc3, fc3, lc3⟩ := l1'.use
  obtain ⟨kd3, fd3, ld3⟩ := (l1.out.grown hg3 (fun e => by have := Option.some.inj e; omega)).use
  replace l1 : Hid (Lb _ _ #[.float .f64 x, .float .f64 y, .float .f64 0, .float .f64 m, .int .u8 2] 61) := Lib.hid (by simpa using l1'); replace l0 := Lib.hid l0'; replace HG := Lib.hid HG'
  have HPP := Lib.hid hpp
  obtain ⟨kr, fr, lr⟩ := l0.out.use
  clear hp3 hg3 l1' l0' hpp HG' HC kc2 fc2 lc2 kd2 fd2 ld2
  go_wp2_with (go_at_call 23; first | (refine (HX.out _).mono ?_; rintro _ _ ⟨rfl, rfl⟩) | (refine (HY.out _).mono ?_; rintro _ _ ⟨rfl, rfl⟩))
  refine (c86 _ _ _ _ _ _).mono ?_
  rintro _ w9 ⟨rfl, hb9⟩
  obtain ⟨kz, fz, lz⟩ := (l0.out.blw hb9).use
  have HP9 := Lib.hid (HPP.out.blw hb9)
  have HG9 := Lib.hid (grown_trans HG.out (below_grown hb9 _))
  clear hb9 HPP HG l0 l1 HX HY
  go_wp2_with fail
  refine bodyPost_ret (v := .tuple #[.agg #[.float .f64 x, .float .f64 y, .float .f64 0, .float .f64 m, .int .u8 2, .bool true], .nilIface]) (by simp [results, Tryz.results189, go_sem, kz]) rfl ⟨rfl, ?_, ?_⟩
  · have hPR : P ≠ w.heap.size := by omega
    have hbR : b ≠ w.heap.size := by omega
    exact ((((((HP9.out.far 0 _ hPR hbR).far 1 _ hPR hbR).far 2 _ hPR hbR).far 3 _ hPR hbR).far 4 _ hPR hbR).far 5 _ hPR hbR)
  · exact grown_far (grown_far (grown_far (grown_far (grown_far (grown_far HG9.out (Nat.le_refl _) 0 _) (Nat.le_refl _) 1 _) (Nat.le_refl _) 2 _) (Nat.le_refl _) 3 _) (Nat.le_refl _) 4 _) (Nat.le_refl _) 5 _
set_option maxHeartbeats 4000000 in
theorem c189_2_n (P b : Nat) (bo : Int) (hbo : bo = 0 ∨ bo = 1) (no : Bool) (x y m : Nat) (u1 u2 u3 r : List UInt8) (h1 : u1.length = 8) (h2 : u2.length = 8) (h3 : u3.length = 8) (e1 : dec bo u1 = x) (e2 : dec bo u2 = y) (e3 : dec bo u3 = m) (hx : nanB x = true) (hy : nanB y = true) (w : World) (h : Pr P b bo no ((u1 ++ (u2 ++ (u3 ++ r)))) w) :
    Calls Tryz.prog 189 #[.pointer (some ⟨P, 0, none⟩), .int .u8 2] w (PointR P b bo no (emptyPt 2) r w) := by
  have hsf := st_float
  have hlP := h.lt
  have hlb := h.inb.2
  have l0 := Lib.hid (Lb.new' w #[.float .f64 0, .float .f64 0, .float .f64 0, .float .f64 0, .int .u8 0, .bool false] 63 (.cells #[.float .f64 0, .float .f64 0, .float .f64 0, .float .f64 0, .int .u8 2] 61))
  have l1 := Lib.hid (Lb.new2 w (.cells #[.float .f64 0, .float .f64 0, .float .f64 0, .float .f64 0, .int .u8 0, .bool false] 63) #[.float .f64 0, .float .f64 0, .float .f64 0, .float .f64 0, .int .u8 2] 61)
  have hb0 := bl_a2 w (.cells #[.float .f64 0, .float .f64 0, .float .f64 0, .float .f64 0, .int .u8 0, .bool false] 63) (.cells #[.float .f64 0, .float .f64 0, .float .f64 0, .float .f64 0, .int .u8 2] 61)
  have HG := Lib.hid (below_grown hb0 (some P))
  have HC := c232 P b bo hbo no u1 _ h1 _ (h.blw hb0)
  rw [e1] at HC
  replace HC := Lib.hid HC
  have HX := d23 x; have HY := d23 y
  rw [hx] at HX; rw [hy] at HY
  have HX := Lib.hid HX; have HY := Lib.hid HY
  clear h hx hy hb0
  go_enter Tryz.func189, Tryz.ntmps189
  go_wp2_with fail
  refine HC.out.mono ?_
  rintro _ w1 ⟨rfl, hp1, hg1⟩
  have hsz1 : w.heap.size + 2 ≤ w1.heap.size := by have := hg1.size; simpa using this
  have l1' := (l1.out.grown hg1 (fun e => by have := Option.some.inj e; omega)).set 0 (.float .f64 x)
  have l0' := (l0.out.grown hg1 (fun e => by have := Option.some.inj e; omega)).far (p := ⟨w.heap.size + 1, 0, none⟩) (by simp) (.float .f64 x)
  have hpp := hp1.far (k := w.heap.size + 1) 0 (.float .f64 x) (by omega) (by omega)
  have HG' : w.grownBy (w1.setCell ⟨w.heap.size + 1, 0, none⟩ (.float .f64 x)) (some P) := grown_far (grown_trans HG.out hg1) (Nat.le_succ _) 0 _
  obtain ⟨kc1, fc1, lc1⟩ := l1'.use
  obtain ⟨kd1, fd1, ld1⟩ := (l1.out.grown hg1 (fun e => by have := Option.some.inj e; omega)).use
  replace l1 : Hid (Lb _ _ #[.float .f64 x, .float .f64 0, .float .f64 0, .float .f64 0, .int .u8 2] 61) := Lib.hid (by simpa using l1'); replace l0 := Lib.hid l0'; replace HG := Lib.hid HG'
  replace HC := c232 P b bo hbo no u2 _ h2 _ hpp
  rw [e2] at HC
  replace HC := Lib.hid HC
  clear hp1 hg1 l1' l0' hpp HG'
  go_wp2_with fail
  refine HC.out.mono ?_
  rintro _ w2 ⟨rfl, hp2, hg2⟩
  have hsz2 : w.heap.size + 2 ≤ w2.heap.size := by have := hg2.size; simp [World.setCell] at this; omega
  have l1' := (l1.out.grown hg2 (fun e => by have := Option.some.inj e; omega)).set 1 (.float .f64 y)
  have l0' := (l0.out.grown hg2 (fun e => by have := Option.some.inj e; omega)).far (p := ⟨w.heap.size + 1, 1, none⟩) (by simp) (.float .f64 y)
  have hpp := hp2.far (k := w.heap.size + 1) 1 (.float .f64 y) (by omega) (by omega)
  have HG' : w.grownBy (w2.setCell ⟨w.heap.size + 1, 1, none⟩ (.float .f64 y)) (some P) := grown_far (grown_trans HG.out hg2) (Nat.le_succ _) 1 _
  obtain ⟨kc2, fc2, lc2⟩ := l1'.use
  obtain ⟨kd2, fd2, ld2⟩ := (l1.out.grown hg2 (fun e => by have := Option.some.inj e; omega)).use
  replace l1 : Hid (Lb _ _ #[.float .f64 x, .float .f64 y, .float .f64 0, .float .f64 0, .int .u8 2] 61) := Lib.hid (by simpa using l1'); replace l0 := Lib.hid l0'; replace HG := Lib.hid HG'
  replace HC := c232 P b bo hbo no u3 _ h3 _ hpp
  rw [e3] at HC
  replace HC := Lib.hid HC
  clear hp2 hg2 l1' l0' hpp HG' kc1 fc1 lc1 kd1 fd1 ld1
  go_wp2_with fail
  refine HC.out.mono ?_
  rintro _ w3 ⟨rfl, hp3, hg3⟩
  have hsz3 : w.heap.size + 2 ≤ w3.heap.size := by have := hg3.size; simp [World.setCell] at this; omega
  have l1' := (l1.out.grown hg3 (fun e => by have := Option.some.inj e; omega)).set 3 (.float .f64 m)
  have l0' := (l0.out.grown hg3 (fun e => by have := Option.some.inj e; omega)).far (p := ⟨w.heap.size + 1, 3, none⟩) (by simp) (.float .f64 m)
  have hpp := hp3.far (k := w.heap.size + 1) 3 (.float .f64 m) (by omega) (by omega)
  have HG' : w.grownBy (w3.setCell ⟨w.heap.size + 1, 3, none⟩ (.float .f64 m)) (some P) := grown_far (grown_trans HG.out hg3) (Nat.le_succ _) 3 _
  obtain ⟨kc3, fc3, lc3⟩ := l1'.use
  obtain ⟨kd3, fd3, ld3⟩ := (l1.out.grown hg3 (fun e => by have := Option.some.inj e; omega)).use
  replace l1 : Hid (Lb _ _ #[.float .f64 x, .float .f64 y, .float .f64 0, .float .f64 m, .int .u8 2] 61) := Lib.hid (by simpa using l1'); replace l0 := Lib.hid l0'; replace HG := Lib.hid HG'
  have HPP := Lib.hid hpp
  obtain ⟨kr, fr, lr⟩ := l0.out.use
  clear hp3 hg3 l1' l0' hpp HG' HC kc2 fc2 lc2 kd2 fd2 ld2
  have H114 : Hid (∀ w, Calls Tryz.prog 114 #[.agg #[.float .f64 0, .float .f64 0, .float .f64 0, .float .f64 0, .int .u8 0, .bool false], .int .u8 2] w fun e w' => e = .returned (.agg #[.float .f64 0, .float .f64 0, .float .f64 0, .float .f64 0, .int .u8 2, .bool false]) ∧ Below w.heap.size w w') := Lib.hid fun w => c114 (emptyPt 0) 2 w (by decide) (by decide) (by decide) (by decide)
  go_wp2_with (go_at_call 23; first | (refine (HX.out _).mono ?_; rintro _ _ ⟨rfl, rfl⟩) | (refine (HY.out _).mono ?_; rintro _ _ ⟨rfl, rfl⟩))
  refine (H114.out _).mono ?_
  rintro _ w9 ⟨rfl, hb9⟩
  obtain ⟨kz, fz, lz⟩ := (l0.out.blw hb9).use
  have HP9 := Lib.hid (HPP.out.blw hb9)
  have HG9 := Lib.hid (grown_trans HG.out (below_grown hb9 _))
  clear hb9 HPP HG l0 l1 HX HY
  go_wp2_with fail
  refine bodyPost_ret (v := .tuple #[.agg #[.float .f64 0, .float .f64 0, .float .f64 0, .float .f64 0, .int .u8 2, .bool false], .nilIface]) (by simp [results, Tryz.results189, go_sem, kz]) rfl ⟨rfl, ?_, ?_⟩
  · have hPR : P ≠ w.heap.size := by omega
    have hbR : b ≠ w.heap.size := by omega
    exact ((((((HP9.out.far 0 _ hPR hbR).far 1 _ hPR hbR).far 2 _ hPR hbR).far 3 _ hPR hbR).far 4 _ hPR hbR).far 5 _ hPR hbR)
  · exact grown_far (grown_far (grown_far (grown_far (grown_far (grown_far HG9.out (Nat.le_refl _) 0 _) (Nat.le_refl _) 1 _) (Nat.le_refl _) 2 _) (Nat.le_refl _) 3 _) (Nat.le_refl _) 4 _) (Nat.le_refl _) 5 _
set_option maxHeartbeats 4000000 in
theorem c189_3_f (P b : Nat) (bo : Int) (hbo : bo = 0 ∨ bo = 1) (no : Bool) (x y z m : Nat) (u1 u2 u3 u4 r : List UInt8) (h1 : u1.length = 8) (h2 : u2.length = 8) (h3 : u3.length = 8) (h4 : u4.length = 8) (e1 : dec bo u1 = x) (e2 : dec bo u2 = y) (e3 : dec bo u3 = z) (e4 : dec bo u4 = m) (hx : nanB x = false) (hy : nanB y = false) (w : World) (h : Pr P b bo no ((u1 ++ (u2 ++ (u3 ++ (u4 ++ r))))) w) :
    Calls Tryz.prog 189 #[.pointer (some ⟨P, 0, none⟩), .int .u8 3] w (PointR P b bo no ⟨⟨x, y, z, m, 3⟩, true⟩ r w) := by
  have hsf := st_float
  have hlP := h.lt
  have hlb := h.inb.2
  have l0 := Lib.hid (Lb.new' w #[.float .f64 0, .float .f64 0, .float .f64 0, .float .f64 0, .int .u8 0, .bool false] 63 (.cells #[.float .f64 0, .float .f64 0, .float .f64 0, .float .f64 0, .int .u8 3] 61))
  have l1 := Lib.hid (Lb.new2 w (.cells #[.float .f64 0, .float .f64 0, .float .f64 0, .float .f64 0, .int .u8 0, .bool false] 63) #[.float .f64 0, .float .f64 0, .float .f64 0, .float .f64 0, .int .u8 3] 61)
  have hb0 := bl_a2 w (.cells #[.float .f64 0, .float .f64 0, .float .f64 0, .float .f64 0, .int .u8 0, .bool false] 63) (.cells #[.float .f64 0, .float .f64 0, .float .f64 0, .float .f64 0, .int .u8 3] 61)
  have HG := Lib.hid (below_grown hb0 (some P))
  have HC := c232 P b bo hbo no u1 _ h1 _ (h.blw hb0)
  rw [e1] at HC
  replace HC := Lib.hid HC
  have HX := d23 x; have HY := d23 y
  rw [hx] at HX; rw [hy] at HY
  have HX := Lib.hid HX; have HY := Lib.hid HY
  clear h hx hy hb0
  go_enter Tryz.func189, Tryz.ntmps189
  go_wp2_with fail
  refine HC.out.mono ?_
  rintro _ w1 ⟨rfl, hp1, hg1⟩
  have hsz1 : w.heap.size + 2 ≤ w1.heap.size := by have := hg1.size; simpa using this
  have l1' := (l1.out.grown hg1 (fun e => by have := Option.some.inj e; omega)).set 0 (.float .f64 x)
  have l0' := (l0.out.grown hg1 (fun e => by have := Option.some.inj e; omega)).far (p := ⟨w.heap.size + 1, 0, none⟩) (by simp) (.float .f64 x)
  have hpp := hp1.far (k := w.heap.size + 1) 0 (.float .f64 x) (by omega) (by omega)
  have HG' : w.grownBy (w1.setCell ⟨w.heap.size + 1, 0, none⟩ (.float .f64 x)) (some P) := grown_far (grown_trans HG.out hg1) (Nat.le_succ _) 0 _
  obtain ⟨kc1, fc1, lc1⟩ := l1'.use
  obtain ⟨kd1, fd1, ld1⟩ := (l1.out.grown hg1 (fun e => by have := Option.some.inj e; omega)).use
  replace l1 : Hid (Lb _ _ #[.float .f64 x, .float .f64 0, .float .f64 0, .float .f64 0, .int .u8 3] 61) := Lib.hid (by simpa using l1'); replace l0 := Lib.hid l0'; replace HG := Lib.hid HG'
  replace HC := c232 P b bo hbo no u2 _ h2 _ hpp
  rw [e2] at HC
  replace HC := Lib.hid HC
  clear hp1 hg1 l1' l0' hpp HG'
  go_wp2_with fail
  refine HC.out.mono ?_
  rintro _ w2 ⟨rfl, hp2, hg2⟩
  have hsz2 : w.heap.size + 2 ≤ w2.heap.size := by have := hg2.size; simp [World.setCell] at this; omega
  have l1' := (l1.out.grown hg2 (fun e => by have := Option.some.inj e; omega)).set 1 (.float .f64 y)
  have l0' := (l0.out.grown hg2 (fun e => by have := Option.some.inj e; omega)).far (p := ⟨w.heap.size + 1, 1, none⟩) (by simp) (.float .f64 y)
  have hpp := hp2.far (k := w.heap.size + 1) 1 (.float .f64 y) (by omega) (by omega)
  have HG' : w.grownBy (w2.setCell ⟨w.heap.size + 1, 1, none⟩ (.float .f64 y)) (some P) := grown_far (grown_trans HG.out hg2) (Nat.le_succ _) 1 _
  obtain ⟨kc2, fc2, lc2⟩ := l1'.use
  obtain ⟨kd2, fd2, ld2⟩ := (l1.out.grown hg2 (fun e => by have := Option.some.inj e; omega)).use
  replace l1 : Hid (Lb _ _ #[.float .f64 x, .float .f64 y, .float .f64 0, .float .f64 0, .int .u8 3] 61) := Lib.hid (by simpa using l1'); replace l0 := Lib.hid l0'; replace HG := Lib.hid HG'
  replace HC := c232 P b bo hbo no u3 _ h3 _ hpp
  rw [e3] at HC
  replace HC := Lib.hid HC
  clear hp2 hg2 l1' l0' hpp HG' kc1 fc1 lc1 kd1 fd1 ld1
  go_wp2_with fail
  refine HC.out.mono ?_
  rintro _ w3 ⟨rfl, hp3, hg3⟩
  have hsz3 : w.heap.size + 2 ≤ w3.heap.size := by have := hg3.size; simp [World.setCell] at this; omega
  have l1' := (l1.out.grown hg3 (fun e => by have := Option.some.inj e; omega)).set 2 (.float .f64 z)
  have l0' := (l0.out.grown hg3 (fun e => by have := Option.some.inj e; omega)).far (p := ⟨w.heap.size + 1, 2, none⟩) (by simp) (.float .f64 z)
  have hpp := hp3.far (k := w.heap.size + 1) 2 (.float .f64 z) (by omega) (by omega)
  have HG' : w.grownBy (w3.setCell ⟨w.heap.size + 1, 2, none⟩ (.float .f64 z)) (some P) := grown_far (grown_trans HG.out hg3) (Nat.le_succ _) 2 _
  obtain ⟨kc3, fc3, lc3⟩ := l1'.use
  obtain ⟨kd3, fd3, ld3⟩ := (l1.out.grown hg3 (fun e => by have := Option.some.inj e; omega)).use
  replace l1 : Hid (Lb _ _ #[.float .f64 x, .float .f64 y, .float .f64 z, .float .f64 0, .int .u8 3] 61) := Lib.hid (by simpa using l1'); replace l0 := Lib.hid l0'; replace HG := Lib.hid HG'
  replace HC := c232 P b bo hbo no u4 _ h4 _ hpp
  rw [e4] at HC
  replace HC := Lib.hid HC
  clear hp3 hg3 l1' l0' hpp HG' kc2 fc2 lc2 kd2 fd2 ld2
  go_wp2_with fail
  refine HC.out.mono ?_
  rintro _ w4 ⟨rfl, hp4, hg4⟩
  have hsz4 : w.heap.size + 2 ≤ w4.heap.size := by have := hg4.size; simp [World.setCell] at this; omega
  have l1' := (l1.out.grown hg4 (fun e => by have := Option.some.inj e; omega)).set 3 (.float .f64 m)
  have l0' := (l0.out.grown hg4 (fun e => by have := Option.some.inj e; omega)).far (p := ⟨w.heap.size + 1, 3, none⟩) (by simp) (.float .f64 m)
  have hpp := hp4.far (k := w.heap.size + 1) 3 (.float .f64 m) (by omega) (by omega)
  have HG' : w.grownBy (w4.setCell ⟨w.heap.size + 1, 3, none⟩ (.float .f64 m)) (some P) := grown_far (grown_trans HG.out hg4) (Nat.le_succ _) 3 _
  obtain ⟨kc4, fc4, lc4⟩ := l1'.use
  obtain ⟨kd4, fd4, ld4⟩ := (l1.out.grown hg4 (fun e => by have := Option.some.inj e; omega)).use
  replace l1 : Hid (Lb _ _ #[.float .f64 x, .float .f64 y, .float .f64 z, .float .f64 m, .int .u8 3] 61) := Lib.hid (by simpa using l1'); replace l0 := Lib.hid l0'; replace HG := Lib.hid HG'
  have HPP := Lib.hid hpp
  obtain ⟨kr, fr, lr⟩ := l0.out.use
  clear hp4 hg4 l1' l0' hpp HG' HC kc3 fc3 lc3 kd3 fd3 ld3
  go_wp2_with (go_at_call 23; first | (refine (HX.out _).mono ?_; rintro _ _ ⟨rfl, rfl⟩) | (refine (HY.out _).mono ?_; rintro _ _ ⟨rfl, rfl⟩))
  refine (c86 _ _ _ _ _ _).mono ?_
  rintro _ w9 ⟨rfl, hb9⟩
  obtain ⟨kz, fz, lz⟩ := (l0.out.blw hb9).use
  have HP9 := Lib.hid (HPP.out.blw hb9)
  have HG9 := Lib.hid (grown_trans HG.out (below_grown hb9 _))
  clear hb9 HPP HG l0 l1 HX HY
  go_wp2_with fail
  refine bodyPost_ret (v := .tuple #[.agg #[.float .f64 x, .float .f64 y, .float .f64 z, .float .f64 m, .int .u8 3, .bool true], .nilIface]) (by simp [results, Tryz.results189, go_sem, kz]) rfl ⟨rfl, ?_, ?_⟩
  · have hPR : P ≠ w.heap.size := by omega
    have hbR : b ≠ w.heap.size := by omega
    exact ((((((HP9.out.far 0 _ hPR hbR).far 1 _ hPR hbR).far 2 _ hPR hbR).far 3 _ hPR hbR).far 4 _ hPR hbR).far 5 _ hPR hbR)
  · exact grown_far (grown_far (grown_far (grown_far (grown_far (grown_far HG9.out (Nat.le_refl _) 0 _) (Nat.le_refl _) 1 _) (Nat.le_refl _) 2 _) (Nat.le_refl _) 3 _) (Nat.le_refl _) 4 _) (Nat.le_refl _) 5 _
set_option maxHeartbeats 4000000 in
theorem c189_3_n (P b : Nat) (bo : Int) (hbo : bo = 0 ∨ bo = 1) (no : Bool) (x y z m : Nat) (u1 u2 u3 u4 r : List UInt8) (h1 : u1.length = 8) (h2 : u2.length = 8) (h3 : u3.length = 8) (h4 : u4.length = 8) (e1 : dec bo u1 = x) (e2 : dec bo u2 = y) (e3 : dec bo u3 = z) (e4 : dec bo u4 = m) (hx : nanB x = true) (hy : nanB y = true) (w : World) (h : Pr P b bo no ((u1 ++ (u2 ++ (u3 ++ (u4 ++ r))))) w) :
    Calls Tryz.prog 189 #[.pointer (some ⟨P, 0, none⟩), .int .u8 3] w (PointR P b bo no (emptyPt 3) r w) := by
  have hsf := st_float
  have hlP := h.lt
  have hlb := h.inb.2
  have l0 := Lib.hid (Lb.new' w #[.float .f64 0, .float .f64 0, .float .f64 0, .float .f64 0, .int .u8 0, .bool false] 63 (.cells #[.float .f64 0, .float .f64 0, .float .f64 0, .float .f64 0, .int .u8 3] 61))
  have l1 := Lib.hid (Lb.new2 w (.cells #[.float .f64 0, .float .f64 0, .float .f64 0, .float .f64 0, .int .u8 0, .bool false] 63) #[.float .f64 0, .float .f64 0, .float .f64 0, .float .f64 0, .int .u8 3] 61)
  have hb0 := bl_a2 w (.cells #[.float .f64 0, .float .f64 0, .float .f64 0, .float .f64 0, .int .u8 0, .bool false] 63) (.cells #[.float .f64 0, .float .f64 0, .float .f64 0, .float .f64 0, .int .u8 3] 61)
  have HG := Lib.hid (below_grown hb0 (some P))
  have HC := c232 P b bo hbo no u1 _ h1 _ (h.blw hb0)
  rw [e1] at HC
  replace HC := Lib.hid HC
  have HX := d23 x; have HY := d23 y
  rw [hx] at HX; rw [hy] at HY
  have HX := Lib.hid HX; have HY := Lib.hid HY
  clear h hx hy hb0
  go_enter Tryz.func189, Tryz.ntmps189
  go_wp2_with fail
  refine HC.out.mono ?_
  rintro _ w1 ⟨rfl, hp1, hg1⟩
  have hsz1 : w.heap.size + 2 ≤ w1.heap.size := by have := hg1.size; simpa using this
  have l1' := (l1.out.grown hg1 (fun e => by have := Option.some.inj e; omega)).set 0 (.float .f64 x)
  have l0' := (l0.out.grown hg1 (fun e => by have := Option.some.inj e; omega)).far (p := ⟨w.heap.size + 1, 0, none⟩) (by simp) (.float .f64 x)
  have hpp := hp1.far (k := w.heap.size + 1) 0 (.float .f64 x) (by omega) (by omega)
  have HG' : w.grownBy (w1.setCell ⟨w.heap.size + 1, 0, none⟩ (.float .f64 x)) (some P) := grown_far (grown_trans HG.out hg1) (Nat.le_succ _) 0 _
  obtain ⟨kc1, fc1, lc1⟩ := l1'.use
  obtain ⟨kd1, fd1, ld1⟩ := (l1.out.grown hg1 (fun e => by have := Option.some.inj e; omega)).use
  replace l1 : Hid (Lb _ _ #[.float .f64 x, .float .f64 0, .float .f64 0, .float .f64 0, .int .u8 3] 61) := Lib.hid (by simpa using l1'); replace l0 := Lib.hid l0'; replace HG := Lib.hid HG'
  replace HC := c232 P b bo hbo no u2 _ h2 _ hpp
  rw [e2] at HC
  replace HC := Lib.hid HC
  clear hp1 hg1 l1' l0' hpp HG'
  go_wp2_with fail
  refine HC.out.mono ?_
  rintro _ w2 ⟨rfl, hp2, hg2⟩
  have hsz2 : w.heap.size + 2 ≤ w2.heap.size := by have := hg2.size; simp [World.setCell] at this; omega
  have l1' := (l1.out.grown hg2 (fun e => by have := Option.some.inj e; omega)).set 1 (.float .f64 y)
  have l0' := (l0.out.grown hg2 (fun e => by have := Option.some.inj e; omega)).far (p := ⟨w.heap.size + 1, 1, none⟩) (by simp) (.float .f64 y)
  have hpp := hp2.far (k := w.heap.size + 1) 1 (.float .f64 y) (by omega) (by omega)
  have HG' : w.grownBy (w2.setCell ⟨w.heap.size + 1, 1, none⟩ (.float .f64 y)) (some P) := grown_far (grown_trans HG.out hg2) (Nat.le_succ _) 1 _
  obtain ⟨kc2, fc2, lc2⟩ := l1'.use
  obtain ⟨kd2, fd2, ld2⟩ := (l1.out.grown hg2 (fun e => by have := Option.some.inj e; omega)).use
  replace l1 : Hid (Lb _ _ #[.float .f64 x, .float .f64 y, .float .f64 0, .float .f64 0, .int .u8 3] 61) := Lib.hid (by simpa using l1'); replace l0 := Lib.hid l0'; replace HG := Lib.hid HG'
  replace HC := c232 P b bo hbo no u3 _ h3 _ hpp
  rw [e3] at HC
  replace HC := Lib.hid HC
  clear hp2 hg2 l1' l0' hpp HG' kc1 fc1 lc1 kd1 fd1 ld1
  go_wp2_with fail
  refine HC.out.mono ?_
  rintro _ w3 ⟨rfl, hp3, hg3⟩
  have hsz3 : w.heap.size + 2 ≤ w3.heap.size := by have := hg3.size; simp [World.setCell] at this; omega
  have l1' := (l1.out.grown hg3 (fun e => by have := Option.some.inj e; omega)).set 2 (.float .f64 z)
  have l0' := (l0.out.grown hg3 (fun e => by have := Option.some.inj e; omega)).far (p := ⟨w.heap.size + 1, 2, none⟩) (by simp) (.float .f64 z)
  have hpp := hp3.far (k := w.heap.size + 1) 2 (.float .f64 z) (by omega) (by omega)
  have HG' : w.grownBy (w3.setCell ⟨w.heap.size + 1, 2, none⟩ (.float .f64 z)) (some P) := grown_far (grown_trans HG.out hg3) (Nat.le_succ _) 2 _
  obtain ⟨kc3, fc3, lc3⟩ := l1'.use
  obtain ⟨kd3, fd3, ld3⟩ := (l1.out.grown hg3 (fun e => by have := Option.some.inj e; omega)).use
  replace l1 : Hid (Lb _ _ #[.float .f64 x, .float .f64 y, .float .f64 z, .float .f64 0, .int .u8 3] 61) := Lib.hid (by simpa using l1'); replace l0 := Lib.hid l0'; replace HG := Lib.hid HG'
  replace HC := c232 P b bo hbo no u4 _ h4 _ hpp
  rw [e4] at HC
  replace HC := Lib.hid HC
  clear hp3 hg3 l1' l0' hpp HG' kc2 fc2 lc2 kd2 fd2 ld2
  go_wp2_with fail
  refine HC.out.mono ?_
  rintro _ w4 ⟨rfl, hp4, hg4⟩
  have hsz4 : w.heap.size + 2 ≤ w4.heap.size := by have := hg4.size; simp [World.setCell] at this; omega
  have l1' := (l1.out.grown hg4 (fun e => by have := Option.some.inj e; omega)).set 3 (.float .f64 m)
  have l0' := (l0.out.grown hg4 (fun e => by have := Option.some.inj e; omega)).far (p := ⟨w.heap.size + 1, 3, none⟩) (by simp) (.float .f64 m)
  have hpp := hp4.far (k := w.heap.size + 1) 3 (.float .f64 m) (by omega) (by omega)
  have HG' : w.grownBy (w4.setCell ⟨w.heap.size + 1, 3, none⟩ (.float .f64 m)) (some P) := grown_far (grown_trans HG.out hg4) (Nat.le_succ _) 3 _
  obtain ⟨kc4, fc4, lc4⟩ := l1'.use
  obtain ⟨kd4, fd4, ld4⟩ := (l1.out.grown hg4 (fun e => by have := Option.some.inj e; omega)).use
  replace l1 : Hid (Lb _ _ #[.float .f64 x, .float .f64 y, .float .f64 z, .float .f64 m, .int .u8 3] 61) := Lib.hid (by simpa using l1'); replace l0 := Lib.hid l0'; replace HG := Lib.hid HG'
  have HPP := Lib.hid hpp
  obtain ⟨kr, fr, lr⟩ := l0.out.use
  clear hp4 hg4 l1' l0' hpp HG' HC kc3 fc3 lc3 kd3 fd3 ld3
  have H114 : Hid (∀ w, Calls Tryz.prog 114 #[.agg #[.float .f64 0, .float .f64 0, .float .f64 0, .float .f64 0, .int .u8 0, .bool false], .int .u8 3] w fun e w' => e = .returned (.agg #[.float .f64 0, .float .f64 0, .float .f64 0, .float .f64 0, .int .u8 3, .bool false]) ∧ Below w.heap.size w w') := Lib.hid fun w => c114 (emptyPt 0) 3 w (by decide) (by decide) (by decide) (by decide)
  go_wp2_with (go_at_call 23; first | (refine (HX.out _).mono ?_; rintro _ _ ⟨rfl, rfl⟩) | (refine (HY.out _).mono ?_; rintro _ _ ⟨rfl, rfl⟩))
  refine (H114.out _).mono ?_
  rintro _ w9 ⟨rfl, hb9⟩
  obtain ⟨kz, fz, lz⟩ := (l0.out.blw hb9).use
  have HP9 := Lib.hid (HPP.out.blw hb9)
  have HG9 := Lib.hid (grown_trans HG.out (below_grown hb9 _))
  clear hb9 HPP HG l0 l1 HX HY
  go_wp2_with fail
  refine bodyPost_ret (v := .tuple #[.agg #[.float .f64 0, .float .f64 0, .float .f64 0, .float .f64 0, .int .u8 3, .bool false], .nilIface]) (by simp [results, Tryz.results189, go_sem, kz]) rfl ⟨rfl, ?_, ?_⟩
  · have hPR : P ≠ w.heap.size := by omega
    have hbR : b ≠ w.heap.size := by omega
    exact ((((((HP9.out.far 0 _ hPR hbR).far 1 _ hPR hbR).far 2 _ hPR hbR).far 3 _ hPR hbR).far 4 _ hPR hbR).far 5 _ hPR hbR)
  · exact grown_far (grown_far (grown_far (grown_far (grown_far (grown_far HG9.out (Nat.le_refl _) 0 _) (Nat.le_refl _) 1 _) (Nat.le_refl _) 2 _) (Nat.le_refl _) 3 _) (Nat.le_refl _) 4 _) (Nat.le_refl _) 5 _
/-- A place's bytes: of a full point, or, NaN where X and Y should be, of an empty one. -/
def PtE (bo t : Int) (ns : List Nat) (l : List UInt8) : Prop := ∃ ms, F8 bo ms l ∧ ms.length = dN t ∧ ((ns = ms ∧ nanB (ms.getD 0 0) = false ∧ nanB (ms.getD 1 0) = false) ∨ (ns = [] ∧ nanB (ms.getD 0 0) = true ∧ nanB (ms.getD 1 0) = true))
theorem c189 (P b : Nat) (bo : Int) (hbo : bo = 0 ∨ bo = 1) (no : Bool) (t : Int) (t0 : 0 ≤ t) (t1 : t ≤ 3) (ns : List Nat) (l r : List UInt8) (hp : PtE bo t ns l) (w : World) (h : Pr P b bo no (l ++ r) w) :
    Calls Tryz.prog 189 #[.pointer (some ⟨P, 0, none⟩), .int .u8 t] w (PointR P b bo no (pointOf 1 t ns) r w) := by
  obtain ⟨ms, hf, hm, hc⟩ := hp
  obtain ⟨d0, d1, d2, d3⟩ := dN_vals
  rcases four t t0 t1 with rfl | rfl | rfl | rfl
  · rw [d0] at hm
    obtain ⟨a, bb, rfl⟩ : ∃ a bb, ms = [a, bb] := by
      match ms, hm with
      | [a, bb], _ => exact ⟨a, bb, rfl⟩
    obtain ⟨p1, q1, rfl, hl1, he1, hf⟩ := hf.split
    obtain ⟨p2, q2, rfl, hl2, he2, hf⟩ := hf.split
    obtain rfl := hf.nil
    simp only [List.append_assoc, List.append_nil] at h
    have hq : ∀ ns, ns = [] ∨ ns = [a, bb] → pointOf 1 0 ns = if ns = [] then emptyPt 0 else ⟨crdOf 0 [a, bb] 0, true⟩ := fun ns hns => by
      rcases hns with rfl | rfl <;> simp [pointOf, seqX, d0]
    have hcr : crdOf 0 [a, bb] 0 = ⟨a, bb, 0, 0, 0⟩ := by simp [crdOf]
    rcases hc with ⟨rfl, hx, hy⟩ | ⟨rfl, hx, hy⟩
    · rw [hq _ (.inr rfl), if_neg (by simp), hcr]
      exact c189_0_f P b bo hbo no a bb p1 p2 r hl1 hl2 he1 he2 hx hy w h
    · rw [hq _ (.inl rfl), if_pos rfl]
      exact c189_0_n P b bo hbo no a bb p1 p2 r hl1 hl2 he1 he2 hx hy w h
  · rw [d1] at hm
    obtain ⟨a, bb, c, rfl⟩ : ∃ a bb c, ms = [a, bb, c] := by
      match ms, hm with
      | [a, bb, c], _ => exact ⟨a, bb, c, rfl⟩
    obtain ⟨p1, q1, rfl, hl1, he1, hf⟩ := hf.split
    obtain ⟨p2, q2, rfl, hl2, he2, hf⟩ := hf.split
    obtain ⟨p3, q3, rfl, hl3, he3, hf⟩ := hf.split
    obtain rfl := hf.nil
    simp only [List.append_assoc, List.append_nil] at h
    have hq : ∀ ns, ns = [] ∨ ns = [a, bb, c] → pointOf 1 1 ns = if ns = [] then emptyPt 1 else ⟨crdOf 1 [a, bb, c] 0, true⟩ := fun ns hns => by
      rcases hns with rfl | rfl <;> simp [pointOf, seqX, d1]
    have hcr : crdOf 1 [a, bb, c] 0 = ⟨a, bb, c, 0, 1⟩ := by simp [crdOf]
    rcases hc with ⟨rfl, hx, hy⟩ | ⟨rfl, hx, hy⟩
    · rw [hq _ (.inr rfl), if_neg (by simp), hcr]
      exact c189_1_f P b bo hbo no a bb c p1 p2 p3 r hl1 hl2 hl3 he1 he2 he3 hx hy w h
    · rw [hq _ (.inl rfl), if_pos rfl]
      exact c189_1_n P b bo hbo no a bb c p1 p2 p3 r hl1 hl2 hl3 he1 he2 he3 hx hy w h
  · rw [d2] at hm
    obtain ⟨a, bb, c, rfl⟩ : ∃ a bb c, ms = [a, bb, c] := by
      match ms, hm with
      | [a, bb, c], _ => exact ⟨a, bb, c, rfl⟩
    obtain ⟨p1, q1, rfl, hl1, he1, hf⟩ := hf.split
    obtain ⟨p2, q2, rfl, hl2, he2, hf⟩ := hf.split
    obtain ⟨p3, q3, rfl, hl3, he3, hf⟩ := hf.split
    obtain rfl := hf.nil
    simp only [List.append_assoc, List.append_nil] at h
    have hq : ∀ ns, ns = [] ∨ ns = [a, bb, c] → pointOf 1 2 ns = if ns = [] then emptyPt 2 else ⟨crdOf 2 [a, bb, c] 0, true⟩ := fun ns hns => by
      rcases hns with rfl | rfl <;> simp [pointOf, seqX, d2]
    have hcr : crdOf 2 [a, bb, c] 0 = ⟨a, bb, 0, c, 2⟩ := by simp [crdOf]
    rcases hc with ⟨rfl, hx, hy⟩ | ⟨rfl, hx, hy⟩
    · rw [hq _ (.inr rfl), if_neg (by simp), hcr]
      exact c189_2_f P b bo hbo no a bb c p1 p2 p3 r hl1 hl2 hl3 he1 he2 he3 hx hy w h
    · rw [hq _ (.inl rfl), if_pos rfl]
      exact c189_2_n P b bo hbo no a bb c p1 p2 p3 r hl1 hl2 hl3 he1 he2 he3 hx hy w h
  · rw [d3] at hm
    obtain ⟨a, bb, c, d, rfl⟩ : ∃ a bb c d, ms = [a, bb, c, d] := by
      match ms, hm with
      | [a, bb, c, d], _ => exact ⟨a, bb, c, d, rfl⟩
    obtain ⟨p1, q1, rfl, hl1, he1, hf⟩ := hf.split
    obtain ⟨p2, q2, rfl, hl2, he2, hf⟩ := hf.split
    obtain ⟨p3, q3, rfl, hl3, he3, hf⟩ := hf.split
    obtain ⟨p4, q4, rfl, hl4, he4, hf⟩ := hf.split
    obtain rfl := hf.nil
    simp only [List.append_assoc, List.append_nil] at h
    have hq : ∀ ns, ns = [] ∨ ns = [a, bb, c, d] → pointOf 1 3 ns = if ns = [] then emptyPt 3 else ⟨crdOf 3 [a, bb, c, d] 0, true⟩ := fun ns hns => by
      rcases hns with rfl | rfl <;> simp [pointOf, seqX, d3]
    have hcr : crdOf 3 [a, bb, c, d] 0 = ⟨a, bb, c, d, 3⟩ := by simp [crdOf]
    rcases hc with ⟨rfl, hx, hy⟩ | ⟨rfl, hx, hy⟩
    · rw [hq _ (.inr rfl), if_neg (by simp), hcr]
      exact c189_3_f P b bo hbo no a bb c d p1 p2 p3 p4 r hl1 hl2 hl3 hl4 he1 he2 he3 he4 hx hy w h
    · rw [hq _ (.inl rfl), if_pos rfl]
      exact c189_3_n P b bo hbo no a bb c d p1 p2 p3 p4 r hl1 hl2 hl3 hl4 he1 he2 he3 he4 hx hy w h
end Go.Proofs.YtahnhhkbdgaidaaGreatDoor
