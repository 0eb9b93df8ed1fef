/-
  The writer of binary forms: a place, a kind.
-/
import Derived.Test.YtahnhhkbdgaidaaGreatDoorKaw
namespace Go.Proofs.YtahnhhkbdgaidaaGreatDoor
open Go.RowKit
set_option maxRecDepth 100000
set_option maxHeartbeats 2000000 in
theorem c222_0 (B M : Nat) (v : Value) (bs : List UInt8) (x y z m : Nat) (w : World) (hx : x < 18446744073709551616) (hy : y < 18446744073709551616) (h : Bu B M v bs w) (hlen : bs.length ≤ 10000000000000) :
    Calls Tryz.prog 222 #[.pointer (some ⟨M, 0, none⟩), .agg #[.float .f64 x, .float .f64 y, .float .f64 z, .float .f64 m, .int .u8 0]] w fun e w' => ∃ v', e = .returned (.tuple #[]) ∧ Bu B M v' (bs ++ fby [x, y]) w' ∧ Wr w M v w' v' := by
  have H138 : ∀ w, Calls Tryz.prog 138 #[.int .u8 0] w fun e w' => e = .returned (.bool false) ∧ w = w' := fun w => c138 0 w (by decide) (by decide)
  have H148 : ∀ w, Calls Tryz.prog 148 #[.int .u8 0] w fun e w' => e = .returned (.bool false) ∧ w = w' := fun w => c148 0 w (by decide) (by decide)
  have H138 := Lib.hid H138; have H148 := Lib.hid H148
  have l0 := Lib.hid (Lb.new w #[.float .f64 x, .float .f64 y, .float .f64 z, .float .f64 m, .int .u8 0] 61)
  have hne : some w.heap.size ≠ v.ownBlock := fun e => by have := (h.blk _ e.symm).2; omega
  have hM : M < w.heap.size := h.lb.use.2.2
  have hA := h.step (bl_a1 w (.cells #[.float .f64 x, .float .f64 y, .float .f64 z, .float .f64 m, .int .u8 0] 61))
  have HW := Lib.hid (Wr.of_below M v (bl_a1 w (.cells #[.float .f64 x, .float .f64 y, .float .f64 z, .float .f64 m, .int .u8 0] 61)))
  have HC := Lib.hid (c266 B M v bs x _ hA hx (by omega))
  have hlen0 : bs.length ≤ 10000000000000 := hlen
  clear hA h
  go_enter Tryz.func222, Tryz.ntmps222
  go_wp2_with fail
  refine HC.out.mono ?_
  rintro _ w1 ⟨v1, rfl, hB1, hW1⟩
  have hsz1 : w.heap.size + 1 ≤ w1.heap.size := by have := hW1.size; simp at this; omega
  replace l0 := Lib.hid (hW1.lb l0.out (by omega) hne)
  have hne1 := hW1.fresh (L := w.heap.size) (by simp) hne
  replace HW := Lib.hid (HW.out.trans hW1)
  obtain ⟨kk1, _, _⟩ := l0.out.use
  have HB1 := Lib.hid hB1
  replace HC := Lib.hid (c266 B M v1 (bs ++ Lib.leBytes 8 x) y w1 hB1 hy (by simp only [List.length_append, Lib.leBytes_length]; omega))
  clear hB1 hW1
  go_wp2_with (first | (go_at_call 138; refine (H138.out _).mono ?_; rintro _ _ ⟨rfl, rfl⟩) | (go_at_call 148; refine (H148.out _).mono ?_; rintro _ _ ⟨rfl, rfl⟩))
  refine HC.out.mono ?_
  rintro _ w2 ⟨v2, rfl, hB2, hW2⟩
  have hsz2 : w.heap.size + 1 ≤ w2.heap.size := by have := hW2.size; omega
  replace l0 := Lib.hid (hW2.lb l0.out (by omega) hne1)
  have hne2 := hW2.fresh (L := w.heap.size) (by omega) hne1
  replace HW := Lib.hid (HW.out.trans hW2)
  obtain ⟨kk2, _, _⟩ := l0.out.use
  have HB2 := Lib.hid hB2
  clear hB2 hW2 kk1
  go_wp2_with (first | (go_at_call 138; refine (H138.out _).mono ?_; rintro _ _ ⟨rfl, rfl⟩) | (go_at_call 148; refine (H148.out _).mono ?_; rintro _ _ ⟨rfl, rfl⟩))
  go_end0
  exact ⟨v2, rfl, by simpa [fby] using HB2.out, HW.out⟩
set_option maxHeartbeats 2000000 in
theorem c222_1 (B M : Nat) (v : Value) (bs : List UInt8) (x y z m : Nat) (w : World) (hx : x < 18446744073709551616) (hy : y < 18446744073709551616) (hz : z < 18446744073709551616) (h : Bu B M v bs w) (hlen : bs.length ≤ 10000000000000) :
    Calls Tryz.prog 222 #[.pointer (some ⟨M, 0, none⟩), .agg #[.float .f64 x, .float .f64 y, .float .f64 z, .float .f64 m, .int .u8 1]] w fun e w' => ∃ v', e = .returned (.tuple #[]) ∧ Bu B M v' (bs ++ fby [x, y, z]) w' ∧ Wr w M v w' v' := by
  have H138 : ∀ w, Calls Tryz.prog 138 #[.int .u8 1] w fun e w' => e = .returned (.bool true) ∧ w = w' := fun w => c138 1 w (by decide) (by decide)
  have H148 : ∀ w, Calls Tryz.prog 148 #[.int .u8 1] w fun e w' => e = .returned (.bool false) ∧ w = w' := fun w => c148 1 w (by decide) (by decide)
  have H138 := Lib.hid H138; have H148 := Lib.hid H148
  have l0 := Lib.hid (Lb.new w #[.float .f64 x, .float .f64 y, .float .f64 z, .float .f64 m, .int .u8 1] 61)
  have hne : some w.heap.size ≠ v.ownBlock := fun e => by have := (h.blk _ e.symm).2; omega
  have hM : M < w.heap.size := h.lb.use.2.2
  have hA := h.step (bl_a1 w (.cells #[.float .f64 x, .float .f64 y, .float .f64 z, .float .f64 m, .int .u8 1] 61))
  have HW := Lib.hid (Wr.of_below M v (bl_a1 w (.cells #[.float .f64 x, .float .f64 y, .float .f64 z, .float .f64 m, .int .u8 1] 61)))
  have HC := Lib.hid (c266 B M v bs x _ hA hx (by omega))
  have hlen0 : bs.length ≤ 10000000000000 := hlen
  clear hA h
  go_enter Tryz.func222, Tryz.ntmps222
  go_wp2_with fail
  refine HC.out.mono ?_
  rintro _ w1 ⟨v1, rfl, hB1, hW1⟩
  have hsz1 : w.heap.size + 1 ≤ w1.heap.size := by have := hW1.size; simp at this; omega
  replace l0 := Lib.hid (hW1.lb l0.out (by omega) hne)
  have hne1 := hW1.fresh (L := w.heap.size) (by simp) hne
  replace HW := Lib.hid (HW.out.trans hW1)
  obtain ⟨kk1, _, _⟩ := l0.out.use
  have HB1 := Lib.hid hB1
  replace HC := Lib.hid (c266 B M v1 (bs ++ Lib.leBytes 8 x) y w1 hB1 hy (by simp only [List.length_append, Lib.leBytes_length]; omega))
  clear hB1 hW1
  go_wp2_with (first | (go_at_call 138; refine (H138.out _).mono ?_; rintro _ _ ⟨rfl, rfl⟩) | (go_at_call 148; refine (H148.out _).mono ?_; rintro _ _ ⟨rfl, rfl⟩))
  refine HC.out.mono ?_
  rintro _ w2 ⟨v2, rfl, hB2, hW2⟩
  have hsz2 : w.heap.size + 1 ≤ w2.heap.size := by have := hW2.size; omega
  replace l0 := Lib.hid (hW2.lb l0.out (by omega) hne1)
  have hne2 := hW2.fresh (L := w.heap.size) (by omega) hne1
  replace HW := Lib.hid (HW.out.trans hW2)
  obtain ⟨kk2, _, _⟩ := l0.out.use
  have HB2 := Lib.hid hB2
  replace HC := Lib.hid (c266 B M v2 ((bs ++ Lib.leBytes 8 x) ++ Lib.leBytes 8 y) z w2 hB2 hz (by simp only [List.length_append, Lib.leBytes_length]; omega))
  clear hB2 hW2 kk1
  go_wp2_with (first | (go_at_call 138; refine (H138.out _).mono ?_; rintro _ _ ⟨rfl, rfl⟩) | (go_at_call 148; refine (H148.out _).mono ?_; rintro _ _ ⟨rfl, rfl⟩))
  refine HC.out.mono ?_
  rintro _ w3 ⟨v3, rfl, hB3, hW3⟩
  have hsz3 : w.heap.size + 1 ≤ w3.heap.size := by have := hW3.size; omega
  replace l0 := Lib.hid (hW3.lb l0.out (by omega) hne2)
  have hne3 := hW3.fresh (L := w.heap.size) (by omega) hne2
  replace HW := Lib.hid (HW.out.trans hW3)
  obtain ⟨kk3, _, _⟩ := l0.out.use
  have HB3 := Lib.hid hB3
  clear hB3 hW3 kk2
  go_wp2_with (first | (go_at_call 138; refine (H138.out _).mono ?_; rintro _ _ ⟨rfl, rfl⟩) | (go_at_call 148; refine (H148.out _).mono ?_; rintro _ _ ⟨rfl, rfl⟩))
  go_end0
  exact ⟨v3, rfl, by simpa [fby] using HB3.out, HW.out⟩
set_option maxHeartbeats 2000000 in
theorem c222_2 (B M : Nat) (v : Value) (bs : List UInt8) (x y z m : Nat) (w : World) (hx : x < 18446744073709551616) (hy : y < 18446744073709551616) (hm : m < 18446744073709551616) (h : Bu B M v bs w) (hlen : bs.length ≤ 10000000000000) :
    Calls Tryz.prog 222 #[.pointer (some ⟨M, 0, none⟩), .agg #[.float .f64 x, .float .f64 y, .float .f64 z, .float .f64 m, .int .u8 2]] w fun e w' => ∃ v', e = .returned (.tuple #[]) ∧ Bu B M v' (bs ++ fby [x, y, m]) w' ∧ Wr w M v w' v' := by
  have H138 : ∀ w, Calls Tryz.prog 138 #[.int .u8 2] w fun e w' => e = .returned (.bool false) ∧ w = w' := fun w => c138 2 w (by decide) (by decide)
  have H148 : ∀ w, Calls Tryz.prog 148 #[.int .u8 2] w fun e w' => e = .returned (.bool true) ∧ w = w' := fun w => c148 2 w (by decide) (by decide)
  have H138 := Lib.hid H138; have H148 := Lib.hid H148
  have l0 := Lib.hid (Lb.new w #[.float .f64 x, .float .f64 y, .float .f64 z, .float .f64 m, .int .u8 2] 61)
  have hne : some w.heap.size ≠ v.ownBlock := fun e => by have := (h.blk _ e.symm).2; omega
  have hM : M < w.heap.size := h.lb.use.2.2
  have hA := h.step (bl_a1 w (.cells #[.float .f64 x, .float .f64 y, .float .f64 z, .float .f64 m, .int .u8 2] 61))
  have HW := Lib.hid (Wr.of_below M v (bl_a1 w (.cells #[.float .f64 x, .float .f64 y, .float .f64 z, .float .f64 m, .int .u8 2] 61)))
  have HC := Lib.hid (c266 B M v bs x _ hA hx (by omega))
  have hlen0 : bs.length ≤ 10000000000000 := hlen
  clear hA h
  go_enter Tryz.func222, Tryz.ntmps222
  go_wp2_with fail
  refine HC.out.mono ?_
  rintro _ w1 ⟨v1, rfl, hB1, hW1⟩
  have hsz1 : w.heap.size + 1 ≤ w1.heap.size := by have := hW1.size; simp at this; omega
  replace l0 := Lib.hid (hW1.lb l0.out (by omega) hne)
  have hne1 := hW1.fresh (L := w.heap.size) (by simp) hne
  replace HW := Lib.hid (HW.out.trans hW1)
  obtain ⟨kk1, _, _⟩ := l0.out.use
  have HB1 := Lib.hid hB1
  replace HC := Lib.hid (c266 B M v1 (bs ++ Lib.leBytes 8 x) y w1 hB1 hy (by simp only [List.length_append, Lib.leBytes_length]; omega))
  clear hB1 hW1
  go_wp2_with (first | (go_at_call 138; refine (H138.out _).mono ?_; rintro _ _ ⟨rfl, rfl⟩) | (go_at_call 148; refine (H148.out _).mono ?_; rintro _ _ ⟨rfl, rfl⟩))
  refine HC.out.mono ?_
  rintro _ w2 ⟨v2, rfl, hB2, hW2⟩
  have hsz2 : w.heap.size + 1 ≤ w2.heap.size := by have := hW2.size; omega
  replace l0 := Lib.hid (hW2.lb l0.out (by omega) hne1)
  have hne2 := hW2.fresh (L := w.heap.size) (by omega) hne1
  replace HW := Lib.hid (HW.out.trans hW2)
  obtain ⟨kk2, _, _⟩ := l0.out.use
  have HB2 := Lib.hid hB2
  replace HC := Lib.hid (c266 B M v2 ((bs ++ Lib.leBytes 8 x) ++ Lib.leBytes 8 y) m w2 hB2 hm (by simp only [List.length_append, Lib.leBytes_length]; omega))
  clear hB2 hW2 kk1
  go_wp2_with (first | (go_at_call 138; refine (H138.out _).mono ?_; rintro _ _ ⟨rfl, rfl⟩) | (go_at_call 148; refine (H148.out _).mono ?_; rintro _ _ ⟨rfl, rfl⟩))
  refine HC.out.mono ?_
  rintro _ w3 ⟨v3, rfl, hB3, hW3⟩
  have hsz3 : w.heap.size + 1 ≤ w3.heap.size := by have := hW3.size; omega
  replace l0 := Lib.hid (hW3.lb l0.out (by omega) hne2)
  have hne3 := hW3.fresh (L := w.heap.size) (by omega) hne2
  replace HW := Lib.hid (HW.out.trans hW3)
  obtain ⟨kk3, _, _⟩ := l0.out.use
  have HB3 := Lib.hid hB3
  clear hB3 hW3 kk2
  go_wp2_with (first | (go_at_call 138; refine (H138.out _).mono ?_; rintro _ _ ⟨rfl, rfl⟩) | (go_at_call 148; refine (H148.out _).mono ?_; rintro _ _ ⟨rfl, rfl⟩))
  go_end0
  exact ⟨v3, rfl, by simpa [fby] using HB3.out, HW.out⟩
set_option maxHeartbeats 2000000 in
theorem c222_3 (B M : Nat) (v : Value) (bs : List UInt8) (x y z m : Nat) (w : World) (hx : x < 18446744073709551616) (hy : y < 18446744073709551616) (hz : z < 18446744073709551616) (hm : m < 18446744073709551616) (h : Bu B M v bs w) (hlen : bs.length ≤ 10000000000000) :
    Calls Tryz.prog 222 #[.pointer (some ⟨M, 0, none⟩), .agg #[.float .f64 x, .float .f64 y, .float .f64 z, .float .f64 m, .int .u8 3]] w fun e w' => ∃ v', e = .returned (.tuple #[]) ∧ Bu B M v' (bs ++ fby [x, y, z, m]) w' ∧ Wr w M v w' v' := by
  have H138 : ∀ w, Calls Tryz.prog 138 #[.int .u8 3] w fun e w' => e = .returned (.bool true) ∧ w = w' := fun w => c138 3 w (by decide) (by decide)
  have H148 : ∀ w, Calls Tryz.prog 148 #[.int .u8 3] w fun e w' => e = .returned (.bool true) ∧ w = w' := fun w => c148 3 w (by decide) (by decide)
  have H138 := Lib.hid H138; have H148 := Lib.hid H148
  have l0 := Lib.hid (Lb.new w #[.float .f64 x, .float .f64 y, .float .f64 z, .float .f64 m, .int .u8 3] 61)
  have hne : some w.heap.size ≠ v.ownBlock := fun e => by have := (h.blk _ e.symm).2; omega
  have hM : M < w.heap.size := h.lb.use.2.2
  have hA := h.step (bl_a1 w (.cells #[.float .f64 x, .float .f64 y, .float .f64 z, .float .f64 m, .int .u8 3] 61))
  have HW := Lib.hid (Wr.of_below M v (bl_a1 w (.cells #[.float .f64 x, .float .f64 y, .float .f64 z, .float .f64 m, .int .u8 3] 61)))
  have HC := Lib.hid (c266 B M v bs x _ hA hx (by omega))
  have hlen0 : bs.length ≤ 10000000000000 := hlen
  clear hA h
  go_enter Tryz.func222, Tryz.ntmps222
  go_wp2_with fail
  refine HC.out.mono ?_
  rintro _ w1 ⟨v1, rfl, hB1, hW1⟩
  have hsz1 : w.heap.size + 1 ≤ w1.heap.size := by have := hW1.size; simp at this; omega
  replace l0 := Lib.hid (hW1.lb l0.out (by omega) hne)
  have hne1 := hW1.fresh (L := w.heap.size) (by simp) hne
  replace HW := Lib.hid (HW.out.trans hW1)
  obtain ⟨kk1, _, _⟩ := l0.out.use
  have HB1 := Lib.hid hB1
  replace HC := Lib.hid (c266 B M v1 (bs ++ Lib.leBytes 8 x) y w1 hB1 hy (by simp only [List.length_append, Lib.leBytes_length]; omega))
  clear hB1 hW1
  go_wp2_with (first | (go_at_call 138; refine (H138.out _).mono ?_; rintro _ _ ⟨rfl, rfl⟩) | (go_at_call 148; refine (H148.out _).mono ?_; rintro _ _ ⟨rfl, rfl⟩))
  refine HC.out.mono ?_
  rintro _ w2 ⟨v2, rfl, hB2, hW2⟩
  have hsz2 : w.heap.size + 1 ≤ w2.heap.size := by have := hW2.size; omega
  replace l0 := Lib.hid (hW2.lb l0.out (by omega) hne1)
  have hne2 := hW2.fresh (L := w.heap.size) (by omega) hne1
  replace HW := Lib.hid (HW.out.trans hW2)
  obtain ⟨kk2, _, _⟩ := l0.out.use
  have HB2 := Lib.hid hB2
  replace HC := Lib.hid (c266 B M v2 ((bs ++ Lib.leBytes 8 x) ++ Lib.leBytes 8 y) z w2 hB2 hz (by simp only [List.length_append, Lib.leBytes_length]; omega))
  clear hB2 hW2 kk1
  go_wp2_with (first | (go_at_call 138; refine (H138.out _).mono ?_; rintro _ _ ⟨rfl, rfl⟩) | (go_at_call 148; refine (H148.out _).mono ?_; rintro _ _ ⟨rfl, rfl⟩))
  refine HC.out.mono ?_
  rintro _ w3 ⟨v3, rfl, hB3, hW3⟩
  have hsz3 : w.heap.size + 1 ≤ w3.heap.size := by have := hW3.size; omega
  replace l0 := Lib.hid (hW3.lb l0.out (by omega) hne2)
  have hne3 := hW3.fresh (L := w.heap.size) (by omega) hne2
  replace HW := Lib.hid (HW.out.trans hW3)
  obtain ⟨kk3, _, _⟩ := l0.out.use
  have HB3 := Lib.hid hB3
  replace HC := Lib.hid (c266 B M v3 (((bs ++ Lib.leBytes 8 x) ++ Lib.leBytes 8 y) ++ Lib.leBytes 8 z) m w3 hB3 hm (by simp only [List.length_append, Lib.leBytes_length]; omega))
  clear hB3 hW3 kk2
  go_wp2_with (first | (go_at_call 138; refine (H138.out _).mono ?_; rintro _ _ ⟨rfl, rfl⟩) | (go_at_call 148; refine (H148.out _).mono ?_; rintro _ _ ⟨rfl, rfl⟩))
  refine HC.out.mono ?_
  rintro _ w4 ⟨v4, rfl, hB4, hW4⟩
  have hsz4 : w.heap.size + 1 ≤ w4.heap.size := by have := hW4.size; omega
  replace l0 := Lib.hid (hW4.lb l0.out (by omega) hne3)
  have hne4 := hW4.fresh (L := w.heap.size) (by omega) hne3
  replace HW := Lib.hid (HW.out.trans hW4)
  obtain ⟨kk4, _, _⟩ := l0.out.use
  have HB4 := Lib.hid hB4
  clear hB4 hW4 kk3
  go_wp2_with (first | (go_at_call 138; refine (H138.out _).mono ?_; rintro _ _ ⟨rfl, rfl⟩) | (go_at_call 148; refine (H148.out _).mono ?_; rintro _ _ ⟨rfl, rfl⟩))
  go_end0
  exact ⟨v4, rfl, by simpa [fby] using HB4.out, HW.out⟩
theorem c222 (B M : Nat) (v : Value) (bs : List UInt8) (c : Crd) (w : World) (h0 : 0 ≤ c.t) (h1 : c.t ≤ 3) (hx : ∀ n ∈ crdNums c.t c, n < 18446744073709551616) (h : Bu B M v bs w) (hlen : bs.length ≤ 10000000000000) :
    Calls Tryz.prog 222 #[.pointer (some ⟨M, 0, none⟩), .agg #[.float .f64 c.x, .float .f64 c.y, .float .f64 c.z, .float .f64 c.m, .int .u8 c.t]] w (More B M v bs (fby (crdNums c.t c)) w) := by
  obtain ⟨x, y, z, m, t⟩ := c
  simp only at h0 h1 hx ⊢
  rcases four t h0 h1 with rfl | rfl | rfl | rfl
  · have e : crdNums 0 ⟨x, y, z, m, 0⟩ = [x, y] := by simp [crdNums]
    rw [e] at hx ⊢
    exact c222_0 B M v bs x y z m w (hx x (by simp)) (hx y (by simp)) h hlen
  · have e : crdNums 1 ⟨x, y, z, m, 1⟩ = [x, y, z] := by simp [crdNums]
    rw [e] at hx ⊢
    exact c222_1 B M v bs x y z m w (hx x (by simp)) (hx y (by simp)) (hx z (by simp)) h hlen
  · have e : crdNums 2 ⟨x, y, z, m, 2⟩ = [x, y, m] := by simp [crdNums]
    rw [e] at hx ⊢
    exact c222_2 B M v bs x y z m w (hx x (by simp)) (hx y (by simp)) (hx m (by simp)) h hlen
  · have e : crdNums 3 ⟨x, y, z, m, 3⟩ = [x, y, z, m] := by simp [crdNums]
    rw [e] at hx ⊢
    exact c222_3 B M v bs x y z m w (hx x (by simp)) (hx y (by simp)) (hx z (by simp)) (hx m (by simp)) h hlen
set_option maxHeartbeats 2000000 in
theorem c219_0 (B M : Nat) (v : Value) (bs : List UInt8) (t : Nat) (w : World) (h : Bu B M v bs w) (ht : t ≤ 3) (hlen : bs.length ≤ 100000000000000) : Calls Tryz.prog 219 #[.pointer (some ⟨M, 0, none⟩), .int .i64 0, .int .u8 (t : Int)] w (More B M v bs (Lib.leBytes 4 (t * 1000 + 7)) w) := by
  obtain ⟨a, c, rfl⟩ := h.shape
  have hA := h.step (bl_a1 w (.cells #[.int .u8 0, .int .u8 0, .int .u8 0, .int .u8 0] 320))
  have hw1 : IntKind.u32.wrap (t : Int) = t := by simp [IntKind.wrap, IntKind.signed, IntKind.bits]; omega
  have hw2 : IntKind.u32.wrap ((t : Int) * 1000) = (t : Int) * 1000 := by simp [IntKind.wrap, IntKind.signed, IntKind.bits]; omega
  have hw3 : IntKind.u32.wrap ((t : Int) * 1000 + 7) = ((t * 1000 + 7 : Nat) : Int) := by simp [IntKind.wrap, IntKind.signed, IntKind.bits]; omega
  have hix : ∀ w, (Instr.index 319 (.agg #[.int .u32 7, .int .u32 1, .int .u32 2, .int .u32 3, .int .u32 4, .int .u32 5, .int .u32 6]) (.int .i64 0)).run Tryz.prog w = .ok (.int .u32 7) w := fun w => by kernel_rfl
  generalize hn : t * 1000 + 7 = n at *
  have hn4 : n < 4294967296 := by omega
  have H265 := Lib.hid (c265 n w.heap.size (.int .u8 0) (.int .u8 0) (.int .u8 0) (.int .u8 0) 320 ((w.alloc (.cells #[.int .u8 0, .int .u8 0, .int .u8 0, .int .u8 0] 320)).drew) hn4 (Lb.new w _ 320))
  have HA := Lib.hid hA
  have HM := Lib.hid h.lb
  have HF : Hid (some w.heap.size ≠ (Value.slice a bs.length c).ownBlock) := Lib.hid fun e => by have := (h.blk _ e.symm).2; omega
  obtain ⟨k, _, _⟩ := h.lb.use
  clear hA h hn
  go_enter Tryz.func219, Tryz.ntmps219
  go_wp2_with fail
  go_region_with (go_at_call 265; refine H265.out.mono ?_; rintro _ w1 ⟨rfl, hl1, hg1⟩)
  have hM0 : M < w.heap.size := HM.out.use.2.2
  have hW1 : Wr w M (.slice a bs.length c) w1 (.slice a bs.length c) := wr_own (bl_a1 w (.cells #[.int .u8 0, .int .u8 0, .int .u8 0, .int .u8 0] 320)).drew hg1
  have hB1 : Bu B M (.slice a bs.length c) bs w1 := HA.out.drew_grown hg1 (by omega) (HF.out)
  have hB2 := hB1.step (Below.refl _ w1).drew
  obtain ⟨v', w', hap, lM, hB', hW, hsz⟩ := hB2.app (Lib.leBytes 4 n) ⟨w.heap.size, 0, none⟩ 4 4 (Lib.leBytes_length 4 n) (fun j hj => lb_bytes hl1 j hj) (by omega)
  obtain ⟨a', n', c', rfl⟩ := hB'.shape'
  obtain ⟨k1, _, _⟩ := hB1.lb.use
  obtain ⟨k2, f2, l2⟩ := lM.use
  have Hap := Lib.hid hap
  have HB' := Lib.hid hB'
  have HW := Lib.hid (hW1.trans ((Wr.of_below M _ (Below.refl _ w1).drew).trans hW))
  clear hB1 hB2 hap lM hB' hW hsz hl1 hg1 hW1 hw1 hw2 hw3
  go_wp2_with fail
  go_region_law (first
    | (refine step_append_eq rfl _ _ 32 rfl rfl rfl rfl Hap.out ?_))
  all_goals go_wp2_with fail
  all_goals go_end0
  all_goals exact ⟨_, rfl, HB'.out, HW.out⟩
set_option maxHeartbeats 2000000 in
theorem c219_1 (B M : Nat) (v : Value) (bs : List UInt8) (t : Nat) (w : World) (h : Bu B M v bs w) (ht : t ≤ 3) (hlen : bs.length ≤ 100000000000000) : Calls Tryz.prog 219 #[.pointer (some ⟨M, 0, none⟩), .int .i64 1, .int .u8 (t : Int)] w (More B M v bs (Lib.leBytes 4 (t * 1000 + 1)) w) := by
  obtain ⟨a, c, rfl⟩ := h.shape
  have hA := h.step (bl_a1 w (.cells #[.int .u8 0, .int .u8 0, .int .u8 0, .int .u8 0] 320))
  have hw1 : IntKind.u32.wrap (t : Int) = t := by simp [IntKind.wrap, IntKind.signed, IntKind.bits]; omega
  have hw2 : IntKind.u32.wrap ((t : Int) * 1000) = (t : Int) * 1000 := by simp [IntKind.wrap, IntKind.signed, IntKind.bits]; omega
  have hw3 : IntKind.u32.wrap ((t : Int) * 1000 + 1) = ((t * 1000 + 1 : Nat) : Int) := by simp [IntKind.wrap, IntKind.signed, IntKind.bits]; omega
  have hix : ∀ w, (Instr.index 319 (.agg #[.int .u32 7, .int .u32 1, .int .u32 2, .int .u32 3, .int .u32 4, .int .u32 5, .int .u32 6]) (.int .i64 1)).run Tryz.prog w = .ok (.int .u32 1) w := fun w => by kernel_rfl
  generalize hn : t * 1000 + 1 = n at *
  have hn4 : n < 4294967296 := by omega
  have H265 := Lib.hid (c265 n w.heap.size (.int .u8 0) (.int .u8 0) (.int .u8 0) (.int .u8 0) 320 ((w.alloc (.cells #[.int .u8 0, .int .u8 0, .int .u8 0, .int .u8 0] 320)).drew) hn4 (Lb.new w _ 320))
  have HA := Lib.hid hA
  have HM := Lib.hid h.lb
  have HF : Hid (some w.heap.size ≠ (Value.slice a bs.length c).ownBlock) := Lib.hid fun e => by have := (h.blk _ e.symm).2; omega
  obtain ⟨k, _, _⟩ := h.lb.use
  clear hA h hn
  go_enter Tryz.func219, Tryz.ntmps219
  go_wp2_with fail
  go_region_with (go_at_call 265; refine H265.out.mono ?_; rintro _ w1 ⟨rfl, hl1, hg1⟩)
  have hM0 : M < w.heap.size := HM.out.use.2.2
  have hW1 : Wr w M (.slice a bs.length c) w1 (.slice a bs.length c) := wr_own (bl_a1 w (.cells #[.int .u8 0, .int .u8 0, .int .u8 0, .int .u8 0] 320)).drew hg1
  have hB1 : Bu B M (.slice a bs.length c) bs w1 := HA.out.drew_grown hg1 (by omega) (HF.out)
  have hB2 := hB1.step (Below.refl _ w1).drew
  obtain ⟨v', w', hap, lM, hB', hW, hsz⟩ := hB2.app (Lib.leBytes 4 n) ⟨w.heap.size, 0, none⟩ 4 4 (Lib.leBytes_length 4 n) (fun j hj => lb_bytes hl1 j hj) (by omega)
  obtain ⟨a', n', c', rfl⟩ := hB'.shape'
  obtain ⟨k1, _, _⟩ := hB1.lb.use
  obtain ⟨k2, f2, l2⟩ := lM.use
  have Hap := Lib.hid hap
  have HB' := Lib.hid hB'
  have HW := Lib.hid (hW1.trans ((Wr.of_below M _ (Below.refl _ w1).drew).trans hW))
  clear hB1 hB2 hap lM hB' hW hsz hl1 hg1 hW1 hw1 hw2 hw3
  go_wp2_with fail
  go_region_law (first
    | (refine step_append_eq rfl _ _ 32 rfl rfl rfl rfl Hap.out ?_))
  all_goals go_wp2_with fail
  all_goals go_end0
  all_goals exact ⟨_, rfl, HB'.out, HW.out⟩
set_option maxHeartbeats 2000000 in
theorem c219_2 (B M : Nat) (v : Value) (bs : List UInt8) (t : Nat) (w : World) (h : Bu B M v bs w) (ht : t ≤ 3) (hlen : bs.length ≤ 100000000000000) : Calls Tryz.prog 219 #[.pointer (some ⟨M, 0, none⟩), .int .i64 2, .int .u8 (t : Int)] w (More B M v bs (Lib.leBytes 4 (t * 1000 + 2)) w) := by
  obtain ⟨a, c, rfl⟩ := h.shape
  have hA := h.step (bl_a1 w (.cells #[.int .u8 0, .int .u8 0, .int .u8 0, .int .u8 0] 320))
  have hw1 : IntKind.u32.wrap (t : Int) = t := by simp [IntKind.wrap, IntKind.signed, IntKind.bits]; omega
  have hw2 : IntKind.u32.wrap ((t : Int) * 1000) = (t : Int) * 1000 := by simp [IntKind.wrap, IntKind.signed, IntKind.bits]; omega
  have hw3 : IntKind.u32.wrap ((t : Int) * 1000 + 2) = ((t * 1000 + 2 : Nat) : Int) := by simp [IntKind.wrap, IntKind.signed, IntKind.bits]; omega
  have hix : ∀ w, (Instr.index 319 (.agg #[.int .u32 7, .int .u32 1, .int .u32 2, .int .u32 3, .int .u32 4, .int .u32 5, .int .u32 6]) (.int .i64 2)).run Tryz.prog w = .ok (.int .u32 2) w := fun w => by kernel_rfl
  generalize hn : t * 1000 + 2 = n at *
  have hn4 : n < 4294967296 := by omega
  have H265 := Lib.hid (c265 n w.heap.size (.int .u8 0) (.int .u8 0) (.int .u8 0) (.int .u8 0) 320 ((w.alloc (.cells #[.int .u8 0, .int .u8 0, .int .u8 0, .int .u8 0] 320)).drew) hn4 (Lb.new w _ 320))
  have HA := Lib.hid hA
  have HM := Lib.hid h.lb
  have HF : Hid (some w.heap.size ≠ (Value.slice a bs.length c).ownBlock) := Lib.hid fun e => by have := (h.blk _ e.symm).2; omega
  obtain ⟨k, _, _⟩ := h.lb.use
  clear hA h hn
  go_enter Tryz.func219, Tryz.ntmps219
  go_wp2_with fail
  go_region_with (go_at_call 265; refine H265.out.mono ?_; rintro _ w1 ⟨rfl, hl1, hg1⟩)
  have hM0 : M < w.heap.size := HM.out.use.2.2
  have hW1 : Wr w M (.slice a bs.length c) w1 (.slice a bs.length c) := wr_own (bl_a1 w (.cells #[.int .u8 0, .int .u8 0, .int .u8 0, .int .u8 0] 320)).drew hg1
  have hB1 : Bu B M (.slice a bs.length c) bs w1 := HA.out.drew_grown hg1 (by omega) (HF.out)
  have hB2 := hB1.step (Below.refl _ w1).drew
  obtain ⟨v', w', hap, lM, hB', hW, hsz⟩ := hB2.app (Lib.leBytes 4 n) ⟨w.heap.size, 0, none⟩ 4 4 (Lib.leBytes_length 4 n) (fun j hj => lb_bytes hl1 j hj) (by omega)
  obtain ⟨a', n', c', rfl⟩ := hB'.shape'
  obtain ⟨k1, _, _⟩ := hB1.lb.use
  obtain ⟨k2, f2, l2⟩ := lM.use
  have Hap := Lib.hid hap
  have HB' := Lib.hid hB'
  have HW := Lib.hid (hW1.trans ((Wr.of_below M _ (Below.refl _ w1).drew).trans hW))
  clear hB1 hB2 hap lM hB' hW hsz hl1 hg1 hW1 hw1 hw2 hw3
  go_wp2_with fail
  go_region_law (first
    | (refine step_append_eq rfl _ _ 32 rfl rfl rfl rfl Hap.out ?_))
  all_goals go_wp2_with fail
  all_goals go_end0
  all_goals exact ⟨_, rfl, HB'.out, HW.out⟩
set_option maxHeartbeats 2000000 in
theorem c219_3 (B M : Nat) (v : Value) (bs : List UInt8) (t : Nat) (w : World) (h : Bu B M v bs w) (ht : t ≤ 3) (hlen : bs.length ≤ 100000000000000) : Calls Tryz.prog 219 #[.pointer (some ⟨M, 0, none⟩), .int .i64 3, .int .u8 (t : Int)] w (More B M v bs (Lib.leBytes 4 (t * 1000 + 3)) w) := by
  obtain ⟨a, c, rfl⟩ := h.shape
  have hA := h.step (bl_a1 w (.cells #[.int .u8 0, .int .u8 0, .int .u8 0, .int .u8 0] 320))
  have hw1 : IntKind.u32.wrap (t : Int) = t := by simp [IntKind.wrap, IntKind.signed, IntKind.bits]; omega
  have hw2 : IntKind.u32.wrap ((t : Int) * 1000) = (t : Int) * 1000 := by simp [IntKind.wrap, IntKind.signed, IntKind.bits]; omega
  have hw3 : IntKind.u32.wrap ((t : Int) * 1000 + 3) = ((t * 1000 + 3 : Nat) : Int) := by simp [IntKind.wrap, IntKind.signed, IntKind.bits]; omega
  have hix : ∀ w, (Instr.index 319 (.agg #[.int .u32 7, .int .u32 1, .int .u32 2, .int .u32 3, .int .u32 4, .int .u32 5, .int .u32 6]) (.int .i64 3)).run Tryz.prog w = .ok (.int .u32 3) w := fun w => by kernel_rfl
  generalize hn : t * 1000 + 3 = n at *
  have hn4 : n < 4294967296 := by omega
  have H265 := Lib.hid (c265 n w.heap.size (.int .u8 0) (.int .u8 0) (.int .u8 0) (.int .u8 0) 320 ((w.alloc (.cells #[.int .u8 0, .int .u8 0, .int .u8 0, .int .u8 0] 320)).drew) hn4 (Lb.new w _ 320))
  have HA := Lib.hid hA
  have HM := Lib.hid h.lb
  have HF : Hid (some w.heap.size ≠ (Value.slice a bs.length c).ownBlock) := Lib.hid fun e => by have := (h.blk _ e.symm).2; omega
  obtain ⟨k, _, _⟩ := h.lb.use
  clear hA h hn
  go_enter Tryz.func219, Tryz.ntmps219
  go_wp2_with fail
  go_region_with (go_at_call 265; refine H265.out.mono ?_; rintro _ w1 ⟨rfl, hl1, hg1⟩)
  have hM0 : M < w.heap.size := HM.out.use.2.2
  have hW1 : Wr w M (.slice a bs.length c) w1 (.slice a bs.length c) := wr_own (bl_a1 w (.cells #[.int .u8 0, .int .u8 0, .int .u8 0, .int .u8 0] 320)).drew hg1
  have hB1 : Bu B M (.slice a bs.length c) bs w1 := HA.out.drew_grown hg1 (by omega) (HF.out)
  have hB2 := hB1.step (Below.refl _ w1).drew
  obtain ⟨v', w', hap, lM, hB', hW, hsz⟩ := hB2.app (Lib.leBytes 4 n) ⟨w.heap.size, 0, none⟩ 4 4 (Lib.leBytes_length 4 n) (fun j hj => lb_bytes hl1 j hj) (by omega)
  obtain ⟨a', n', c', rfl⟩ := hB'.shape'
  obtain ⟨k1, _, _⟩ := hB1.lb.use
  obtain ⟨k2, f2, l2⟩ := lM.use
  have Hap := Lib.hid hap
  have HB' := Lib.hid hB'
  have HW := Lib.hid (hW1.trans ((Wr.of_below M _ (Below.refl _ w1).drew).trans hW))
  clear hB1 hB2 hap lM hB' hW hsz hl1 hg1 hW1 hw1 hw2 hw3
  go_wp2_with fail
  go_region_law (first
    | (refine step_append_eq rfl _ _ 32 rfl rfl rfl rfl Hap.out ?_))
  all_goals go_wp2_with fail
  all_goals go_end0
  all_goals exact ⟨_, rfl, HB'.out, HW.out⟩
set_option maxHeartbeats 2000000 in
theorem c219_4 (B M : Nat) (v : Value) (bs : List UInt8) (t : Nat) (w : World) (h : Bu B M v bs w) (ht : t ≤ 3) (hlen : bs.length ≤ 100000000000000) : Calls Tryz.prog 219 #[.pointer (some ⟨M, 0, none⟩), .int .i64 4, .int .u8 (t : Int)] w (More B M v bs (Lib.leBytes 4 (t * 1000 + 4)) w) := by
  obtain ⟨a, c, rfl⟩ := h.shape
  have hA := h.step (bl_a1 w (.cells #[.int .u8 0, .int .u8 0, .int .u8 0, .int .u8 0] 320))
  have hw1 : IntKind.u32.wrap (t : Int) = t := by simp [IntKind.wrap, IntKind.signed, IntKind.bits]; omega
  have hw2 : IntKind.u32.wrap ((t : Int) * 1000) = (t : Int) * 1000 := by simp [IntKind.wrap, IntKind.signed, IntKind.bits]; omega
  have hw3 : IntKind.u32.wrap ((t : Int) * 1000 + 4) = ((t * 1000 + 4 : Nat) : Int) := by simp [IntKind.wrap, IntKind.signed, IntKind.bits]; omega
  have hix : ∀ w, (Instr.index 319 (.agg #[.int .u32 7, .int .u32 1, .int .u32 2, .int .u32 3, .int .u32 4, .int .u32 5, .int .u32 6]) (.int .i64 4)).run Tryz.prog w = .ok (.int .u32 4) w := fun w => by kernel_rfl
  generalize hn : t * 1000 + 4 = n at *
  have hn4 : n < 4294967296 := by omega
  have H265 := Lib.hid (c265 n w.heap.size (.int .u8 0) (.int .u8 0) (.int .u8 0) (.int .u8 0) 320 ((w.alloc (.cells #[.int .u8 0, .int .u8 0, .int .u8 0, .int .u8 0] 320)).drew) hn4 (Lb.new w _ 320))
  have HA := Lib.hid hA
  have HM := Lib.hid h.lb
  have HF : Hid (some w.heap.size ≠ (Value.slice a bs.length c).ownBlock) := Lib.hid fun e => by have := (h.blk _ e.symm).2; omega
  obtain ⟨k, _, _⟩ := h.lb.use
  clear hA h hn
  go_enter Tryz.func219, Tryz.ntmps219
  go_wp2_with fail
  go_region_with (go_at_call 265; refine H265.out.mono ?_; rintro _ w1 ⟨rfl, hl1, hg1⟩)
  have hM0 : M < w.heap.size := HM.out.use.2.2
  have hW1 : Wr w M (.slice a bs.length c) w1 (.slice a bs.length c) := wr_own (bl_a1 w (.cells #[.int .u8 0, .int .u8 0, .int .u8 0, .int .u8 0] 320)).drew hg1
  have hB1 : Bu B M (.slice a bs.length c) bs w1 := HA.out.drew_grown hg1 (by omega) (HF.out)
  have hB2 := hB1.step (Below.refl _ w1).drew
  obtain ⟨v', w', hap, lM, hB', hW, hsz⟩ := hB2.app (Lib.leBytes 4 n) ⟨w.heap.size, 0, none⟩ 4 4 (Lib.leBytes_length 4 n) (fun j hj => lb_bytes hl1 j hj) (by omega)
  obtain ⟨a', n', c', rfl⟩ := hB'.shape'
  obtain ⟨k1, _, _⟩ := hB1.lb.use
  obtain ⟨k2, f2, l2⟩ := lM.use
  have Hap := Lib.hid hap
  have HB' := Lib.hid hB'
  have HW := Lib.hid (hW1.trans ((Wr.of_below M _ (Below.refl _ w1).drew).trans hW))
  clear hB1 hB2 hap lM hB' hW hsz hl1 hg1 hW1 hw1 hw2 hw3
  go_wp2_with fail
  go_region_law (first
    | (refine step_append_eq rfl _ _ 32 rfl rfl rfl rfl Hap.out ?_))
  all_goals go_wp2_with fail
  all_goals go_end0
  all_goals exact ⟨_, rfl, HB'.out, HW.out⟩
set_option maxHeartbeats 2000000 in
theorem c219_5 (B M : Nat) (v : Value) (bs : List UInt8) (t : Nat) (w : World) (h : Bu B M v bs w) (ht : t ≤ 3) (hlen : bs.length ≤ 100000000000000) : Calls Tryz.prog 219 #[.pointer (some ⟨M, 0, none⟩), .int .i64 5, .int .u8 (t : Int)] w (More B M v bs (Lib.leBytes 4 (t * 1000 + 5)) w) := by
  obtain ⟨a, c, rfl⟩ := h.shape
  have hA := h.step (bl_a1 w (.cells #[.int .u8 0, .int .u8 0, .int .u8 0, .int .u8 0] 320))
  have hw1 : IntKind.u32.wrap (t : Int) = t := by simp [IntKind.wrap, IntKind.signed, IntKind.bits]; omega
  have hw2 : IntKind.u32.wrap ((t : Int) * 1000) = (t : Int) * 1000 := by simp [IntKind.wrap, IntKind.signed, IntKind.bits]; omega
  have hw3 : IntKind.u32.wrap ((t : Int) * 1000 + 5) = ((t * 1000 + 5 : Nat) : Int) := by simp [IntKind.wrap, IntKind.signed, IntKind.bits]; omega
  have hix : ∀ w, (Instr.index 319 (.agg #[.int .u32 7, .int .u32 1, .int .u32 2, .int .u32 3, .int .u32 4, .int .u32 5, .int .u32 6]) (.int .i64 5)).run Tryz.prog w = .ok (.int .u32 5) w := fun w => by kernel_rfl
  generalize hn : t * 1000 + 5 = n at *
  have hn4 : n < 4294967296 := by omega
  have H265 := Lib.hid (c265 n w.heap.size (.int .u8 0) (.int .u8 0) (.int .u8 0) (.int .u8 0) 320 ((w.alloc (.cells #[.int .u8 0, .int .u8 0, .int .u8 0, .int .u8 0] 320)).drew) hn4 (Lb.new w _ 320))
  have HA := Lib.hid hA
  have HM := Lib.hid h.lb
  have HF : Hid (some w.heap.size ≠ (Value.slice a bs.length c).ownBlock) := Lib.hid fun e => by have := (h.blk _ e.symm).2; omega
  obtain ⟨k, _, _⟩ := h.lb.use
  clear hA h hn
  go_enter Tryz.func219, Tryz.ntmps219
  go_wp2_with fail
  go_region_with (go_at_call 265; refine H265.out.mono ?_; rintro _ w1 ⟨rfl, hl1, hg1⟩)
  have hM0 : M < w.heap.size := HM.out.use.2.2
  have hW1 : Wr w M (.slice a bs.length c) w1 (.slice a bs.length c) := wr_own (bl_a1 w (.cells #[.int .u8 0, .int .u8 0, .int .u8 0, .int .u8 0] 320)).drew hg1
  have hB1 : Bu B M (.slice a bs.length c) bs w1 := HA.out.drew_grown hg1 (by omega) (HF.out)
  have hB2 := hB1.step (Below.refl _ w1).drew
  obtain ⟨v', w', hap, lM, hB', hW, hsz⟩ := hB2.app (Lib.leBytes 4 n) ⟨w.heap.size, 0, none⟩ 4 4 (Lib.leBytes_length 4 n) (fun j hj => lb_bytes hl1 j hj) (by omega)
  obtain ⟨a', n', c', rfl⟩ := hB'.shape'
  obtain ⟨k1, _, _⟩ := hB1.lb.use
  obtain ⟨k2, f2, l2⟩ := lM.use
  have Hap := Lib.hid hap
  have HB' := Lib.hid hB'
  have HW := Lib.hid (hW1.trans ((Wr.of_below M _ (Below.refl _ w1).drew).trans hW))
  clear hB1 hB2 hap lM hB' hW hsz hl1 hg1 hW1 hw1 hw2 hw3
  go_wp2_with fail
  go_region_law (first
    | (refine step_append_eq rfl _ _ 32 rfl rfl rfl rfl Hap.out ?_))
  all_goals go_wp2_with fail
  all_goals go_end0
  all_goals exact ⟨_, rfl, HB'.out, HW.out⟩
set_option maxHeartbeats 2000000 in
theorem c219_6 (B M : Nat) (v : Value) (bs : List UInt8) (t : Nat) (w : World) (h : Bu B M v bs w) (ht : t ≤ 3) (hlen : bs.length ≤ 100000000000000) : Calls Tryz.prog 219 #[.pointer (some ⟨M, 0, none⟩), .int .i64 6, .int .u8 (t : Int)] w (More B M v bs (Lib.leBytes 4 (t * 1000 + 6)) w) := by
  obtain ⟨a, c, rfl⟩ := h.shape
  have hA := h.step (bl_a1 w (.cells #[.int .u8 0, .int .u8 0, .int .u8 0, .int .u8 0] 320))
  have hw1 : IntKind.u32.wrap (t : Int) = t := by simp [IntKind.wrap, IntKind.signed, IntKind.bits]; omega
  have hw2 : IntKind.u32.wrap ((t : Int) * 1000) = (t : Int) * 1000 := by simp [IntKind.wrap, IntKind.signed, IntKind.bits]; omega
  have hw3 : IntKind.u32.wrap ((t : Int) * 1000 + 6) = ((t * 1000 + 6 : Nat) : Int) := by simp [IntKind.wrap, IntKind.signed, IntKind.bits]; omega
  have hix : ∀ w, (Instr.index 319 (.agg #[.int .u32 7, .int .u32 1, .int .u32 2, .int .u32 3, .int .u32 4, .int .u32 5, .int .u32 6]) (.int .i64 6)).run Tryz.prog w = .ok (.int .u32 6) w := fun w => by kernel_rfl
  generalize hn : t * 1000 + 6 = n at *
  have hn4 : n < 4294967296 := by omega
  have H265 := Lib.hid (c265 n w.heap.size (.int .u8 0) (.int .u8 0) (.int .u8 0) (.int .u8 0) 320 ((w.alloc (.cells #[.int .u8 0, .int .u8 0, .int .u8 0, .int .u8 0] 320)).drew) hn4 (Lb.new w _ 320))
  have HA := Lib.hid hA
  have HM := Lib.hid h.lb
  have HF : Hid (some w.heap.size ≠ (Value.slice a bs.length c).ownBlock) := Lib.hid fun e => by have := (h.blk _ e.symm).2; omega
  obtain ⟨k, _, _⟩ := h.lb.use
  clear hA h hn
  go_enter Tryz.func219, Tryz.ntmps219
  go_wp2_with fail
  go_region_with (go_at_call 265; refine H265.out.mono ?_; rintro _ w1 ⟨rfl, hl1, hg1⟩)
  have hM0 : M < w.heap.size := HM.out.use.2.2
  have hW1 : Wr w M (.slice a bs.length c) w1 (.slice a bs.length c) := wr_own (bl_a1 w (.cells #[.int .u8 0, .int .u8 0, .int .u8 0, .int .u8 0] 320)).drew hg1
  have hB1 : Bu B M (.slice a bs.length c) bs w1 := HA.out.drew_grown hg1 (by omega) (HF.out)
  have hB2 := hB1.step (Below.refl _ w1).drew
  obtain ⟨v', w', hap, lM, hB', hW, hsz⟩ := hB2.app (Lib.leBytes 4 n) ⟨w.heap.size, 0, none⟩ 4 4 (Lib.leBytes_length 4 n) (fun j hj => lb_bytes hl1 j hj) (by omega)
  obtain ⟨a', n', c', rfl⟩ := hB'.shape'
  obtain ⟨k1, _, _⟩ := hB1.lb.use
  obtain ⟨k2, f2, l2⟩ := lM.use
  have Hap := Lib.hid hap
  have HB' := Lib.hid hB'
  have HW := Lib.hid (hW1.trans ((Wr.of_below M _ (Below.refl _ w1).drew).trans hW))
  clear hB1 hB2 hap lM hB' hW hsz hl1 hg1 hW1 hw1 hw2 hw3
  go_wp2_with fail
  go_region_law (first
    | (refine step_append_eq rfl _ _ 32 rfl rfl rfl rfl Hap.out ?_))
  all_goals go_wp2_with fail
  all_goals go_end0
  all_goals exact ⟨_, rfl, HB'.out, HW.out⟩
/-- The number of a kind and a type. -/
def wcode (k t : Int) : Nat := t.toNat * 1000 + (if k = 0 then 7 else k.toNat)
theorem c219 (B M : Nat) (v : Value) (bs : List UInt8) (k t : Int) (w : World) (h : Bu B M v bs w) (k0 : 0 ≤ k) (k1 : k ≤ 6) (t0 : 0 ≤ t) (t1 : t ≤ 3) (hlen : bs.length ≤ 100000000000000) : Calls Tryz.prog 219 #[.pointer (some ⟨M, 0, none⟩), .int .i64 k, .int .u8 t] w (More B M v bs (Lib.leBytes 4 (wcode k t)) w) := by
  obtain ⟨tn, rfl⟩ := Int.eq_ofNat_of_zero_le t0
  have hc : k = 0 ∨ k = 1 ∨ k = 2 ∨ k = 3 ∨ k = 4 ∨ k = 5 ∨ k = 6 := by omega
  rcases hc with rfl | rfl | rfl | rfl | rfl | rfl | rfl
  · exact c219_0 B M v bs tn w h (by omega) hlen
  · exact c219_1 B M v bs tn w h (by omega) hlen
  · exact c219_2 B M v bs tn w h (by omega) hlen
  · exact c219_3 B M v bs tn w h (by omega) hlen
  · exact c219_4 B M v bs tn w h (by omega) hlen
  · exact c219_5 B M v bs tn w h (by omega) hlen
  · exact c219_6 B M v bs tn w h (by omega) hlen
end Go.Proofs.YtahnhhkbdgaidaaGreatDoor
