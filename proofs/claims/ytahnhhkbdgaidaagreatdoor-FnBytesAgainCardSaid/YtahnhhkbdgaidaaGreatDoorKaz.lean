/-
  The reader of binary forms: lines.
  The reference's geometry of plain data: points and lines.
-/
import Derived.Test.YtahnhhkbdgaidaaGreatDoorKay
import Derived.Test.YtahnhhkbdgaidaaGreatDoorKas
namespace Go.Proofs.YtahnhhkbdgaidaaGreatDoor
open Go.RowKit
set_option maxRecDepth 100000
structure PrAt (P : Nat) (bo : Int) (no : Bool) (l : List UInt8) (b off c : Nat) (w : World) : Prop where
  lb : Lb w P #[.slice (some ⟨b, off, none⟩) l.length c, .int .u8 bo, .bool no] 160
  cap : l.length ≤ c
  max : l.length ≤ 17592186044416
  ne : b ≠ P
  lt : b < w.heap.size
  cell : ∀ j (h : j < l.length), w.cell? ⟨b, off + j, none⟩ = some (.int .u8 ((l[j]).toNat : Int))
theorem Pr.at {P b : Nat} {bo : Int} {no : Bool} {l : List UInt8} {w : World} (h : Pr P b bo no l w) : ∃ off c, PrAt P bo no l b off c w := by
  obtain ⟨off, c, h1, h2, h3, h4, h5, h6⟩ := h
  exact ⟨off, c, h1, h2, h3, h4, h5, h6⟩
theorem PrAt.pr {P : Nat} {bo : Int} {no : Bool} {l : List UInt8} {b off c : Nat} {w : World} (h : PrAt P bo no l b off c w) : Pr P b bo no l w := ⟨off, c, h.lb, h.cap, h.max, h.ne, h.lt, h.cell⟩
theorem PrAt.grown {P : Nat} {bo : Int} {no : Bool} {l : List UInt8} {b off c : Nat} {w w' : World} (h : PrAt P bo no l b off c w) {r : Option Nat} (hg : w.grownBy w' r) (h1 : some P ≠ r) (h2 : some b ≠ r) : PrAt P bo no l b off c w' :=
  ⟨h.lb.grown hg h1, h.cap, h.max, h.ne, Nat.lt_of_lt_of_le h.lt hg.size, fun j hj => by rw [World.cell?_of_block (hg.block b h.lt h2)]; exact h.cell j hj⟩
theorem PrAt.blw {P : Nat} {bo : Int} {no : Bool} {l : List UInt8} {b off c : Nat} {w w' : World} (h : PrAt P bo no l b off c w) (hb : Below w.heap.size w w') : PrAt P bo no l b off c w' := h.grown (below_grown hb none) (by simp) (by simp)
theorem PrAt.rest0 {P : Nat} {bo : Int} {no : Bool} {l : List UInt8} {b off k : Nat} {w : World} (h : PrAt P bo no l b off k w) : PrAt P bo no [] b off 0 (w.setCell ⟨P, 0, none⟩ (.slice (some ⟨b, off, none⟩) 0 0)) :=
  ⟨by simpa using h.lb.set 0 (.slice (some ⟨b, off, none⟩) 0 0), by simp, by simp, h.ne, by simpa [World.setCell] using h.lt, fun j hj => absurd hj (by simp)⟩
theorem PrAt.rest1 {P : Nat} {bo : Int} {no : Bool} {l r : List UInt8} {b off c k : Nat} {w : World} (h : PrAt P bo no (l ++ r) b off c w) (hk : l.length = k) : PrAt P bo no r b (off + k) (c - k) (w.setCell ⟨P, 0, none⟩ (.slice (some ⟨b, off + k, none⟩) r.length (c - k))) := by
  have hc := h.cap; have hm := h.max
  simp only [List.length_append] at hc hm
  refine ⟨by simpa using h.lb.set 0 (.slice (some ⟨b, off + k, none⟩) r.length (c - k)), by omega, by omega, h.ne, by simpa [World.setCell] using h.lt, fun j hj => ?_⟩
  rw [World.cell?_of_block (Below.heap_setCell w _ _ b (by simpa using h.ne)), Nat.add_assoc, h.cell (k + j) (by simp; omega)]
  subst hk
  simp
/-- What a line's reader answers. -/
def LineR (S : Nat → Prop) (P b : Nat) (bo : Int) (no : Bool) (t : Int) (xs : List Nat) (r : List UInt8) (w : World) : Ending → World → Prop := fun e w' => ∃ a' c', e = .returned (.tuple #[.agg #[.int .u8 t, .slice a' xs.length c'], .nilIface]) ∧
  Rd S w' (fl xs) (.slice a' xs.length c') ∧ Pr P b bo no r w' ∧ w.grownBy w' (some P)
set_option maxHeartbeats 8000000 in
theorem c190_1 (S : Nat → Prop) (P b : Nat) (t : Int) (n : Nat) (xs : List Nat) (l4 l r : List UInt8) (w : World) (t0 : 0 ≤ t) (t1 : t ≤ 3) (h4 : l4.length = 4) (hd : dec 1 l4 = n) (hn : n * dN t = xs.length) (hf : F8 1 xs l) (hl : xs.length ≤ 100000000) (hS : ∀ k, w.heap.size ≤ k → S k) (h : Pr P b 1 true (l4 ++ (l ++ r)) w) :
    Calls Tryz.prog 190 #[.pointer (some ⟨P, 0, none⟩), .int .u8 t] w (LineR S P b 1 true t xs r w) := by
  have hlP := h.lt
  have hlb := h.inb.2
  have hb1' := bl_a1 w (.cells #[.int .u8 0, .slice none 0 0] 69)
  have H188 := c188 P b 1 (.inr rfl) true l4 (l ++ r) h4 _ (h.blw hb1')
  rw [hd] at H188
  replace H188 := Lib.hid H188
  have hmul : (n : Int) * dimN t = (xs.length : Int) := by rw [dN_eq, ← hn]; simp
  have hll := hf.1
  have l0 := Lib.hid (Lb.new w #[.int .u8 0, .slice none 0 0] 69)
  have H135 := Lib.hid (fun w => c135 t w t0 t1)
  have hmod : xs.length % dN t = 0 := by rw [← hn]; exact Nat.mul_mod_left _ _
  have H136 := Lib.hid (fun a c w => c136 t a xs.length c w t0 t1 (by omega) hmod)
  have hmk : ∀ w, (Instr.makeSlice 22 (.int .i64 (xs.length : Int)) (.int .i64 (xs.length : Int))).run Tryz.prog w = .ok (.slice (some ⟨w.heap.size, 0, none⟩) xs.length xs.length) (w.alloc (.cells (madeCells #[.float .f64 0] xs.length) 43)) := fun w =>
    run_make_row' 22 43 (.float .f64 0) 8 Tryz.underlying22 info43 rfl .i64 .i64 _ (by omega) (by omega) w
  have hms : (madeCells #[.float .f64 0] xs.length).size = xs.length := size_madeCells _ _
  generalize madeCells #[.float .f64 0] xs.length = mc at *
  have Hf := Lib.hid hf; have HS := Lib.hid hS
  have hnb := dN_bd t
  have hnx : n ≤ 100000000 := by
    have := Nat.mul_le_mul_left n hnb.1; omega
  clear h hf hS hd hb1' hmod
  generalize dimN t = D at *
  go_enter Tryz.func190, Tryz.ntmps190
  go_wp2_with fail
  refine H188.out.mono ?_
  rintro _ w1 ⟨rfl, hp1, hg1⟩
  obtain ⟨off, c, hp⟩ := hp1.at
  have hL1 := l0.out.grown hg1 (fun e => by have := Option.some.inj e; omega)
  have hsz1 : w.heap.size + 1 ≤ w1.heap.size := by have := hg1.size; simpa using this
  have HG1 := Lib.hid (grown_trans (alloc_grown w (.cells #[.int .u8 0, .slice none 0 0] 69) (some P)) hg1)
  obtain ⟨kP, fP, lP⟩ := hp.lb.use
  have hcap := hp.cap; have hmax := hp.max
  simp only [List.length_append, hll] at hcap hmax
  have hcap2 : 8 * (xs.length : Int) ≤ (c : Int) := by omega
  have hcapn : ¬ (8 * (xs.length : Int) + (r.length : Int) < 8 * (xs.length : Int)) := by omega
  have hcmp : decide (8 * (xs.length : Int) + (r.length : Int) < 8 * (xs.length : Int)) = false := decide_eq_false hcapn
  have Hp := Lib.hid hp; have HL1 := Lib.hid hL1
  clear hp1 hg1 hp l0 hL1 H188
  go_wp2_with fail
  refine (H135.out _).mono ?_
  rintro _ w1' ⟨rfl, rfl⟩
  by_cases e1 : c = 8 * xs.length
  · subst e1
    obtain rfl : r = [] := List.eq_nil_of_length_eq_zero (by omega)
    have hp2 := Hp.out
    rw [List.append_nil] at hp2
    have hp3 := hp2.rest0
    have hp4 := hp3.blw (bl_a1 _ (.cells mc 43))
    have hsz3 : (w1.setCell ⟨P, 0, none⟩ (.slice (some ⟨b, off, none⟩) 0 0)).heap.size = w1.heap.size := by simp [World.setCell]
    have H234 := c234 S xs l b off (8 * xs.length) ((w1.setCell ⟨P, 0, none⟩ (.slice (some ⟨b, off, none⟩) 0 0)).alloc (.cells mc 43)) Hf.out hl (by omega) (fun k hk => HS.out k (by simp [World.setCell] at hk; omega)) (by simp [World.setCell]; have := Hp.out.lt; omega) (fun j hj => by
      have hbl1 := Hp.out.lt
      have e2 := (bl_a1 (w1.setCell ⟨P, 0, none⟩ (.slice (some ⟨b, off, none⟩) 0 0)) (.cells mc 43)).cell (p := ⟨b, off + j, none⟩) (by rw [hsz3]; exact hbl1)
      rw [e2, World.cell?_of_block (Below.heap_setCell w1 _ _ b (by simpa using Hp.out.ne)), Hp.out.cell j (by rw [List.length_append]; omega), List.getElem_append_left hj])
    have HG3 := Lib.hid (grown_trans (grown_trans HG1.out (set_grown w1 P 0 _)) (alloc_grown (w1.setCell ⟨P, 0, none⟩ (.slice (some ⟨b, off, none⟩) 0 0)) (.cells mc 43) (some P)))
    have hlm := Lb.new (w1.setCell ⟨P, 0, none⟩ (.slice (some ⟨b, off, none⟩) 0 0)) mc 43
    rw [hsz3] at hlm
    have hL3 := (HL1.out.far (p := ⟨P, 0, none⟩) (by simp; omega) (.slice (some ⟨b, off, none⟩) 0 0)).alloc (.cells mc 43)
    have H234 := Lib.hid H234; have Hp4 := Lib.hid hp4; have Hlm := Lib.hid hlm; have HL3 := Lib.hid hL3
    clear hp3 hp4 hlm hL3 HG1 HL1 hp2
    go_wp2_with fail
    refine H234.out.mono ?_
    rintro _ w4 ⟨a4, c4, rfl, hr4, hb4⟩
    have hm4 := Hlm.out.blw hb4
    have hp5 := Hp4.out.blw hb4
    have hL4 := HL3.out.blw hb4
    have hsz4 : w1.heap.size + 1 ≤ w4.heap.size := by have := hb4.size; simpa [World.setCell] using this
    obtain ⟨w5, hcp, hrow, hg5⟩ := copy_over (P := Tryz.prog) w4 22 3 43 Tryz.underlying22 size43 w1.heap.size xs.length xs.length a4 xs.length c4 mc 43 hm4 hms (xs.map (Value.float .f64)) (by simp) (Nat.le_refl _) (fun hpos => by
      obtain ⟨a5, c5, e5, _, hi⟩ := fl_inv hr4
      obtain ⟨rfl, _, rfl⟩ := Value.slice.inj e5
      obtain ⟨b6, off6, rfl, _, _, _⟩ := hi 0 hpos
      refine ⟨_, rfl, fun j v hv => ?_⟩
      obtain ⟨hj, ev⟩ := List.getElem?_eq_some_iff.1 hv
      have hj' : j < xs.length := by simpa using hj
      obtain ⟨b7, off7, e7, _, _, hc7⟩ := hi j hj'
      obtain ⟨rfl, rfl⟩ : b6 = b7 ∧ off6 = off7 := by simpa using e7
      rw [Addr.add_lit, hc7, ← ev]; simp) (by intro v hv; obtain ⟨_, _, rfl⟩ := List.mem_map.1 hv; rfl)
    have hp6 := hp5.grown hg5 (fun e => by have := Option.some.inj e; omega) (fun e => by have := Option.some.inj e; have := Hp.out.lt; omega)
    have hL5 := hL4.grown hg5 (fun e => by have := Option.some.inj e; omega)
    have hrd : Rd (Ex S w.heap.size) w5 (fl xs) (.slice (some ⟨w1.heap.size, 0, none⟩) xs.length xs.length) := fl_row hrow ⟨HS.out _ (by omega), by omega⟩ (by omega) (fun i hi => by simp [hi])
    have hsz5 : w1.heap.size + 1 ≤ w5.heap.size := Nat.le_trans hsz4 hg5.size
    have HG5 := Lib.hid (show w.grownBy w5 (some P) from ⟨hg5.os.trans (hb4.os.trans HG3.out.os), hg5.tape.trans (hb4.tape.trans HG3.out.tape), hg5.output.trans (hb4.output.trans HG3.out.output), by omega, fun k hk hne => (hg5.block k (by omega) (fun e => by have := Option.some.inj e; omega)).trans ((hb4.block k (by simp [World.setCell]; omega)).trans (HG3.out.block k hk hne))⟩)
    have Hp6 := Lib.hid hp6; have HL5 := Lib.hid hL5; have Hrd := Lib.hid hrd
    clear hm4 hp5 hL4 hr4 hb4 hrow hg5 hp6 hL5 hrd HG3 Hp4 Hlm HL3 H234
    go_wp2_with fail
    refine (H136.out _ _ _).mono ?_
    rintro _ w6 ⟨rfl, hb6⟩
    have hsz6 : w1.heap.size + 1 ≤ w6.heap.size := Nat.le_trans hsz5 hb6.size
    have Hp7 := Lib.hid ((Hp6.out.blw hb6).blw (bl_a1 w6 (.cells #[.int .u8 t, .slice (some ⟨w1.heap.size, 0, none⟩) xs.length xs.length] 67)))
    have HL7 := Lib.hid ((HL5.out.blw hb6).blw (bl_a1 w6 (.cells #[.int .u8 t, .slice (some ⟨w1.heap.size, 0, none⟩) xs.length xs.length] 67)))
    have Hr7 := Lib.hid ((Hrd.out.blw hb6).alloc (.cells #[.int .u8 t, .slice (some ⟨w1.heap.size, 0, none⟩) xs.length xs.length] 67))
    have HG7 := Lib.hid (grown_trans HG5.out (grown_trans (below_grown hb6 _) (alloc_grown w6 (.cells #[.int .u8 t, .slice (some ⟨w1.heap.size, 0, none⟩) xs.length xs.length] 67) _)))
    clear hb6 Hp6 HL5 Hrd HG5
    go_wp2_with fail
    refine (c89 _ _ _ _ _).mono ?_
    rintro _ w8 ⟨rfl, hb8⟩
    obtain ⟨k8, f8, l8⟩ := (HL7.out.blw hb8).use
    have HP8 := Lib.hid ((Hp7.out.blw hb8))
    have HR8 := Lib.hid (Hr7.out.blw hb8)
    have HG8 := Lib.hid (grown_trans HG7.out (below_grown hb8 _))
    clear hb8 Hp7 HL7 Hr7 HG7
    go_wp2_with fail
    refine bodyPost_ret (v := .tuple #[.agg #[.int .u8 t, .slice (some ⟨w1.heap.size, 0, none⟩) xs.length xs.length], .nilIface]) (by simp [results, Tryz.results190, go_sem, k8]) rfl ⟨_, _, rfl, ?_, ?_, ?_⟩
    · refine Rd.unex (L := w.heap.size) ?_
      repeat (with_reducible first | exact HR8.out | refine Rd.set ?_ _ _)
    · exact PrAt.pr (PrAt.grown (PrAt.grown HP8.out (set_grown _ w.heap.size 0 _) (by simp; omega) (by simp; omega)) (set_grown _ w.heap.size 1 _) (by simp; omega) (by simp; omega))
    · refine ⟨HG8.out.os, HG8.out.tape, HG8.out.output, Nat.le_trans HG8.out.size (by simp [World.setCell]), fun k hk hne => ?_⟩
      rw [Below.heap_setCell _ _ _ k (by simp; omega), Below.heap_setCell _ _ _ k (by simp; omega)]
      exact HG8.out.block k hk hne
  · have hp3 := Hp.out.rest1 hll
    have hp4 := hp3.blw (bl_a1 _ (.cells mc 43))
    have hsz3 : (w1.setCell ⟨P, 0, none⟩ (.slice (some ⟨b, off + 8 * xs.length, none⟩) r.length (c - 8 * xs.length))).heap.size = w1.heap.size := by simp [World.setCell]
    have H234 := c234 S xs l b off c ((w1.setCell ⟨P, 0, none⟩ (.slice (some ⟨b, off + 8 * xs.length, none⟩) r.length (c - 8 * xs.length))).alloc (.cells mc 43)) Hf.out hl (by omega) (fun k hk => HS.out k (by simp [World.setCell] at hk; omega)) (by simp [World.setCell]; have := Hp.out.lt; omega) (fun j hj => by
      have hbl1 := Hp.out.lt
      have e2 := (bl_a1 (w1.setCell ⟨P, 0, none⟩ (.slice (some ⟨b, off + 8 * xs.length, none⟩) r.length (c - 8 * xs.length))) (.cells mc 43)).cell (p := ⟨b, off + j, none⟩) (by rw [hsz3]; exact hbl1)
      rw [e2, World.cell?_of_block (Below.heap_setCell w1 _ _ b (by simpa using Hp.out.ne)), Hp.out.cell j (by rw [List.length_append]; omega), List.getElem_append_left hj])
    have HG3 := Lib.hid (grown_trans (grown_trans HG1.out (set_grown w1 P 0 _)) (alloc_grown (w1.setCell ⟨P, 0, none⟩ (.slice (some ⟨b, off + 8 * xs.length, none⟩) r.length (c - 8 * xs.length))) (.cells mc 43) (some P)))
    have hlm := Lb.new (w1.setCell ⟨P, 0, none⟩ (.slice (some ⟨b, off + 8 * xs.length, none⟩) r.length (c - 8 * xs.length))) mc 43
    rw [hsz3] at hlm
    have hL3 := (HL1.out.far (p := ⟨P, 0, none⟩) (by simp; omega) (.slice (some ⟨b, off + 8 * xs.length, none⟩) r.length (c - 8 * xs.length))).alloc (.cells mc 43)
    have H234 := Lib.hid H234; have Hp4 := Lib.hid hp4; have Hlm := Lib.hid hlm; have HL3 := Lib.hid hL3
    clear hp3 hp4 hlm hL3 HG1 HL1
    go_wp2_with fail
    refine H234.out.mono ?_
    rintro _ w4 ⟨a4, c4, rfl, hr4, hb4⟩
    have hm4 := Hlm.out.blw hb4
    have hp5 := Hp4.out.blw hb4
    have hL4 := HL3.out.blw hb4
    have hsz4 : w1.heap.size + 1 ≤ w4.heap.size := by have := hb4.size; simpa [World.setCell] using this
    obtain ⟨w5, hcp, hrow, hg5⟩ := copy_over (P := Tryz.prog) w4 22 3 43 Tryz.underlying22 size43 w1.heap.size xs.length xs.length a4 xs.length c4 mc 43 hm4 hms (xs.map (Value.float .f64)) (by simp) (Nat.le_refl _) (fun hpos => by
      obtain ⟨a5, c5, e5, _, hi⟩ := fl_inv hr4
      obtain ⟨rfl, _, rfl⟩ := Value.slice.inj e5
      obtain ⟨b6, off6, rfl, _, _, _⟩ := hi 0 hpos
      refine ⟨_, rfl, fun j v hv => ?_⟩
      obtain ⟨hj, ev⟩ := List.getElem?_eq_some_iff.1 hv
      have hj' : j < xs.length := by simpa using hj
      obtain ⟨b7, off7, e7, _, _, hc7⟩ := hi j hj'
      obtain ⟨rfl, rfl⟩ : b6 = b7 ∧ off6 = off7 := by simpa using e7
      rw [Addr.add_lit, hc7, ← ev]; simp) (by intro v hv; obtain ⟨_, _, rfl⟩ := List.mem_map.1 hv; rfl)
    have hp6 := hp5.grown hg5 (fun e => by have := Option.some.inj e; omega) (fun e => by have := Option.some.inj e; have := Hp.out.lt; omega)
    have hL5 := hL4.grown hg5 (fun e => by have := Option.some.inj e; omega)
    have hrd : Rd (Ex S w.heap.size) w5 (fl xs) (.slice (some ⟨w1.heap.size, 0, none⟩) xs.length xs.length) := fl_row hrow ⟨HS.out _ (by omega), by omega⟩ (by omega) (fun i hi => by simp [hi])
    have hsz5 : w1.heap.size + 1 ≤ w5.heap.size := Nat.le_trans hsz4 hg5.size
    have HG5 := Lib.hid (show w.grownBy w5 (some P) from ⟨hg5.os.trans (hb4.os.trans HG3.out.os), hg5.tape.trans (hb4.tape.trans HG3.out.tape), hg5.output.trans (hb4.output.trans HG3.out.output), by omega, fun k hk hne => (hg5.block k (by omega) (fun e => by have := Option.some.inj e; omega)).trans ((hb4.block k (by simp [World.setCell]; omega)).trans (HG3.out.block k hk hne))⟩)
    have Hp6 := Lib.hid hp6; have HL5 := Lib.hid hL5; have Hrd := Lib.hid hrd
    clear hm4 hp5 hL4 hr4 hb4 hrow hg5 hp6 hL5 hrd HG3 Hp4 Hlm HL3 H234
    go_wp2_with fail
    refine (H136.out _ _ _).mono ?_
    rintro _ w6 ⟨rfl, hb6⟩
    have hsz6 : w1.heap.size + 1 ≤ w6.heap.size := Nat.le_trans hsz5 hb6.size
    have Hp7 := Lib.hid ((Hp6.out.blw hb6).blw (bl_a1 w6 (.cells #[.int .u8 t, .slice (some ⟨w1.heap.size, 0, none⟩) xs.length xs.length] 67)))
    have HL7 := Lib.hid ((HL5.out.blw hb6).blw (bl_a1 w6 (.cells #[.int .u8 t, .slice (some ⟨w1.heap.size, 0, none⟩) xs.length xs.length] 67)))
    have Hr7 := Lib.hid ((Hrd.out.blw hb6).alloc (.cells #[.int .u8 t, .slice (some ⟨w1.heap.size, 0, none⟩) xs.length xs.length] 67))
    have HG7 := Lib.hid (grown_trans HG5.out (grown_trans (below_grown hb6 _) (alloc_grown w6 (.cells #[.int .u8 t, .slice (some ⟨w1.heap.size, 0, none⟩) xs.length xs.length] 67) _)))
    clear hb6 Hp6 HL5 Hrd HG5
    go_wp2_with fail
    refine (c89 _ _ _ _ _).mono ?_
    rintro _ w8 ⟨rfl, hb8⟩
    obtain ⟨k8, f8, l8⟩ := (HL7.out.blw hb8).use
    have HP8 := Lib.hid ((Hp7.out.blw hb8))
    have HR8 := Lib.hid (Hr7.out.blw hb8)
    have HG8 := Lib.hid (grown_trans HG7.out (below_grown hb8 _))
    clear hb8 Hp7 HL7 Hr7 HG7
    go_wp2_with fail
    refine bodyPost_ret (v := .tuple #[.agg #[.int .u8 t, .slice (some ⟨w1.heap.size, 0, none⟩) xs.length xs.length], .nilIface]) (by simp [results, Tryz.results190, go_sem, k8]) rfl ⟨_, _, rfl, ?_, ?_, ?_⟩
    · refine Rd.unex (L := w.heap.size) ?_
      repeat (with_reducible first | exact HR8.out | refine Rd.set ?_ _ _)
    · exact PrAt.pr (PrAt.grown (PrAt.grown HP8.out (set_grown _ w.heap.size 0 _) (by simp; omega) (by simp; omega)) (set_grown _ w.heap.size 1 _) (by simp; omega) (by simp; omega))
    · refine ⟨HG8.out.os, HG8.out.tape, HG8.out.output, Nat.le_trans HG8.out.size (by simp [World.setCell]), fun k hk hne => ?_⟩
      rw [Below.heap_setCell _ _ _ k (by simp; omega), Below.heap_setCell _ _ _ k (by simp; omega)]
      exact HG8.out.block k hk hne
end Go.Proofs.YtahnhhkbdgaidaaGreatDoor
namespace Go.Proofs.YtahnhhkbdgaidaaGreatDoor
open Go.RowKit
set_option maxRecDepth 100000
set_option maxHeartbeats 4000000 in
theorem c13_1 (S : Nat → Prop) (d : Int) (ns : List Nat) (a ak : Option Addr) (c lk ck : Nat) (w : World) (hnl : ns.length ≤ 1000000) (hcap : ns.length ≤ c) (hnil : a = none → c = 0) (hS : ∀ b, w.heap.size ≤ b → S b) (hn : Rd S w (fl ns) (.slice a ns.length c)) :
    Calls Tryz.prog 13 #[.agg #[.int .i64 1, .int .i64 d, .slice a ns.length c, .slice ak lk ck]] w fun e w' => ∃ a1 c1, e = .returned (.agg #[.int .i64 1, .int .i64 (d % 4), .slice a1 (leafN 1 (d % 4) ns).length c1, .slice none 0 0]) ∧
      Rd S w' (fl (leafN 1 (d % 4) ns)) (.slice a1 (leafN 1 (d % 4) ns).length c1) ∧ Below w.heap.size w w' := by
  have hd3 : bits .and .i64 d 3 = d % 4 := and_i64_3 d
  have hll := leafN_len 1 (d % 4) ns
  have hlt : leafN 1 (d % 4) ns = ns.take ((leafN 1 (d % 4) ns).length) := by rw [hll]; rfl
  have hqb := dN_bd (d % 4)
  have H31 := Lib.hid fun w => (show Calls Tryz.prog 31 #[.int .i64 (d % 4)] w fun e w' => e = .returned (.int .i64 (dN (d % 4) : Int)) ∧ w = w' from (c31 (d % 4) w).mono fun e w' h => ⟨by rw [h.1, dN_eq], h.2⟩)
  have hmb := Nat.div_mul_le_self ns.length (dN (d % 4))
  have hdd : ((ns.length : Int) / (dN (d % 4) : Int)) = ((ns.length / dN (d % 4) : Nat) : Int) := (Int.natCast_ediv _ _).symm
  generalize leafN 1 (d % 4) ns = xs at *
  generalize dN (d % 4) = q at *
  generalize d % 4 = D at *
  have hnq := Nat.div_le_self ns.length q
  generalize ns.length / q = nn at *
  have hw1 : IntKind.i64.wrap ((ns.length : Int) / (q : Int)) = (nn : Int) := by rw [hdd]; exact IntWalk.i64_in _ (by omega)
  obtain ⟨mm, hmm⟩ : ∃ mm, mm = min nn 1 := ⟨_, rfl⟩
  have hxl : xs.length = mm * q := by rw [hll, hmm]; simp
  have hmn : mm ≤ nn := by omega
  have hmin : min (nn : Int) 1 = (mm : Int) := by omega
  have hL : xs.length ≤ ns.length := by rw [hxl]; exact Nat.le_trans (Nat.mul_le_mul_right _ hmn) hmb
  have hmul : (mm : Int) * (q : Int) = (xs.length : Int) := by rw [hxl]; exact (Int.natCast_mul _ _).symm
  have hmul2 : IntKind.i64.wrap ((mm : Int) * (q : Int)) = (xs.length : Int) := by rw [hmul]; exact IntWalk.i64_in _ (by omega)
  have HB0 := Lib.hid (((bl_a2 w (.cells #[.int .i64 1, .int .i64 d, .slice a ns.length c, (.slice ak lk ck)] 25) (.cells #[.int .i64 0, .int .i64 0, .slice none 0 0, .slice none 0 0] 25)).alloc (by simp <;> omega) (.cells #[.int .i64 1, .int .i64 D, .slice none 0 0, .slice none 0 0] 25)))
  have L0 := (Lb.new' w #[.int .i64 1, .int .i64 d, .slice a ns.length c, .slice ak lk ck] 25 (.cells #[.int .i64 0, .int .i64 0, .slice none 0 0, .slice none 0 0] 25)).alloc (.cells #[.int .i64 1, .int .i64 D, .slice none 0 0, .slice none 0 0] 25)
  have L1 := (Lb.new2 w (.cells #[.int .i64 1, .int .i64 d, .slice a ns.length c, (.slice ak lk ck)] 25) #[.int .i64 0, .int .i64 0, .slice none 0 0, .slice none 0 0] 25).alloc (.cells #[.int .i64 1, .int .i64 D, .slice none 0 0, .slice none 0 0] 25)
  have L2 := Lb.new3 w (.cells #[.int .i64 1, .int .i64 d, .slice a ns.length c, (.slice ak lk ck)] 25) (.cells #[.int .i64 0, .int .i64 0, .slice none 0 0, .slice none 0 0] 25) #[.int .i64 1, .int .i64 D, .slice none 0 0, .slice none 0 0] 25
  have hrW := ((hn.alloc (.cells #[.int .i64 1, .int .i64 d, .slice a ns.length c, (.slice ak lk ck)] 25)).alloc (.cells #[.int .i64 0, .int .i64 0, .slice none 0 0, .slice none 0 0] 25)).alloc (.cells #[.int .i64 1, .int .i64 D, .slice none 0 0, .slice none 0 0] 25)
  have key : ∀ m : Nat, ∃ v2 w2, (Builtin.append_ #[22, 22] 22 #[.slice none 0 0, .slice a xs.length c]).run Tryz.prog ((((w.alloc (.cells #[.int .i64 1, .int .i64 d, .slice a ns.length c, (.slice ak lk ck)] 25)).alloc (.cells #[.int .i64 0, .int .i64 0, .slice none 0 0, .slice none 0 0] 25)).alloc (.cells #[.int .i64 1, .int .i64 D, .slice none 0 0, .slice none 0 0] 25)).drew.drew) = .ok v2 w2 ∧ Fl (w.heap.size + 3) w2 v2 xs ∧ Below (((w.alloc (.cells #[.int .i64 1, .int .i64 d, .slice a ns.length c, (.slice ak lk ck)] 25)).alloc (.cells #[.int .i64 0, .int .i64 0, .slice none 0 0, .slice none 0 0] 25)).alloc (.cells #[.int .i64 1, .int .i64 D, .slice none 0 0, .slice none 0 0] 25)).heap.size (((w.alloc (.cells #[.int .i64 1, .int .i64 d, .slice a ns.length c, (.slice ak lk ck)] 25)).alloc (.cells #[.int .i64 0, .int .i64 0, .slice none 0 0, .slice none 0 0] 25)).alloc (.cells #[.int .i64 1, .int .i64 D, .slice none 0 0, .slice none 0 0] 25)) w2 := fun _ => by
    obtain ⟨v2, w2, h1, h2, h3⟩ := app_take S (w.heap.size + 3) xs ns a c ((((w.alloc (.cells #[.int .i64 1, .int .i64 d, .slice a ns.length c, (.slice ak lk ck)] 25)).alloc (.cells #[.int .i64 0, .int .i64 0, .slice none 0 0, .slice none 0 0] 25)).alloc (.cells #[.int .i64 1, .int .i64 D, .slice none 0 0, .slice none 0 0] 25)).drew.drew) (by simp [World.drew]) hL hlt hnl hcap hnil hrW.drew.drew
    exact ⟨v2, w2, h1, h2, (Below.refl _ (((w.alloc (.cells #[.int .i64 1, .int .i64 d, .slice a ns.length c, (.slice ak lk ck)] 25)).alloc (.cells #[.int .i64 0, .int .i64 0, .slice none 0 0, .slice none 0 0] 25)).alloc (.cells #[.int .i64 1, .int .i64 D, .slice none 0 0, .slice none 0 0] 25))).drew.drew.trans h3⟩
  have Hkey := Lib.hid key
  have hcL : (xs.length : Int) ≤ (c : Int) := by omega
  have HL1 := Lib.hid L1; have HL2 := Lib.hid L2
  obtain ⟨k0, _, lt0⟩ := L0.use
  obtain ⟨k2, f2, lt2⟩ := L2.use
  have HS := Lib.hid hS
  obtain ⟨hq2, hq4⟩ := hqb
  have hqz : ¬ q = 0 := by omega
  have hqz2 : ¬ (q : Int) = 0 := by omega
  skip
  have hw2 : IntKind.i64.wrap (nn : Int) = (nn : Int) := IntWalk.i64_in _ (by omega)
  have hw3 : IntKind.i64.wrap (xs.length : Int) = (xs.length : Int) := IntWalk.i64_in _ (by omega)
  have hx0 : (0 : Int) ≤ (xs.length : Int) := by omega
  clear key hn hrW L0 L1 L2 hll hlt hmb hxl hmm hnil hS
  go_enter Tryz.func13, Tryz.ntmps13
  go_wp2_with (go_at_call 30; refine (c30 _ _).mono ?_; rintro e w' ⟨rfl, rfl⟩)
  go_region_held3 (fun w' => w'.cell? ⟨w.heap.size, 2, none⟩ = some (.slice a ns.length c) ∧ w'.cell? ⟨w.heap.size + 2, 1, none⟩ = some (.int .i64 D)) (first | (go_keep; done) | (go_simp; done)) (first | (go_at_call 31; refine (H31.out _).mono ?_; rintro _ _ ⟨rfl, rfl⟩))
  go_wp2_with fail
  obtain ⟨v2, w2, hap, hfl, hb2⟩ := Hkey.out 2
  obtain ⟨a1, c1, rfl⟩ := hfl.shape
  have Hap := Lib.hid hap
  have Hfl := Lib.hid hfl
  have L2w := HL2.out.blw hb2
  obtain ⟨kw2, fw2, ltw2⟩ := L2w.use
  have HL1w := Lib.hid (HL1.out.blw hb2)
  obtain ⟨kw1, fw1, ltw1⟩ := HL1w.out.use
  have HBw := Lib.hid (HB0.out.trans (hb2.mono (by simp <;> omega)))
  have hkk : w2.cell? ⟨w.heap.size, 2, none⟩ = some (.slice a ns.length c) := by
    rw [hb2.cell (p := ⟨w.heap.size, 2, none⟩) (by simp; omega)]; exact k0 2
  clear hap hfl hb2 L2w
  go_region_law (first | (refine step_append_eq rfl _ _ 22 rfl rfl rfl rfl Hap.out ?_) | (go_simp; go_at_call 31; refine (H31.out _).mono ?_; rintro _ _ ⟨rfl, rfl⟩))
  all_goals go_wp2_with fail
  all_goals
    refine bodyPost_ret (v := .agg #[.int .i64 1, .int .i64 D, .slice a1 xs.length c1, .slice none 0 0]) (by simp [results, Tryz.results13, go_sem, kw1]) rfl ⟨a1, c1, rfl, ?_, ?_⟩
    · refine Rd.unex (L := w.heap.size + 1) ?_
      refine Rd.unex (L := w.heap.size + 2) ?_
      have hd : Rd (Ex (Ex S (w.heap.size + 1)) (w.heap.size + 2)) w2 (fl xs) (.slice a1 xs.length c1) := Hfl.out.rd (fun b hb => ⟨⟨HS.out b (by omega), by omega⟩, by omega⟩) (by omega)
      repeat (with_reducible first | exact hd | refine Rd.setL1 ?_ _ _ | refine Rd.setL2 ?_ _ _)
    · repeat (with_reducible first | exact HBw.out | refine Below.setCell ?_ (by simp <;> omega) _)
set_option maxHeartbeats 4000000 in
theorem c13_2 (S : Nat → Prop) (d : Int) (ns : List Nat) (a ak : Option Addr) (c lk ck : Nat) (w : World) (hnl : ns.length ≤ 1000000) (hcap : ns.length ≤ c) (hnil : a = none → c = 0) (hS : ∀ b, w.heap.size ≤ b → S b) (hn : Rd S w (fl ns) (.slice a ns.length c)) :
    Calls Tryz.prog 13 #[.agg #[.int .i64 2, .int .i64 d, .slice a ns.length c, .slice ak lk ck]] w fun e w' => ∃ a1 c1, e = .returned (.agg #[.int .i64 2, .int .i64 (d % 4), .slice a1 (leafN 2 (d % 4) ns).length c1, .slice none 0 0]) ∧
      Rd S w' (fl (leafN 2 (d % 4) ns)) (.slice a1 (leafN 2 (d % 4) ns).length c1) ∧ Below w.heap.size w w' := by
  have hd3 : bits .and .i64 d 3 = d % 4 := and_i64_3 d
  have hll := leafN_len 2 (d % 4) ns
  have hlt : leafN 2 (d % 4) ns = ns.take ((leafN 2 (d % 4) ns).length) := by rw [hll]; rfl
  have hqb := dN_bd (d % 4)
  have H31 := Lib.hid fun w => (show Calls Tryz.prog 31 #[.int .i64 (d % 4)] w fun e w' => e = .returned (.int .i64 (dN (d % 4) : Int)) ∧ w = w' from (c31 (d % 4) w).mono fun e w' h => ⟨by rw [h.1, dN_eq], h.2⟩)
  have hmb := Nat.div_mul_le_self ns.length (dN (d % 4))
  have hdd : ((ns.length : Int) / (dN (d % 4) : Int)) = ((ns.length / dN (d % 4) : Nat) : Int) := (Int.natCast_ediv _ _).symm
  generalize leafN 2 (d % 4) ns = xs at *
  generalize dN (d % 4) = q at *
  generalize d % 4 = D at *
  have hnq := Nat.div_le_self ns.length q
  generalize ns.length / q = nn at *
  have hw1 : IntKind.i64.wrap ((ns.length : Int) / (q : Int)) = (nn : Int) := by rw [hdd]; exact IntWalk.i64_in _ (by omega)
  obtain ⟨mm, hmm⟩ : ∃ mm, mm = nn := ⟨_, rfl⟩
  have hxl : xs.length = mm * q := by rw [hll, hmm]; simp
  have hmn : mm ≤ nn := by omega
  skip
  have hL : xs.length ≤ ns.length := by rw [hxl]; exact Nat.le_trans (Nat.mul_le_mul_right _ hmn) hmb
  have hmul : (mm : Int) * (q : Int) = (xs.length : Int) := by rw [hxl]; exact (Int.natCast_mul _ _).symm
  have hmul2 : IntKind.i64.wrap ((mm : Int) * (q : Int)) = (xs.length : Int) := by rw [hmul]; exact IntWalk.i64_in _ (by omega)
  have HB0 := Lib.hid (((bl_a2 w (.cells #[.int .i64 2, .int .i64 d, .slice a ns.length c, (.slice ak lk ck)] 25) (.cells #[.int .i64 0, .int .i64 0, .slice none 0 0, .slice none 0 0] 25)).alloc (by simp <;> omega) (.cells #[.int .i64 2, .int .i64 D, .slice none 0 0, .slice none 0 0] 25)))
  have L0 := (Lb.new' w #[.int .i64 2, .int .i64 d, .slice a ns.length c, .slice ak lk ck] 25 (.cells #[.int .i64 0, .int .i64 0, .slice none 0 0, .slice none 0 0] 25)).alloc (.cells #[.int .i64 2, .int .i64 D, .slice none 0 0, .slice none 0 0] 25)
  have L1 := (Lb.new2 w (.cells #[.int .i64 2, .int .i64 d, .slice a ns.length c, (.slice ak lk ck)] 25) #[.int .i64 0, .int .i64 0, .slice none 0 0, .slice none 0 0] 25).alloc (.cells #[.int .i64 2, .int .i64 D, .slice none 0 0, .slice none 0 0] 25)
  have L2 := Lb.new3 w (.cells #[.int .i64 2, .int .i64 d, .slice a ns.length c, (.slice ak lk ck)] 25) (.cells #[.int .i64 0, .int .i64 0, .slice none 0 0, .slice none 0 0] 25) #[.int .i64 2, .int .i64 D, .slice none 0 0, .slice none 0 0] 25
  have hrW := ((hn.alloc (.cells #[.int .i64 2, .int .i64 d, .slice a ns.length c, (.slice ak lk ck)] 25)).alloc (.cells #[.int .i64 0, .int .i64 0, .slice none 0 0, .slice none 0 0] 25)).alloc (.cells #[.int .i64 2, .int .i64 D, .slice none 0 0, .slice none 0 0] 25)
  have key : ∀ m : Nat, ∃ v2 w2, (Builtin.append_ #[22, 22] 22 #[.slice none 0 0, .slice a xs.length c]).run Tryz.prog ((((w.alloc (.cells #[.int .i64 2, .int .i64 d, .slice a ns.length c, (.slice ak lk ck)] 25)).alloc (.cells #[.int .i64 0, .int .i64 0, .slice none 0 0, .slice none 0 0] 25)).alloc (.cells #[.int .i64 2, .int .i64 D, .slice none 0 0, .slice none 0 0] 25)).drew.drew) = .ok v2 w2 ∧ Fl (w.heap.size + 3) w2 v2 xs ∧ Below (((w.alloc (.cells #[.int .i64 2, .int .i64 d, .slice a ns.length c, (.slice ak lk ck)] 25)).alloc (.cells #[.int .i64 0, .int .i64 0, .slice none 0 0, .slice none 0 0] 25)).alloc (.cells #[.int .i64 2, .int .i64 D, .slice none 0 0, .slice none 0 0] 25)).heap.size (((w.alloc (.cells #[.int .i64 2, .int .i64 d, .slice a ns.length c, (.slice ak lk ck)] 25)).alloc (.cells #[.int .i64 0, .int .i64 0, .slice none 0 0, .slice none 0 0] 25)).alloc (.cells #[.int .i64 2, .int .i64 D, .slice none 0 0, .slice none 0 0] 25)) w2 := fun _ => by
    obtain ⟨v2, w2, h1, h2, h3⟩ := app_take S (w.heap.size + 3) xs ns a c ((((w.alloc (.cells #[.int .i64 2, .int .i64 d, .slice a ns.length c, (.slice ak lk ck)] 25)).alloc (.cells #[.int .i64 0, .int .i64 0, .slice none 0 0, .slice none 0 0] 25)).alloc (.cells #[.int .i64 2, .int .i64 D, .slice none 0 0, .slice none 0 0] 25)).drew.drew) (by simp [World.drew]) hL hlt hnl hcap hnil hrW.drew.drew
    exact ⟨v2, w2, h1, h2, (Below.refl _ (((w.alloc (.cells #[.int .i64 2, .int .i64 d, .slice a ns.length c, (.slice ak lk ck)] 25)).alloc (.cells #[.int .i64 0, .int .i64 0, .slice none 0 0, .slice none 0 0] 25)).alloc (.cells #[.int .i64 2, .int .i64 D, .slice none 0 0, .slice none 0 0] 25))).drew.drew.trans h3⟩
  have Hkey := Lib.hid key
  have hcL : (xs.length : Int) ≤ (c : Int) := by omega
  have HL1 := Lib.hid L1; have HL2 := Lib.hid L2
  obtain ⟨k0, _, lt0⟩ := L0.use
  obtain ⟨k2, f2, lt2⟩ := L2.use
  have HS := Lib.hid hS
  obtain ⟨hq2, hq4⟩ := hqb
  have hqz : ¬ q = 0 := by omega
  have hqz2 : ¬ (q : Int) = 0 := by omega
  subst hmm
  have hw2 : IntKind.i64.wrap (mm : Int) = (mm : Int) := IntWalk.i64_in _ (by omega)
  have hw3 : IntKind.i64.wrap (xs.length : Int) = (xs.length : Int) := IntWalk.i64_in _ (by omega)
  have hx0 : (0 : Int) ≤ (xs.length : Int) := by omega
  clear key hn hrW L0 L1 L2 hll hlt hmb hxl  hnil hS
  go_enter Tryz.func13, Tryz.ntmps13
  go_wp2_with (go_at_call 30; refine (c30 _ _).mono ?_; rintro e w' ⟨rfl, rfl⟩)
  go_region_held3 (fun w' => w'.cell? ⟨w.heap.size, 2, none⟩ = some (.slice a ns.length c) ∧ w'.cell? ⟨w.heap.size + 2, 1, none⟩ = some (.int .i64 D)) (first | (go_keep; done) | (go_simp; done)) (first | (go_at_call 31; refine (H31.out _).mono ?_; rintro _ _ ⟨rfl, rfl⟩))
  go_wp2_with fail
  obtain ⟨v2, w2, hap, hfl, hb2⟩ := Hkey.out 2
  obtain ⟨a1, c1, rfl⟩ := hfl.shape
  have Hap := Lib.hid hap
  have Hfl := Lib.hid hfl
  have L2w := HL2.out.blw hb2
  obtain ⟨kw2, fw2, ltw2⟩ := L2w.use
  have HL1w := Lib.hid (HL1.out.blw hb2)
  obtain ⟨kw1, fw1, ltw1⟩ := HL1w.out.use
  have HBw := Lib.hid (HB0.out.trans (hb2.mono (by simp <;> omega)))
  have hkk : w2.cell? ⟨w.heap.size, 2, none⟩ = some (.slice a ns.length c) := by
    rw [hb2.cell (p := ⟨w.heap.size, 2, none⟩) (by simp; omega)]; exact k0 2
  clear hap hfl hb2 L2w
  go_region_law (first | (refine step_append_eq rfl _ _ 22 rfl rfl rfl rfl Hap.out ?_) | (go_simp; go_at_call 31; refine (H31.out _).mono ?_; rintro _ _ ⟨rfl, rfl⟩))
  all_goals go_wp2_with fail
  all_goals
    refine bodyPost_ret (v := .agg #[.int .i64 2, .int .i64 D, .slice a1 xs.length c1, .slice none 0 0]) (by simp [results, Tryz.results13, go_sem, kw1]) rfl ⟨a1, c1, rfl, ?_, ?_⟩
    · refine Rd.unex (L := w.heap.size + 1) ?_
      refine Rd.unex (L := w.heap.size + 2) ?_
      have hd : Rd (Ex (Ex S (w.heap.size + 1)) (w.heap.size + 2)) w2 (fl xs) (.slice a1 xs.length c1) := Hfl.out.rd (fun b hb => ⟨⟨HS.out b (by omega), by omega⟩, by omega⟩) (by omega)
      repeat (with_reducible first | exact hd | refine Rd.setL1 ?_ _ _ | refine Rd.setL2 ?_ _ _)
    · repeat (with_reducible first | exact HBw.out | refine Below.setCell ?_ (by simp <;> omega) _)
end Go.Proofs.YtahnhhkbdgaidaaGreatDoor
