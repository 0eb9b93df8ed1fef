/-
  The reader of binary forms: lines, the greatest byte first.
-/
import Derived.Lib.EndianMore
import Derived.Test.YtahnhhkbdgaidaaGreatDoorKbf
import Derived.Test.YtahnhhkbdgaidaaGreatDoorHa
namespace Go.Proofs.YtahnhhkbdgaidaaGreatDoor
open Go.RowKit
set_option maxRecDepth 100000
theorem size5 : (Tryz.prog.info? 5).map (·.size) = some 1 := by kernel_rfl
/-- Each eight bytes turned. -/
def flipL (l : List UInt8) : List UInt8 := (List.range l.length).map fun i => l.getD (8 * (i / 8) + 7 - i % 8) 0
theorem flipL_length (l : List UInt8) : (flipL l).length = l.length := by simp [flipL]
theorem flip_f8 {xs : List Nat} {l : List UInt8} (h : F8 0 xs l) : F8 1 xs (flipL l) := by
  obtain ⟨h1, h2⟩ := h
  refine ⟨by rw [flipL_length, h1], fun i hi => ?_⟩
  have e : ((flipL l).drop (8 * i)).take 8 = ((l.drop (8 * i)).take 8).reverse := by
    refine List.ext_getElem (by simp [flipL_length]) fun k hk1 hk2 => ?_
    have hk : k < 8 := by simp at hk1; omega
    rw [List.getElem_take, List.getElem_drop, List.getElem_reverse, List.getElem_take, List.getElem_drop]
    have hm : 8 * (i + 1) ≤ l.length := by omega
    have hlen : (List.take 8 (List.drop (8 * i) l)).length = 8 := by rw [List.length_take, List.length_drop]; omega
    simp only [flipL, List.getElem_map, List.getElem_range]
    rw [show 8 * ((8 * i + k) / 8) + 7 - (8 * i + k) % 8 = 8 * i + (7 - k) by omega]
    simp only [hlen]
    have hlt : 8 * i + (7 - k) < l.length := by omega
    simp [List.getD, hlt]
  rw [e, ← h2 i hi]
  unfold dec
  rw [if_neg (by omega), if_pos rfl, Lib.beNat_eq]
def bval (x : UInt8) : Value := .int .u8 (x.toNat : Int)
theorem flip_cells_at {l : List UInt8} {n : Nat} (hl : l.length = 8 * n) {cs : Array Value} (h : ∀ i, i < 8 * n → cs[i]? = ((l.map bval).toArray)[8 * (i / 8) + 7 - i % 8]?) (j : Nat) (hj : j < (flipL l).length) : cs[j]? = some (.int .u8 (((flipL l)[j]).toNat : Int)) := by
  have hj2 : j < 8 * n := by rw [flipL_length, hl] at hj; exact hj
  have hi : 8 * (j / 8) + 7 - j % 8 < l.length := by omega
  rw [h j hj2]
  simp [flipL, bval, List.getD, hi]
theorem gsetP {w w1 : World} {P : Nat} (h : w.grownBy w1 (some P)) (o : Nat) (x : Value) : w.grownBy (w1.setCell ⟨P, o, none⟩ x) (some P) := grown_set h o x
set_option maxHeartbeats 8000000 in
theorem c190_0 (S : Nat → Prop) (P b : Nat) (t : Int) (n : Nat) (xs : List Nat) (l4 l r : List UInt8) (w : World) (t0 : 0 ≤ t) (t1 : t ≤ 3) (h4 : l4.length = 4) (hd : dec 0 l4 = n) (hn : n * dN t = xs.length) (hf : F8 0 xs l) (hl : xs.length ≤ 100000000) (hS : ∀ k, w.heap.size ≤ k → S k) (h : Pr P b 0 false (l4 ++ (l ++ r)) w) :
    Calls Tryz.prog 190 #[.pointer (some ⟨P, 0, none⟩), .int .u8 t] w (LineR S P b 0 false t xs r w) := by
  have hlP := h.lt
  have hlb := h.inb.2
  have hb1' := bl_a1 w (.cells #[.int .u8 0, .slice none 0 0] 69)
  have H188 := c188 P b 0 (.inl rfl) false l4 (l ++ r) h4 _ (h.blw hb1')
  rw [hd] at H188
  replace H188 := Lib.hid H188
  have hmul : (n : Int) * dimN t = (xs.length : Int) := by rw [dN_eq, ← hn]; simp
  have hll := hf.1
  have l0 := Lib.hid (Lb.new w #[.int .u8 0, .slice none 0 0] 69)
  have H135 := Lib.hid (fun w => c135 t w t0 t1)
  have hmod : xs.length % dN t = 0 := by rw [← hn]; exact Nat.mul_mod_left _ _
  have H136 := Lib.hid (fun a c w => c136 t a xs.length c w t0 t1 (by omega) hmod)
  have hmk : ∀ w, (Instr.makeSlice 22 (.int .i64 (xs.length : Int)) (.int .i64 (xs.length : Int))).run Tryz.prog w = .ok (.slice (some ⟨w.heap.size, 0, none⟩) xs.length xs.length) (w.alloc (.cells (madeCells #[.float .f64 0] xs.length) 43)) := fun w =>
    run_make_row' 22 43 (.float .f64 0) 8 Tryz.underlying22 info43 rfl .i64 .i64 _ (by omega) (by omega) w
  have hms : (madeCells #[.float .f64 0] xs.length).size = xs.length := size_madeCells _ _
  generalize madeCells #[.float .f64 0] xs.length = mc at *
  have Hf := Lib.hid hf; have HS := Lib.hid hS
  have hnb := dN_bd t
  have hnx : n ≤ 100000000 := by
    have := Nat.mul_le_mul_left n hnb.1; omega
  clear h hf hS hd hb1' hmod
  generalize dimN t = D at *
  go_enter Tryz.func190, Tryz.ntmps190
  go_wp2_with fail
  refine H188.out.mono ?_
  rintro _ w1 ⟨rfl, hp1, hg1⟩
  obtain ⟨off, c, hp⟩ := hp1.at
  have hL1 := l0.out.grown hg1 (fun e => by have := Option.some.inj e; omega)
  have hsz1 : w.heap.size + 1 ≤ w1.heap.size := by have := hg1.size; simpa using this
  have HG1 := Lib.hid (grown_trans (alloc_grown w (.cells #[.int .u8 0, .slice none 0 0] 69) (some P)) hg1)
  obtain ⟨kP, fP, lP⟩ := hp.lb.use
  have hcap := hp.cap; have hmax := hp.max
  simp only [List.length_append, hll] at hcap hmax
  have hcap2 : 8 * (xs.length : Int) ≤ (c : Int) := by omega
  have hcapn : ¬ (8 * (xs.length : Int) + (r.length : Int) < 8 * (xs.length : Int)) := by omega
  have hcmp : decide (8 * (xs.length : Int) + (r.length : Int) < 8 * (xs.length : Int)) = false := decide_eq_false hcapn
  have Hp := Lib.hid hp; have HL1 := Lib.hid hL1
  clear hp1 hg1 hp l0 hL1 H188
  go_wp2_with fail
  refine (H135.out _).mono ?_
  rintro _ w1' ⟨rfl, rfl⟩
  have hmk2 : ∀ w, (Instr.makeSlice 32 (.int .i64 (8 * (xs.length : Int))) (.int .i64 (8 * (xs.length : Int)))).run Tryz.prog w = .ok (.slice (some ⟨w.heap.size, 0, none⟩) (8 * xs.length) (8 * xs.length)) (w.alloc (.cells (madeCells #[.int .u8 0] (8 * xs.length * 1)) 5)) := fun w => by
    have := mk_any (P := Tryz.prog) 32 5 (.int .u8 0) 1 1 Tryz.underlying32 info5 (8 * xs.length) (by omega) (by omega) w
    rw [show ((8 * xs.length : Nat) : Int) = 8 * (xs.length : Int) by omega] at this
    exact this
  have hms2 : (madeCells #[.int .u8 0] (8 * xs.length * 1)).size = 8 * xs.length := by rw [size_madeCells]; omega
  generalize madeCells #[.int .u8 0] (8 * xs.length * 1) = bc at *
  have hne1 := Hp.out.ne
  have hlt1 := Hp.out.lt
  have hPlt := Hp.out.lb.use.2.2
  have hb3 := bl_a2 w1 (.cells mc 43) (.cells bc 5)
  obtain ⟨w4, hcp, hrow4, hg4⟩ := copy_over (P := Tryz.prog) ((w1.alloc (.cells mc 43)).alloc (.cells bc 5)) 32 3 5 Tryz.underlying32 size5 (w1.heap.size + 1) (8 * xs.length) (8 * xs.length) (some ⟨b, off, none⟩) (8 * xs.length + r.length) c bc 5 (Lb.new2 w1 (.cells mc 43) bc 5) hms2 (l.map bval) (by rw [List.length_map, hll]) (by omega) (fun _ => ⟨_, rfl, fun j v hv => by
      obtain ⟨hj, ev⟩ := List.getElem?_eq_some_iff.1 hv
      have hj' : j < l.length := by simpa using hj
      rw [Addr.add_lit, (hb3.cell (p := ⟨b, off + j, none⟩) hlt1), Hp.out.cell j (by rw [List.length_append]; omega), List.getElem_append_left hj', ← ev]; simp [bval]⟩) (by intro v hv; obtain ⟨_, _, rfl⟩ := List.mem_map.1 hv; rfl)
  have hs4 : w1.heap.size + 2 ≤ w4.heap.size := by have := hg4.size; simpa using this
  have H233 := Lib.hid (c233 (w1.heap.size + 1) xs.length (l.map bval).toArray (by simp [hll]) (fun i hi => ⟨((l[i]'(by omega)).toNat : Int), by simp [bval, show i < l.length by omega]⟩) hl w4 hrow4)
  have Hp4 := Lib.hid ((Hp.out.blw hb3).grown hg4 (fun e => by have := Option.some.inj e; omega) (fun e => by have := Option.some.inj e; omega))
  have L4 := Lib.hid ((HL1.out.blw hb3).grown hg4 (fun e => by have := Option.some.inj e; omega))
  have M4 := Lib.hid ((Lb.new' w1 mc 43 (.cells bc 5)).grown hg4 (fun e => by have := Option.some.inj e; omega))
  have HG4 : Hid (w.grownBy w4 (some P)) := Lib.hid ⟨hg4.os.trans (hb3.os.trans HG1.out.os), hg4.tape.trans (hb3.tape.trans HG1.out.tape), hg4.output.trans (hb3.output.trans HG1.out.output), by omega, fun k hk hne => (hg4.block k (by simp; omega) (fun e => by have := Option.some.inj e; omega)).trans ((hb3.block k (by omega)).trans (HG1.out.block k hk hne))⟩
  clear hb3 hg4 hrow4 HG1 HL1
  go_wp2_with fail
  refine H233.out.mono ?_
  rintro _ w5 ⟨rfl, ⟨cs, hcsL, hcss, hcsv⟩, hg5⟩
  have hs5 : w1.heap.size + 2 ≤ w5.heap.size := Nat.le_trans hs4 hg5.size
  have Hp5 := Lib.hid (Hp4.out.grown hg5 (fun e => by have := Option.some.inj e; omega) (fun e => by have := Option.some.inj e; omega))
  have L5 := Lib.hid (L4.out.grown hg5 (fun e => by have := Option.some.inj e; omega))
  have M5 := Lib.hid (M4.out.grown hg5 (fun e => by have := Option.some.inj e; omega))
  have B5 := Lib.hid hcsL
  have hcsv := Lib.hid hcsv
  have HG5 : Hid (w.grownBy w5 (some P)) := Lib.hid ⟨hg5.os.trans HG4.out.os, hg5.tape.trans HG4.out.tape, hg5.output.trans HG4.out.output, by omega, fun k hk hne => (hg5.block k (by omega) (fun e => by have := Option.some.inj e; omega)).trans (HG4.out.block k hk hne)⟩
  obtain ⟨kP5, fP5, lP5⟩ := Hp5.out.lb.use
  clear hcsL hg5 Hp4 L4 M4 HG4 H233 kP fP lP Hp hcp
  by_cases e1 : c = 8 * xs.length
  · subst e1
    obtain rfl : r = [] := List.eq_nil_of_length_eq_zero (by omega)
    have hp5 := Hp5.out
    rw [List.append_nil] at hp5
    have hp6 := hp5.rest0
    have hL6 := L5.out.far (p := ⟨P, 0, none⟩) (by simp <;> omega) (.slice (some ⟨b, off, none⟩) 0 0)
    have hM6 := M5.out.far (p := ⟨P, 0, none⟩) (by simp <;> omega) (.slice (some ⟨b, off, none⟩) 0 0)
    have hB6 := B5.out.far (p := ⟨P, 0, none⟩) (by simp <;> omega) (.slice (some ⟨b, off, none⟩) 0 0)
    have HG6 := Lib.hid (gsetP HG5.out 0 (.slice (some ⟨b, off, none⟩) 0 0))
    have hs6 : (w5.setCell ⟨P, 0, none⟩ (.slice (some ⟨b, off, none⟩) 0 0)).heap.size = w5.heap.size := by simp [World.setCell]
    have H234 := c234 S xs (flipL l) (w1.heap.size + 1) 0 (8 * xs.length) (w5.setCell ⟨P, 0, none⟩ (.slice (some ⟨b, off, none⟩) 0 0)) (flip_f8 Hf.out) hl (Nat.le_refl _) (fun k hk => HS.out k (by rw [hs6] at hk; omega)) (by rw [hs6]; omega) (fun j hj => by
      rw [hB6.use.1, Nat.zero_add]; exact flip_cells_at hll hcsv.out j hj)
    have H234 := Lib.hid H234; have Hp6 := Lib.hid hp6; have HL6 := Lib.hid hL6; have HM6 := Lib.hid hM6
    clear hp5 hp6 hL6 hM6 hB6 HG5 L5 M5 B5 Hp5
    go_wp2_with fail
    refine H234.out.mono ?_
    rintro _ w7 ⟨a4, c4, rfl, hr4, hb7⟩
    have hm7 := HM6.out.blw hb7
    have hp7 := Hp6.out.blw hb7
    have hL7 := HL6.out.blw hb7
    have hsz7 : w5.heap.size ≤ w7.heap.size := by have := hb7.size; rw [hs6] at this; exact this
    obtain ⟨w8, hcp8, hrow, hg8⟩ := copy_over (P := Tryz.prog) w7 22 3 43 Tryz.underlying22 size43 w1.heap.size xs.length xs.length a4 xs.length c4 mc 43 hm7 hms (xs.map (Value.float .f64)) (by simp) (Nat.le_refl _) (fun hpos => by
      obtain ⟨a5, c5, e5, _, hi⟩ := fl_inv hr4
      obtain ⟨rfl, _, rfl⟩ := Value.slice.inj e5
      obtain ⟨b6, off6, rfl, _, _, _⟩ := hi 0 hpos
      refine ⟨_, rfl, fun j v hv => ?_⟩
      obtain ⟨hj, ev⟩ := List.getElem?_eq_some_iff.1 hv
      have hj' : j < xs.length := by simpa using hj
      obtain ⟨b7, off7, e7, _, _, hc7⟩ := hi j hj'
      obtain ⟨rfl, rfl⟩ : b6 = b7 ∧ off6 = off7 := by simpa using e7
      rw [Addr.add_lit, hc7, ← ev]; simp) (by intro v hv; obtain ⟨_, _, rfl⟩ := List.mem_map.1 hv; rfl)
    have hp8 := hp7.grown hg8 (fun e => by have := Option.some.inj e; omega) (fun e => by have := Option.some.inj e; omega)
    have hL8 := hL7.grown hg8 (fun e => by have := Option.some.inj e; omega)
    have hrd : Rd (Ex S w.heap.size) w8 (fl xs) (.slice (some ⟨w1.heap.size, 0, none⟩) xs.length xs.length) := fl_row hrow ⟨HS.out _ (by omega), by omega⟩ (by omega) (fun i hi => by simp [hi])
    have hsz8 : w1.heap.size + 1 ≤ w8.heap.size := by have := hg8.size; omega
    have HG8 := Lib.hid (show w.grownBy w8 (some P) from ⟨hg8.os.trans (hb7.os.trans HG6.out.os), hg8.tape.trans (hb7.tape.trans HG6.out.tape), hg8.output.trans (hb7.output.trans HG6.out.output), by omega, fun k hk hne => (hg8.block k (by omega) (fun e => by have := Option.some.inj e; omega)).trans ((hb7.block k (by rw [hs6]; omega)).trans (HG6.out.block k hk hne))⟩)
    have Hp8 := Lib.hid hp8; have HL8 := Lib.hid hL8; have Hrd := Lib.hid hrd
    clear hm7 hp7 hL7 hr4 hb7 hrow hg8 hp8 hL8 hrd HG6 Hp6 HM6 HL6 H234
    go_wp2_with fail
    refine (H136.out _ _ _).mono ?_
    rintro _ w9 ⟨rfl, hb9⟩
    have hsz9 : w1.heap.size + 1 ≤ w9.heap.size := Nat.le_trans hsz8 hb9.size
    have Hp10 := Lib.hid ((Hp8.out.blw hb9).blw (bl_a1 w9 (.cells #[.int .u8 t, .slice (some ⟨w1.heap.size, 0, none⟩) xs.length xs.length] 67)))
    have HL10 := Lib.hid ((HL8.out.blw hb9).blw (bl_a1 w9 (.cells #[.int .u8 t, .slice (some ⟨w1.heap.size, 0, none⟩) xs.length xs.length] 67)))
    have Hr10 := Lib.hid ((Hrd.out.blw hb9).alloc (.cells #[.int .u8 t, .slice (some ⟨w1.heap.size, 0, none⟩) xs.length xs.length] 67))
    have HG10 := Lib.hid (grown_trans HG8.out (grown_trans (below_grown hb9 _) (alloc_grown w9 (.cells #[.int .u8 t, .slice (some ⟨w1.heap.size, 0, none⟩) xs.length xs.length] 67) _)))
    clear hb9 Hp8 HL8 Hrd HG8
    go_wp2_with fail
    refine (c89 _ _ _ _ _).mono ?_
    rintro _ w11 ⟨rfl, hb11⟩
    obtain ⟨k8, f8, l8⟩ := (HL10.out.blw hb11).use
    have HP8 := Lib.hid ((Hp10.out.blw hb11))
    have HR8 := Lib.hid (Hr10.out.blw hb11)
    have HG11 := Lib.hid (grown_trans HG10.out (below_grown hb11 _))
    clear hb11 Hp10 HL10 Hr10 HG10
    go_wp2_with fail
    refine bodyPost_ret (v := .tuple #[.agg #[.int .u8 t, .slice (some ⟨w1.heap.size, 0, none⟩) xs.length xs.length], .nilIface]) (by simp [results, Tryz.results190, go_sem, k8]) rfl ⟨_, _, rfl, ?_, ?_, ?_⟩
    · refine Rd.unex (L := w.heap.size) ?_
      repeat (with_reducible first | exact HR8.out | refine Rd.set ?_ _ _)
    · exact PrAt.pr (PrAt.grown (PrAt.grown HP8.out (set_grown _ w.heap.size 0 _) (by simp <;> omega) (by simp <;> omega)) (set_grown _ w.heap.size 1 _) (by simp <;> omega) (by simp <;> omega))
    · refine ⟨HG11.out.os, HG11.out.tape, HG11.out.output, Nat.le_trans HG11.out.size (by simp [World.setCell]), fun k hk hne => ?_⟩
      rw [Below.heap_setCell _ _ _ k (by simp <;> omega), Below.heap_setCell _ _ _ k (by simp <;> omega)]
      exact HG11.out.block k hk hne
  · have hp5 := Hp5.out
    have hp6 := hp5.rest1 hll
    have hL6 := L5.out.far (p := ⟨P, 0, none⟩) (by simp <;> omega) (.slice (some ⟨b, off + 8 * xs.length, none⟩) r.length (c - 8 * xs.length))
    have hM6 := M5.out.far (p := ⟨P, 0, none⟩) (by simp <;> omega) (.slice (some ⟨b, off + 8 * xs.length, none⟩) r.length (c - 8 * xs.length))
    have hB6 := B5.out.far (p := ⟨P, 0, none⟩) (by simp <;> omega) (.slice (some ⟨b, off + 8 * xs.length, none⟩) r.length (c - 8 * xs.length))
    have HG6 := Lib.hid (gsetP HG5.out 0 (.slice (some ⟨b, off + 8 * xs.length, none⟩) r.length (c - 8 * xs.length)))
    have hs6 : (w5.setCell ⟨P, 0, none⟩ (.slice (some ⟨b, off + 8 * xs.length, none⟩) r.length (c - 8 * xs.length))).heap.size = w5.heap.size := by simp [World.setCell]
    have H234 := c234 S xs (flipL l) (w1.heap.size + 1) 0 (8 * xs.length) (w5.setCell ⟨P, 0, none⟩ (.slice (some ⟨b, off + 8 * xs.length, none⟩) r.length (c - 8 * xs.length))) (flip_f8 Hf.out) hl (Nat.le_refl _) (fun k hk => HS.out k (by rw [hs6] at hk; omega)) (by rw [hs6]; omega) (fun j hj => by
      rw [hB6.use.1, Nat.zero_add]; exact flip_cells_at hll hcsv.out j hj)
    have H234 := Lib.hid H234; have Hp6 := Lib.hid hp6; have HL6 := Lib.hid hL6; have HM6 := Lib.hid hM6
    clear hp5 hp6 hL6 hM6 hB6 HG5 L5 M5 B5 Hp5
    go_wp2_with fail
    refine H234.out.mono ?_
    rintro _ w7 ⟨a4, c4, rfl, hr4, hb7⟩
    have hm7 := HM6.out.blw hb7
    have hp7 := Hp6.out.blw hb7
    have hL7 := HL6.out.blw hb7
    have hsz7 : w5.heap.size ≤ w7.heap.size := by have := hb7.size; rw [hs6] at this; exact this
    obtain ⟨w8, hcp8, hrow, hg8⟩ := copy_over (P := Tryz.prog) w7 22 3 43 Tryz.underlying22 size43 w1.heap.size xs.length xs.length a4 xs.length c4 mc 43 hm7 hms (xs.map (Value.float .f64)) (by simp) (Nat.le_refl _) (fun hpos => by
      obtain ⟨a5, c5, e5, _, hi⟩ := fl_inv hr4
      obtain ⟨rfl, _, rfl⟩ := Value.slice.inj e5
      obtain ⟨b6, off6, rfl, _, _, _⟩ := hi 0 hpos
      refine ⟨_, rfl, fun j v hv => ?_⟩
      obtain ⟨hj, ev⟩ := List.getElem?_eq_some_iff.1 hv
      have hj' : j < xs.length := by simpa using hj
      obtain ⟨b7, off7, e7, _, _, hc7⟩ := hi j hj'
      obtain ⟨rfl, rfl⟩ : b6 = b7 ∧ off6 = off7 := by simpa using e7
      rw [Addr.add_lit, hc7, ← ev]; simp) (by intro v hv; obtain ⟨_, _, rfl⟩ := List.mem_map.1 hv; rfl)
    have hp8 := hp7.grown hg8 (fun e => by have := Option.some.inj e; omega) (fun e => by have := Option.some.inj e; omega)
    have hL8 := hL7.grown hg8 (fun e => by have := Option.some.inj e; omega)
    have hrd : Rd (Ex S w.heap.size) w8 (fl xs) (.slice (some ⟨w1.heap.size, 0, none⟩) xs.length xs.length) := fl_row hrow ⟨HS.out _ (by omega), by omega⟩ (by omega) (fun i hi => by simp [hi])
    have hsz8 : w1.heap.size + 1 ≤ w8.heap.size := by have := hg8.size; omega
    have HG8 := Lib.hid (show w.grownBy w8 (some P) from ⟨hg8.os.trans (hb7.os.trans HG6.out.os), hg8.tape.trans (hb7.tape.trans HG6.out.tape), hg8.output.trans (hb7.output.trans HG6.out.output), by omega, fun k hk hne => (hg8.block k (by omega) (fun e => by have := Option.some.inj e; omega)).trans ((hb7.block k (by rw [hs6]; omega)).trans (HG6.out.block k hk hne))⟩)
    have Hp8 := Lib.hid hp8; have HL8 := Lib.hid hL8; have Hrd := Lib.hid hrd
    clear hm7 hp7 hL7 hr4 hb7 hrow hg8 hp8 hL8 hrd HG6 Hp6 HM6 HL6 H234
    go_wp2_with fail
    refine (H136.out _ _ _).mono ?_
    rintro _ w9 ⟨rfl, hb9⟩
    have hsz9 : w1.heap.size + 1 ≤ w9.heap.size := Nat.le_trans hsz8 hb9.size
    have Hp10 := Lib.hid ((Hp8.out.blw hb9).blw (bl_a1 w9 (.cells #[.int .u8 t, .slice (some ⟨w1.heap.size, 0, none⟩) xs.length xs.length] 67)))
    have HL10 := Lib.hid ((HL8.out.blw hb9).blw (bl_a1 w9 (.cells #[.int .u8 t, .slice (some ⟨w1.heap.size, 0, none⟩) xs.length xs.length] 67)))
    have Hr10 := Lib.hid ((Hrd.out.blw hb9).alloc (.cells #[.int .u8 t, .slice (some ⟨w1.heap.size, 0, none⟩) xs.length xs.length] 67))
    have HG10 := Lib.hid (grown_trans HG8.out (grown_trans (below_grown hb9 _) (alloc_grown w9 (.cells #[.int .u8 t, .slice (some ⟨w1.heap.size, 0, none⟩) xs.length xs.length] 67) _)))
    clear hb9 Hp8 HL8 Hrd HG8
    go_wp2_with fail
    refine (c89 _ _ _ _ _).mono ?_
    rintro _ w11 ⟨rfl, hb11⟩
    obtain ⟨k8, f8, l8⟩ := (HL10.out.blw hb11).use
    have HP8 := Lib.hid ((Hp10.out.blw hb11))
    have HR8 := Lib.hid (Hr10.out.blw hb11)
    have HG11 := Lib.hid (grown_trans HG10.out (below_grown hb11 _))
    clear hb11 Hp10 HL10 Hr10 HG10
    go_wp2_with fail
    refine bodyPost_ret (v := .tuple #[.agg #[.int .u8 t, .slice (some ⟨w1.heap.size, 0, none⟩) xs.length xs.length], .nilIface]) (by simp [results, Tryz.results190, go_sem, k8]) rfl ⟨_, _, rfl, ?_, ?_, ?_⟩
    · refine Rd.unex (L := w.heap.size) ?_
      repeat (with_reducible first | exact HR8.out | refine Rd.set ?_ _ _)
    · exact PrAt.pr (PrAt.grown (PrAt.grown HP8.out (set_grown _ w.heap.size 0 _) (by simp <;> omega) (by simp <;> omega)) (set_grown _ w.heap.size 1 _) (by simp <;> omega) (by simp <;> omega))
    · refine ⟨HG11.out.os, HG11.out.tape, HG11.out.output, Nat.le_trans HG11.out.size (by simp [World.setCell]), fun k hk hne => ?_⟩
      rw [Below.heap_setCell _ _ _ k (by simp <;> omega), Below.heap_setCell _ _ _ k (by simp <;> omega)]
      exact HG11.out.block k hk hne
theorem lineOk0 : LineOk 0 false := fun S P b t n xs l4 l r w t0 t1 h4 hd hn hf hl hS h => c190_0 S P b t n xs l4 l r w t0 t1 h4 hd hn hf hl hS h
end Go.Proofs.YtahnhhkbdgaidaaGreatDoor
