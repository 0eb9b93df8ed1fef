/-
  The writer of binary forms: heads, counts, numbers.
  The writer of binary forms: kinds, places, sequences.
  The writer of binary forms: kinds, places, sequences.
-/
import Derived.Test.YtahnhhkbdgaidaaGreatDoorKav
namespace Go.Proofs.YtahnhhkbdgaidaaGreatDoor
open Go.RowKit
set_option maxRecDepth 100000
theorem Bu.shape {B M : Nat} {v : Value} {bs : List UInt8} {w : World} (h : Bu B M v bs w) : ∃ a c, v = .slice a bs.length c := by
  rcases h.own.2 with ⟨rfl, h0⟩ | ⟨g, cap, cur, rfl, _⟩
  · exact ⟨none, 0, by rw [h0]⟩
  · exact ⟨_, _, rfl⟩
theorem Bu.shape' {B M : Nat} {v : Value} {bs : List UInt8} {w : World} (h : Bu B M v bs w) : ∃ a n c, v = .slice a n c := let ⟨a, c, e⟩ := h.shape; ⟨a, _, c, e⟩
theorem c217 (a : Option Addr) (n c : Nat) (w : World) : Calls Tryz.prog 217 #[.slice a n c] w fun e w' => e = .returned (.pointer (some ⟨w.heap.size, 0, none⟩)) ∧ w' = w.alloc (.cells #[.slice a n c] 261) := by
  go_enter Tryz.func217, Tryz.ntmps217
  go_wp2
  go_ret
  exact ⟨rfl, rfl⟩
/-- What a step of the writer answers: more bytes in the buffer. -/
def More (B M : Nat) (v : Value) (bs X : List UInt8) (w : World) : Ending → World → Prop := fun e w' => ∃ v', e = .returned (.tuple #[]) ∧ Bu B M v' (bs ++ X) w' ∧ Wr w M v w' v'
set_option maxHeartbeats 1000000 in
theorem c218 (B M : Nat) (v : Value) (bs : List UInt8) (w : World) (h : Bu B M v bs w) (hlen : bs.length ≤ 100000000000000) : Calls Tryz.prog 218 #[.pointer (some ⟨M, 0, none⟩)] w (More B M v bs [1] w) := by
  obtain ⟨a, c, rfl⟩ := h.shape
  have hA := h.step (bl_a1 w (.cells #[.int .u8 1] 5))
  obtain ⟨v', w', hap, lM, hB', hW, hsz⟩ := hA.app [1] ⟨w.heap.size, 0, none⟩ 1 1 rfl (fun j hj => by
    obtain rfl : j = 0 := by simpa using hj
    rw [Addr.add_lit, World.cell?_alloc_at _ _ _ _ rfl]; rfl) (by omega)
  obtain ⟨a', n', c', rfl⟩ := hB'.shape'
  obtain ⟨k, _, _⟩ := h.lb.use
  obtain ⟨k0, _, _⟩ := hA.lb.use
  obtain ⟨k1, f1, l1⟩ := lM.use
  have Hap := Lib.hid hap
  have HB' := Lib.hid hB'
  have HW := Lib.hid ((Wr.of_below M (.slice a bs.length c) (bl_a1 w (.cells #[.int .u8 1] 5))).trans hW)
  clear h hA hap lM hB' hW hsz
  go_enter Tryz.func218, Tryz.ntmps218
  go_wp2_with (first | (at_builtin; refine wpList_append_eq rfl _ _ 32 rfl rfl rfl rfl Hap.out ?_))
  go_end0
  exact ⟨_, rfl, HB'.out, HW.out⟩
theorem lb_bytes {w : World} {g : Nat} {l : List UInt8} {T : TypeId} (h : Lb w g (bcells l).toArray T) (j : Nat) (hj : j < l.length) : w.cell? ((⟨g, 0, none⟩ : Addr).add j) = some (.int .u8 ((l[j]).toNat : Int)) := by
  rw [Addr.add_lit, h.use.1]; simp [bcells, hj]
/-- A block of the call's own that was written: nothing that was there has turned. -/
theorem wr_own {w w0 w1 : World} {M : Nat} {v : Value} (h0 : Below w.heap.size w w0) (hg : w0.grownBy w1 (some w.heap.size)) : Wr w M v w1 v :=
  ⟨hg.os.trans h0.os, hg.tape.trans h0.tape, hg.output.trans h0.output, Nat.le_trans h0.size hg.size, fun b hb _ _ => (hg.block b (Nat.lt_of_lt_of_le hb h0.size) (fun e => by have := Option.some.inj e; omega)).trans (h0.block b hb), fun _ hj => .inr hj⟩
theorem Bu.drew_grown {B M : Nat} {v : Value} {bs : List UInt8} {w w' : World} {k : Nat} (h : Bu B M v bs w) (hg : w.drew.grownBy w' (some k)) (h1 : M ≠ k) (h2 : some k ≠ v.ownBlock) : Bu B M v bs w' :=
  ⟨h.own.kept (row := some k) ⟨hg.os, hg.tape, hg.output, hg.size, hg.block⟩ (by
      cases hv : v.ownBlock with
      | none => exact .inl rfl
      | some q => exact .inr (fun e => h2 (by rw [hv]; exact e.symm))), h.lb.grown (row := some k) ⟨hg.os, hg.tape, hg.output, hg.size, hg.block⟩ (fun e => h1 (Option.some.inj e)), h.ne, Nat.le_trans h.hB hg.size⟩
set_option maxHeartbeats 1000000 in
theorem c220 (B M : Nat) (v : Value) (bs : List UInt8) (n : Nat) (w : World) (h : Bu B M v bs w) (hn : n < 4294967296) (hlen : bs.length ≤ 100000000000000) : Calls Tryz.prog 220 #[.pointer (some ⟨M, 0, none⟩), .int .i64 (n : Int)] w (More B M v bs (Lib.leBytes 4 n) w) := by
  obtain ⟨a, c, rfl⟩ := h.shape
  have hA := h.step (bl_a1 w (.cells #[.int .u8 0, .int .u8 0, .int .u8 0, .int .u8 0] 320))
  have hwr : IntKind.u32.wrap (n : Int) = n := by simp [IntKind.wrap, IntKind.signed, IntKind.bits]; omega
  have H265 := Lib.hid (c265 n w.heap.size (.int .u8 0) (.int .u8 0) (.int .u8 0) (.int .u8 0) 320 ((w.alloc (.cells #[.int .u8 0, .int .u8 0, .int .u8 0, .int .u8 0] 320)).drew) hn (Lb.new w _ 320))
  have HA := Lib.hid hA
  have HM := Lib.hid h.lb
  have HF : Hid (some w.heap.size ≠ (Value.slice a bs.length c).ownBlock) := Lib.hid fun e => by have := (h.blk _ e.symm).2; omega
  obtain ⟨k, _, _⟩ := h.lb.use
  clear hA h
  go_enter Tryz.func220, Tryz.ntmps220
  go_wp2_with fail
  go_region_with (go_at_call 265; refine H265.out.mono ?_; rintro _ w1 ⟨rfl, hl1, hg1⟩)
  have hM0 : M < w.heap.size := HM.out.use.2.2
  have hW1 : Wr w M (.slice a bs.length c) w1 (.slice a bs.length c) := wr_own (bl_a1 w (.cells #[.int .u8 0, .int .u8 0, .int .u8 0, .int .u8 0] 320)).drew hg1
  have hB1 : Bu B M (.slice a bs.length c) bs w1 := HA.out.drew_grown hg1 (by omega) (HF.out)
  have hB2 := hB1.step (Below.refl _ w1).drew
  obtain ⟨v', w', hap, lM, hB', hW, hsz⟩ := hB2.app (Lib.leBytes 4 n) ⟨w.heap.size, 0, none⟩ 4 4 (Lib.leBytes_length 4 n) (fun j hj => lb_bytes hl1 j hj) (by omega)
  obtain ⟨a', n', c', rfl⟩ := hB'.shape'
  obtain ⟨k1, _, _⟩ := hB1.lb.use
  obtain ⟨k2, f2, l2⟩ := lM.use
  have Hap := Lib.hid hap
  have HB' := Lib.hid hB'
  have HW := Lib.hid (hW1.trans ((Wr.of_below M _ (Below.refl _ w1).drew).trans hW))
  clear hB1 hB2 hap lM hB' hW hsz hl1 hg1 hW1
  go_wp2_with fail
  go_region_law (first
    | (refine step_append_eq rfl _ _ 32 rfl rfl rfl rfl Hap.out ?_))
  all_goals go_wp2_with fail
  all_goals go_end0
  all_goals exact ⟨_, rfl, HB'.out, HW.out⟩
set_option maxHeartbeats 1000000 in
theorem c266 (B M : Nat) (v : Value) (bs : List UInt8) (n : Nat) (w : World) (h : Bu B M v bs w) (hn : n < 18446744073709551616) (hlen : bs.length ≤ 100000000000000) : Calls Tryz.prog 266 #[.pointer (some ⟨M, 0, none⟩), .float .f64 n] w (More B M v bs (Lib.leBytes 8 n) w) := by
  obtain ⟨a, c, rfl⟩ := h.shape
  have hA := h.step (bl_a1 w (.cells #[.int .u8 0, .int .u8 0, .int .u8 0, .int .u8 0, .int .u8 0, .int .u8 0, .int .u8 0, .int .u8 0] 358))
  have H122 := fun w => x122 n w
  have H308 : Hid (Calls Tryz.prog 308 #[.agg #[], .slice (some ⟨w.heap.size, 0, none⟩) 8 8, .int .u64 (n : Int)] ((w.alloc (.cells #[.int .u8 0, .int .u8 0, .int .u8 0, .int .u8 0, .int .u8 0, .int .u8 0, .int .u8 0, .int .u8 0] 358)).drew) fun e w' => e = .returned (.tuple #[]) ∧ Lb w' w.heap.size (bcells (Lib.leBytes 8 n)).toArray 358 ∧ ((w.alloc (.cells #[.int .u8 0, .int .u8 0, .int .u8 0, .int .u8 0, .int .u8 0, .int .u8 0, .int .u8 0, .int .u8 0] 358)).drew).grownBy w' (some w.heap.size)) := Lib.hid (
    (c308 n w.heap.size 0 8 8 #[.int .u8 0, .int .u8 0, .int .u8 0, .int .u8 0, .int .u8 0, .int .u8 0, .int .u8 0, .int .u8 0] 358 ((w.alloc (.cells #[.int .u8 0, .int .u8 0, .int .u8 0, .int .u8 0, .int .u8 0, .int .u8 0, .int .u8 0, .int .u8 0] 358)).drew) hn (Nat.le_refl _) (by simp) (Lb.new w _ 358)).mono fun e w' ⟨he, hl, hg⟩ => ⟨he, by
      have e : setMany #[.int .u8 0, .int .u8 0, .int .u8 0, .int .u8 0, .int .u8 0, .int .u8 0, .int .u8 0, .int .u8 0] 0 (bcells (Lib.leBytes 8 n)) = (bcells (Lib.leBytes 8 n)).toArray := rfl
      rw [e] at hl; exact hl, hg⟩)
  have HA := Lib.hid hA
  have HM := Lib.hid h.lb
  have HF : Hid (some w.heap.size ≠ (Value.slice a bs.length c).ownBlock) := Lib.hid fun e => by have := (h.blk _ e.symm).2; omega
  obtain ⟨k, _, _⟩ := h.lb.use
  clear hA h
  go_enter Tryz.func266, Tryz.ntmps266
  go_wp2_with fail
  go_region_law (first
    | (go_simp; go_at_call 308; refine H308.out.mono ?_; rintro _ w1 ⟨rfl, hl1, hg1⟩))
  all_goals (
    have hM0 : M < w.heap.size := HM.out.use.2.2
    have hW1 : Wr w M (.slice a bs.length c) w1 (.slice a bs.length c) := wr_own (bl_a1 w (.cells #[.int .u8 0, .int .u8 0, .int .u8 0, .int .u8 0, .int .u8 0, .int .u8 0, .int .u8 0, .int .u8 0] 358)).drew hg1
    have hB1 : Bu B M (.slice a bs.length c) bs w1 := HA.out.drew_grown hg1 (by omega) (HF.out)
    have hB2 := hB1.step (Below.refl _ w1).drew
    obtain ⟨v', w', hap, lM, hB', hW, hsz⟩ := hB2.app (Lib.leBytes 8 n) ⟨w.heap.size, 0, none⟩ 8 8 (Lib.leBytes_length 8 n) (fun j hj => lb_bytes hl1 j hj) (by omega)
    obtain ⟨a', n', c', rfl⟩ := hB'.shape'
    obtain ⟨k1, _, _⟩ := hB1.lb.use
    obtain ⟨k2, f2, l2⟩ := lM.use
    have Hap := Lib.hid hap
    have HB' := Lib.hid hB'
    have HW := Lib.hid (hW1.trans ((Wr.of_below M _ (Below.refl _ w1).drew).trans hW))
    clear hB1 hB2 hap lM hB' hW hsz hl1 hg1 hW1
    go_wp2_with fail
    go_region_law (first
      | (refine step_append_eq rfl _ _ 32 rfl rfl rfl rfl Hap.out ?_))
    all_goals go_wp2_with fail
    all_goals go_end0
    all_goals exact ⟨_, rfl, HB'.out, HW.out⟩
  )
end Go.Proofs.YtahnhhkbdgaidaaGreatDoor
namespace Go.Proofs.YtahnhhkbdgaidaaGreatDoor
open Go.RowKit
set_option maxRecDepth 100000
/-- The bytes of numbers, the least byte first. -/
def fby (xs : List Nat) : List UInt8 := xs.flatMap (Lib.leBytes 8)
theorem fby_len (xs : List Nat) : (fby xs).length = 8 * xs.length := by
  unfold fby
  induction xs with
  | nil => rfl
  | cons a r ih => rw [List.flatMap_cons, List.length_append, Lib.leBytes_length, ih, List.length_cons]; omega
theorem fby_take (xs : List Nat) (j : Nat) (h : j < xs.length) : fby (xs.take (j + 1)) = fby (xs.take j) ++ Lib.leBytes 8 xs[j] := by
  unfold fby; rw [List.take_succ_eq_append_getElem h, List.flatMap_append]; simp
theorem setMany_take (vs : List Value) (cs : Array Value) (o : Nat) (h : o + vs.length ≤ cs.size) : (setMany cs o vs).toList.take (o + vs.length) = cs.toList.take o ++ vs := by
  rw [setMany_list _ _ _ h]
  have e : (cs.toList.take o ++ vs).length = o + vs.length := by simp; omega
  rw [← e, List.take_left]
theorem c221 (w : World) : Calls Tryz.prog 221 #[] w fun e w' => e = .returned (.float .f64 9221120237041090561) ∧ w' = w := by
  have hx := fun n w => x123 n w
  go_enter Tryz.func221, Tryz.ntmps221
  go_wp2
  go_ret
  exact ⟨rfl, rfl⟩
set_option maxHeartbeats 4000000 in
theorem c267 (S : Nat → Prop) (xs : List Nat) (a : Option Addr) (c : Nat) (w : World) (hx : ∀ x ∈ xs, x < 18446744073709551616) (hl : xs.length ≤ 100000000) (h : Rd S w (fl xs) (.slice a xs.length c)) :
    Calls Tryz.prog 267 #[.slice a xs.length c] w fun e w' => Below w.heap.size w w' ∧ ((xs = [] ∧ e = .returned (.slice none 0 0)) ∨ ∃ cs, e = .returned (.slice (some ⟨w.heap.size, 0, none⟩) (8 * xs.length) (8 * xs.length)) ∧ Lb w' w.heap.size cs 5 ∧ cs.toList = bcells (fby xs)) := by
  rcases Nat.eq_zero_or_pos xs.length with h0 | h0
  · obtain rfl : xs = [] := List.eq_nil_of_length_eq_zero h0
    simp only [List.length_nil]
    clear h
    go_enter Tryz.func267, Tryz.ntmps267
    go_wp2
    go_ret
    exact ⟨Below.refl _ _, .inl ⟨by trivial, rfl⟩⟩
  · have hmk : ∀ w, (Instr.makeSlice 32 (.int .i64 (8 * (xs.length : Int))) (.int .i64 (8 * (xs.length : Int)))).run Tryz.prog w = .ok (.slice (some ⟨w.heap.size, 0, none⟩) (8 * xs.length) (8 * xs.length)) (w.alloc (.cells (madeCells #[.int .u8 0] (8 * xs.length * 1)) 5)) := fun w => by
      have := mk_any (P := Tryz.prog) 32 5 (.int .u8 0) 1 1 Tryz.underlying32 info5 (8 * xs.length) (by omega) (by omega) w
      rw [show ((8 * xs.length : Nat) : Int) = 8 * (xs.length : Int) by omega] at this
      exact this
    have hne : ((xs.length : Int) == 0) = false := beq_false_of_ne (by omega)
    have hms : (madeCells #[.int .u8 0] (8 * xs.length * 1)).size = 8 * xs.length := by rw [size_madeCells]; omega
    generalize madeCells #[.int .u8 0] (8 * xs.length * 1) = mc at *
    have HR := Lib.hid (h.old)
    have H122 := fun x w => x122 x w
    have Hx := Lib.hid hx
    clear h hx
    go_enter Tryz.func267, Tryz.ntmps267
    go_wp2_with fail
    go_loopw [15] (fun i wr => ∃ j : Nat, ∃ cs, j ≤ xs.length ∧ i = .int .i64 j ∧ Lb wr w.heap.size cs 5 ∧ cs.size = 8 * xs.length ∧ cs.toList.take (8 * j) = bcells (fby (xs.take j)) ∧ Below w.heap.size w wr) (fun i _ => xs.length - (intOf i).toNat)
    case atStart => exact ⟨0, mc, Nat.zero_le _, rfl, Lb.new w mc 5, hms, by simp [fby, bcells], bl_a1 w _⟩
    case round =>
      obtain ⟨j, cs, hj, rfl, hL, hcs, htk, hB⟩ := hrel
      by_cases hlt : j < xs.length
      · obtain ⟨a0, c0, e0, hmx, hat⟩ := fl_inv (HR.out.blw hB)
        obtain ⟨rfl, _, rfl⟩ := Value.slice.inj e0
        obtain ⟨b, off, rfl, hSb, hbl, q0⟩ := hat j hlt
        have hxj := Hx.out _ (List.getElem_mem hlt)
        have hft := fby_take xs j hlt
        generalize xs[j] = x at *
        have H308 := Lib.hid (c308 x w.heap.size (8 * j) (8 * xs.length - 8 * j) (8 * xs.length - 8 * j) cs 5 wr.drew hxj (by omega) (by omega) hL)
        have HL := Lib.hid hL; have HB := Lib.hid hB
        clear hL hB hat e0
        have hb0 : (0 : Int) ≤ 8 * (j : Int) := by omega
        have hb1 : 8 * (j : Int) ≤ 8 * (xs.length : Int) := by omega
        have hb2 : (8 * (j : Int)).toNat = 8 * j := by omega
        have hb3 : ¬ 8 * xs.length = 8 * j := by omega
        have hb4 : IntKind.i64.wrap (8 * (j : Int)) = 8 * (j : Int) := IntWalk.i64_in _ (by omega)
        go_wp2_with fail
        go_region_law (first
          | (go_simp; go_at_call 308; refine H308.out.mono ?_; rintro _ w1 ⟨rfl, hl1, hg1⟩))
        all_goals (
          clear hb0 hb1 hb2 hb3 hb4
          have hB1 : Below w.heap.size w w1 := ⟨hg1.os.trans HB.out.os, hg1.tape.trans HB.out.tape, hg1.output.trans HB.out.output, Nat.le_trans HB.out.size hg1.size, fun b hb => (hg1.block b (Nat.lt_of_lt_of_le hb HB.out.size) (fun e => by have := Option.some.inj e; omega)).trans (HB.out.block b hb)⟩
          have HL1 := Lib.hid hl1; have HB1 := Lib.hid hB1
          clear hl1 hg1 hB1)
        all_goals go_wp2_with fail
        all_goals go_roundw
        all_goals first
          | (simp [intOf]; omega; done)
          | (refine ⟨j + 1, _, by omega, by go_num, HL1.out, by rw [setMany_size]; exact hcs, ?_, HB1.out⟩
             have hlb : (bcells (Lib.leBytes 8 x)).length = 8 := by rw [bcells_len, Lib.leBytes_length]
             have hst := setMany_take (bcells (Lib.leBytes 8 x)) cs (8 * j) (by rw [hlb]; omega)
             rw [hlb] at hst
             rw [show 8 * (j + 1) = 8 * j + 8 by omega, hst, htk, hft]
             simp [bcells])
      · obtain rfl : j = xs.length := by omega
        have hdl : decide (((xs.length : Nat) : Int) < xs.length) = false := by simp
        have HL := Lib.hid hL; have HB := Lib.hid hB
        clear hL hB
        go_wp2_with fail
        go_ret
        refine ⟨HB.out, .inr ⟨cs, rfl, HL.out, ?_⟩⟩
        rw [List.take_length, List.take_of_length_le (by simp; omega)] at htk
        exact htk
end Go.Proofs.YtahnhhkbdgaidaaGreatDoor
namespace Go.Proofs.YtahnhhkbdgaidaaGreatDoor
open Go.RowKit
set_option maxRecDepth 100000
theorem app_none (w : World) (base : Option Addr) (n c : Nat) (hle : n ≤ c) : (Builtin.append_ #[32, 32] 32 #[.slice base n c, .slice none 0 0]).run Tryz.prog w = .ok (.slice base n c) w := by
  obtain ⟨i0, hi0, hz0, hz1, hz2⟩ := info_parts info5
  cases base <;> simp [Builtin.append_, run_underlying Tryz.underlying32, sizeOf, typeInfo, hi0, Builtin.lenOf, Builtin.firstCells, hle, storeCells, loadCells]
theorem Bu.cap {B M : Nat} {v : Value} {bs : List UInt8} {w : World} (h : Bu B M v bs w) : ∃ a c, v = .slice a bs.length c ∧ bs.length ≤ c := by
  rcases h.own.2 with ⟨rfl, h0⟩ | ⟨g, cap, cur, rfl, _, _, hn, _⟩
  · exact ⟨none, 0, by rw [h0], by omega⟩
  · exact ⟨_, _, rfl, hn⟩
/-- Nothing appended. -/
theorem Bu.app0 {B M : Nat} {v : Value} {bs : List UInt8} {w : World} (h : Bu B M v bs w) : (Builtin.append_ #[32, 32] 32 #[v, .slice none 0 0]).run Tryz.prog w = .ok v w ∧ Bu B M v bs (w.setCell ⟨M, 0, none⟩ v) ∧ Wr w M v (w.setCell ⟨M, 0, none⟩ v) v := by
  obtain ⟨a, c, e, hc⟩ := h.cap
  have hgs : w.grownBy (w.setCell ⟨M, 0, none⟩ v) (some M) := ⟨rfl, rfl, rfl, by simp [World.setCell], fun k _ hk => Below.heap_setCell w _ _ k (fun e => hk (by rw [e]))⟩
  refine ⟨by rw [e]; exact app_none w a _ c hc, ⟨?_, by simpa using h.lb.set 0 v, h.ne, Nat.le_trans h.hB hgs.size⟩, ⟨rfl, rfl, rfl, hgs.size, fun b hb h1 h2 => Below.heap_setCell w _ _ b (by simpa using h1), fun _ hj => .inr hj⟩⟩
  refine h.own.kept hgs ?_
  cases hv : v.ownBlock with
  | none => exact .inl rfl
  | some k => exact .inr (fun e => h.ne (by rw [hv]; exact e.symm))
set_option maxHeartbeats 2000000 in
theorem c223 (S : Nat → Prop) (B M : Nat) (v : Value) (bs : List UInt8) (t : Int) (xs : List Nat) (a : Option Addr) (c : Nat) (w : World) (h : Bu B M v bs w) (hlen : bs.length ≤ 10000000000000) (h0 : 0 ≤ t) (h1 : t ≤ 3) (hx : ∀ x ∈ xs, x < 18446744073709551616) (hl : xs.length ≤ 100000000)
    (hS : ∀ b, S b → b ≠ M ∧ some b ≠ v.ownBlock) (hr : Rd S w (fl xs) (.slice a xs.length c)) :
    Calls Tryz.prog 223 #[.pointer (some ⟨M, 0, none⟩), .agg #[.int .u8 t, .slice a xs.length c]] w (More B M v bs (Lib.leBytes 4 (xs.length / dN t) ++ fby xs) w) := by
  have hq : xs.length / dN t < 4294967296 := by have := Nat.div_le_self xs.length (dN t); omega
  have hW0 := Wr.of_below M v (bl_a1 w (.cells #[.int .u8 t, .slice a xs.length c] 67))
  have hA := h.step (bl_a1 w (.cells #[.int .u8 t, .slice a xs.length c] 67))
  have l0 := Lib.hid (Lb.new w #[.int .u8 t, .slice a xs.length c] 67)
  have hr1 := Lib.hid (hr.alloc (.cells #[.int .u8 t, .slice a xs.length c] 67))
  have hne : some w.heap.size ≠ v.ownBlock := fun e => by have := (h.blk _ e.symm).2; omega
  have hM : M < w.heap.size := h.lb.use.2.2
  have HW0 := Lib.hid hW0; have HA := Lib.hid hA; have Hne := Lib.hid hne; have HS := Lib.hid hS; have Hx := Lib.hid hx
  have H84 := Lib.hid (fun w => c84 t a xs.length c w h0 h1 (by omega))
  clear hW0 hA hne hS hx h hr
  go_enter Tryz.func223, Tryz.ntmps223
  go_wp2_with fail
  refine (H84.out _).mono ?_
  rintro _ w1 ⟨rfl, hb1⟩
  have hsz1 : w.heap.size + 1 ≤ w1.heap.size := by have := hb1.size; simpa using this
  have hA1 := HA.out.step hb1
  have HC := Lib.hid (c220 B M v bs (xs.length / dN t) w1 hA1 hq (by omega))
  replace HW0 := Lib.hid (HW0.out.trans (Wr.of_below M v hb1))
  replace l0 := Lib.hid (l0.out.blw hb1)
  replace hr1 := Lib.hid (hr1.out.blw hb1)
  clear hb1 hA1 HA H84
  go_wp2_with fail
  refine HC.out.mono ?_
  rintro _ w2 ⟨v2, rfl, hB2, hW2⟩
  have hM1 : M < w1.heap.size := by omega
  have l2 := hW2.lb l0.out (by omega) Hne.out
  have hr2 := hW2.rd hr1.out HS.out
  have hW := HW0.out.trans hW2
  have hD := (Below.refl w2.heap.size w2).drew
  have H267 := Lib.hid (c267 S xs a c w2.drew Hx.out hl (hr2.blw hD))
  have HB2 := Lib.hid (hB2.step hD)
  have HW := Lib.hid (hW.trans (Wr.of_below M v2 hD))
  obtain ⟨kM, _, _⟩ := hB2.lb.use
  obtain ⟨ke, _, _⟩ := l2.use
  obtain ⟨a2, n2, c2, rfl⟩ := hB2.shape'
  have hlb2 : (bs ++ Lib.leBytes 4 (xs.length / dN t)).length ≤ 10000000000100 := by rw [List.length_append, Lib.leBytes_length]; omega
  clear hr2 hW hD hB2 hW2 l2 HC HW0 l0 hr1
  go_wp2_with fail
  go_region_law (first
    | (refine step_append_eq rfl _ _ 32 rfl rfl rfl rfl Hap.out ?_)
    | (go_simp; go_at_call 267; refine H267.out.mono ?_; rintro e3 w3 ⟨hb3, hcase⟩
       have hB3 := HB2.out.step hb3
       have hW3 := HW.out.trans (Wr.of_below M _ hb3)
       have hex : ∃ r v4 w4, e3 = .returned r ∧ (∃ ra rn rc, r = .slice ra rn rc) ∧ (∃ va vn vc, v4 = .slice va vn vc) ∧ (Builtin.append_ #[32, 32] 32 #[.slice a2 n2 c2, r]).run Tryz.prog w3 = .ok v4 w4 ∧ Lb w4 M #[.slice a2 n2 c2] 261 ∧ Bu B M v4 (bs ++ (Lib.leBytes 4 (xs.length / dN t) ++ fby xs)) (w4.setCell ⟨M, 0, none⟩ v4) ∧ Wr w M v (w4.setCell ⟨M, 0, none⟩ v4) v4 := by
         rcases hcase with ⟨rfl, rfl⟩ | ⟨cs, rfl, hl3, hcs⟩
         · obtain ⟨r1, r2, r3⟩ := hB3.app0
           exact ⟨_, _, _, rfl, ⟨_, _, _, rfl⟩, ⟨_, _, _, rfl⟩, r1, hB3.lb, by simpa [fby] using r2, hW3.trans r3⟩
         · obtain ⟨v4, w4, r1, r2, r3, r4, r5⟩ := hB3.app (fby xs) ⟨w2.heap.size, 0, none⟩ (8 * xs.length) (8 * xs.length) (fby_len xs) (fun j hj => by
             rw [Addr.add_lit]
             have e := hl3.use.1 j
             have e2 : cs[j]? = (bcells (fby xs))[j]? := by rw [← hcs]; simp
             rw [e2] at e
             simpa [bcells, hj] using e) (by omega)
           obtain ⟨va, vn, vc, rfl⟩ := r3.shape'
           exact ⟨_, _, _, rfl, ⟨_, _, _, rfl⟩, ⟨_, _, _, rfl⟩, r1, r2, by rw [← List.append_assoc]; exact r3, hW3.trans r4⟩
       obtain ⟨r, v4, w4, rfl, ⟨ra, rn, rc, rfl⟩, ⟨va, vn, vc, rfl⟩, hap, lM, hB4, hW4⟩ := hex
       have hl3' := Lib.hid hB3.lb
       obtain ⟨k3, _, _⟩ := hB3.lb.use
       obtain ⟨k4, f4, l4⟩ := lM.use
       have Hap := Lib.hid hap; have HB4 := Lib.hid hB4; have HW4 := Lib.hid hW4
       clear hb3 hcase hB3 hW3 hap lM hB4 hW4))
  all_goals go_wp2_with fail
  all_goals go_end0
  all_goals exact ⟨_, rfl, HB4.out, HW4.out⟩
end Go.Proofs.YtahnhhkbdgaidaaGreatDoor
