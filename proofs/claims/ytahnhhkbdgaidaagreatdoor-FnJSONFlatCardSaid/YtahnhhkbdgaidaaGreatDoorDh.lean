/-
  GeoJSON: rows of sequences.
-/
import Derived.Test.YtahnhhkbdgaidaaGreatDoorDg
namespace Go.Proofs.YtahnhhkbdgaidaaGreatDoor
open Go.RowKit
set_option maxRecDepth 100000
theorem c140 (t : Int) (a : Option Addr) (n c : Nat) (w : World) : Calls Tryz.prog 140 #[.agg #[.int .u8 t, .slice a n c]] w fun e w' => e = .returned (.agg #[.int .u8 t, .slice a n c]) ∧ Below w.heap.size w w' := by
  go_enter Tryz.func140, Tryz.ntmps140
  go_wp2
  refine bodyPost_ret (v := .agg #[.int .u8 t, .slice a n c]) (by simp [results, Tryz.results140, go_sem]) rfl ⟨rfl, ?_⟩
  repeat (with_reducible first | refine Below.setCell ?_ (by simp) _ | exact ((Below.refl _ _).alloc (Nat.le_refl _) _).alloc (by simp) _)
theorem c97 (x y z m : Nat) (t : Int) (f : Bool) (w : World) : Calls Tryz.prog 97 #[.agg #[.float .f64 x, .float .f64 y, .float .f64 z, .float .f64 m, .int .u8 t, .bool f]] w fun e w' => e = .returned (.tuple #[.agg #[.float .f64 x, .float .f64 y, .float .f64 z, .float .f64 m, .int .u8 t], .bool f]) ∧ Below w.heap.size w w' := by
  have hsf := st_float
  go_enter Tryz.func97, Tryz.ntmps97
  go_wp2_with fail
  have f0 := Lb.new' w #[.float .f64 x, .float .f64 y, .float .f64 z, .float .f64 m, .int .u8 t, .bool f] 63 (.cells #[.float .f64 0, .float .f64 0, .float .f64 0, .float .f64 0, .int .u8 0] 61)
  have f1 := Lb.new2 w (.cells #[.float .f64 x, .float .f64 y, .float .f64 z, .float .f64 m, .int .u8 t, .bool f] 63) #[.float .f64 0, .float .f64 0, .float .f64 0, .float .f64 0, .int .u8 0] 61
  have fB := bl_a2 w (.cells #[.float .f64 x, .float .f64 y, .float .f64 z, .float .f64 m, .int .u8 t, .bool f] 63) (.cells #[.float .f64 0, .float .f64 0, .float .f64 0, .float .f64 0, .int .u8 0] 61)
  generalize ((w.alloc (.cells #[.float .f64 x, .float .f64 y, .float .f64 z, .float .f64 m, .int .u8 t, .bool f] 63)).alloc (.cells #[.float .f64 0, .float .f64 0, .float .f64 0, .float .f64 0, .int .u8 0] 61)) = w1 at *
  obtain ⟨q, _, l0⟩ := f0.use
  have g0 : w1.cell? ⟨w.heap.size, 0, none⟩ = some (.float .f64 x) := q 0
  have g1 : w1.cell? ⟨w.heap.size, 1, none⟩ = some (.float .f64 y) := q 1
  have g2 : w1.cell? ⟨w.heap.size, 2, none⟩ = some (.float .f64 z) := q 2
  have g3 : w1.cell? ⟨w.heap.size, 3, none⟩ = some (.float .f64 m) := q 3
  have g4 : w1.cell? ⟨w.heap.size, 4, none⟩ = some (.int .u8 t) := q 4
  have g5 : w1.cell? ⟨w.heap.size, 5, none⟩ = some (.bool f) := q 5
  obtain ⟨_, _, l2⟩ := f1.use
  have F1 := Lib.hid f1
  have FB := Lib.hid fB
  clear f0 f1 fB q
  go_region_held3 (fun w' => w'.cell? ⟨w.heap.size, 0, none⟩ = some (.float .f64 x) ∧ w'.cell? ⟨w.heap.size, 1, none⟩ = some (.float .f64 y) ∧ w'.cell? ⟨w.heap.size, 2, none⟩ = some (.float .f64 z) ∧ w'.cell? ⟨w.heap.size, 3, none⟩ = some (.float .f64 m) ∧ w'.cell? ⟨w.heap.size, 4, none⟩ = some (.int .u8 t) ∧ w'.cell? ⟨w.heap.size, 5, none⟩ = some (.bool f)) (first | (go_keep; done) | (go_simp; done)) (first | fail)
  obtain ⟨kc, kf, _⟩ := F1.out.use
  go_wp2_with fail
  refine bodyPost_ret (v := .tuple #[.agg #[.float .f64 x, .float .f64 y, .float .f64 z, .float .f64 m, .int .u8 t], .bool f]) ?_ rfl ⟨rfl, ?_⟩
  · simp [results, Tryz.results97, go_sem, *]
  · repeat (with_reducible first | refine Below.setCell ?_ (by simp) _ | refine Below.drew ?_ | refine Below.alloc ?_ (by simp; omega) _ | exact FB.out)
theorem c34 (v : Value) (w : World) : Calls Tryz.prog 34 #[v, .nilIface] w fun e w' => e = .returned (.tuple #[v, .bool true]) ∧ Below w.heap.size w w' := by
  go_enter Tryz.func34, Tryz.ntmps34
  go_wp2
  exact bodyPost_ret (v := .tuple #[v, .bool true]) (by simp [results, Tryz.results34, go_sem]) rfl ⟨rfl, Below.refl _ _⟩
theorem c143 (t : Int) (a : Option Addr) (n c : Nat) (w : World) : Calls Tryz.prog 143 #[.agg #[.slice a n c, .int .u8 t]] w fun e w' => e = .returned (.int .i64 (n : Int)) ∧ Below w.heap.size w w' := by
  go_enter Tryz.func143, Tryz.ntmps143
  go_wp2
  go_ret
  exact ⟨rfl, by repeat (with_reducible first | exact Below.refl _ _ | refine Below.alloc ?_ (by simp) _)⟩
theorem c146 (t : Int) (a : Option Addr) (n c : Nat) (w : World) : Calls Tryz.prog 146 #[.agg #[.slice a n c, .int .u8 t]] w fun e w' => e = .returned (.int .i64 (n : Int)) ∧ Below w.heap.size w w' := by
  go_enter Tryz.func146, Tryz.ntmps146
  go_wp2
  go_ret
  exact ⟨rfl, by repeat (with_reducible first | exact Below.refl _ _ | refine Below.alloc ?_ (by simp) _)⟩
set_option maxHeartbeats 1000000 in
theorem c144 (S : Nat → Prop) (ls : List Ln) (j : Nat) (hj : j < ls.length) (t : Int) (a : Option Addr) (c : Nat) (w : World) (h : Rd S w (.list (ls.map Ln.fs)) (.slice a ls.length c)) :
    Calls Tryz.prog 144 #[.agg #[.slice a ls.length c, .int .u8 t], .int .i64 j] w fun e w' => ∃ a' c', e = .returned (.agg #[.int .u8 (ls[j]).t, .slice a' (ls[j]).xs.length c']) ∧ Rd S w' (fl (ls[j]).xs) (.slice a' (ls[j]).xs.length c') ∧ Below w.heap.size w w' := by
  obtain ⟨a0, c0, e0, hm, hat⟩ := lines_at h
  obtain ⟨rfl, _, rfl⟩ := Value.slice.inj e0
  obtain ⟨b, off, a', c', rfl, hSb, hb, q0, q1, hr⟩ := hat j hj
  have Hr := Lib.hid (hr.ex (L := w.heap.size + 1) (by omega))
  clear hr hat e0 h
  go_enter Tryz.func144, Tryz.ntmps144
  go_wp2
  refine bodyPost_ret (v := .agg #[.int .u8 (ls[j]).t, .slice a' (ls[j]).xs.length c']) (by simp [results, Tryz.results144, go_sem]) rfl ⟨a', c', rfl, ?_, ?_⟩
  · refine Rd.unex (L := w.heap.size + 1) ?_
    repeat (with_reducible first | refine Rd.set ?_ _ _ | exact (Hr.out.alloc _).alloc _)
  · repeat (with_reducible first | refine Below.setCell ?_ (by simp) _ | exact ((Below.refl _ _).alloc (Nat.le_refl _) _).alloc (by simp) _)
set_option maxHeartbeats 1000000 in
theorem c147 (S : Nat → Prop) (ls : List Pg) (j : Nat) (hj : j < ls.length) (t : Int) (a : Option Addr) (c : Nat) (w : World) (h : Rd S w (.list (ls.map Pg.fs)) (.slice a ls.length c)) :
    Calls Tryz.prog 147 #[.agg #[.slice a ls.length c, .int .u8 t], .int .i64 j] w fun e w' => ∃ a' c', e = .returned (.agg #[.slice a' (ls[j]).rings.length c', .int .u8 (ls[j]).t]) ∧ Rd S w' (.list ((ls[j]).rings.map Ln.fs)) (.slice a' (ls[j]).rings.length c') ∧ Below w.heap.size w w' := by
  obtain ⟨a0, c0, e0, hm, hat⟩ := pgs_at h
  obtain ⟨rfl, _, rfl⟩ := Value.slice.inj e0
  obtain ⟨b, off, a', c', rfl, hSb, hb, q0, q1, hr⟩ := hat j hj
  have Hr := Lib.hid (hr.ex (L := w.heap.size + 1) (by omega))
  clear hr hat e0 h
  go_enter Tryz.func147, Tryz.ntmps147
  go_wp2
  refine bodyPost_ret (v := .agg #[.slice a' (ls[j]).rings.length c', .int .u8 (ls[j]).t]) (by simp [results, Tryz.results147, go_sem]) rfl ⟨a', c', rfl, ?_, ?_⟩
  · refine Rd.unex (L := w.heap.size + 1) ?_
    repeat (with_reducible first | refine Rd.set ?_ _ _ | exact (Hr.out.alloc _).alloc _)
  · repeat (with_reducible first | refine Below.setCell ?_ (by simp) _ | exact ((Below.refl _ _).alloc (Nat.le_refl _) _).alloc (by simp) _)
theorem info67 : (Tryz.prog.info? 67).map (fun i => (i.zero, i.size, i.bytes)) = some (some (.agg #[.int .u8 0, .slice none 0 0]), 2, 32) := by kernel_rfl
theorem info132 : (Tryz.prog.info? 132).map (fun i => (i.zero, i.size, i.bytes)) = some (some (.slice none 0 0), 1, 24) := by kernel_rfl
set_option maxHeartbeats 1000000 in
theorem c94 (S : Nat → Prop) (ls : List Ln) (t : Int) (a : Option Addr) (c : Nat) (w : World) (hlen : ls.length ≤ 1000000) (hS : ∀ b, w.heap.size ≤ b → S b)
    (h : Rd S w (.list (ls.map Ln.fs)) (.slice a ls.length c)) :
    Calls Tryz.prog 94 #[.agg #[.slice a ls.length c, .int .u8 t]] w fun e w' => ∃ a' c', e = .returned (.slice a' ls.length c') ∧ Rd S w' (.list (ls.map Ln.fs)) (.slice a' ls.length c') ∧ Below w.heap.size w w' := by
  have hmk : ∀ w, (Instr.makeSlice 132 (.int .i64 (ls.length : Int)) (.int .i64 (ls.length : Int))).run Tryz.prog w = .ok (.slice (some ⟨w.heap.size, 0, none⟩) ls.length ls.length) (w.alloc (.cells (madeCells #[.int .u8 0, .slice none 0 0] (ls.length * 2)) 67)) :=
    mk_any (P := Tryz.prog) 132 67 _ 2 32 Tryz.underlying132 info67 ls.length (by omega) (by omega)
  go_enter Tryz.func94, Tryz.ntmps94
  go_wp2_with fail
  go_loopw [13] (fun i wr => ∃ j : Nat, ∃ cs : Array Value, j ≤ ls.length ∧ i = .int .i64 j ∧ Fill S wr (w.heap.size + 1) 67 2 ls.length ((ls.take j).map Ln.fs) cs ∧
      Rd (Ex S (w.heap.size + 1)) wr (.list (ls.map Ln.fs)) (.slice a ls.length c) ∧ Below w.heap.size w wr ∧ w.heap.size + 2 ≤ wr.heap.size) (fun i _ => ls.length - (intOf i).toNat)
  case atStart =>
    refine ⟨0, madeCells #[.int .u8 0, .slice none 0 0] (ls.length * 2), Nat.zero_le _, rfl, Fill.start (size_madeCells _ _) (Lb.new2 w _ _ _), ?_, bl_a2 w _ _, by simp⟩
    exact ((h.ex (L := w.heap.size + 1) (by omega)).alloc _).alloc _
  case round =>
    obtain ⟨j, cs, hj, rfl, hF, hr, hB, hsz⟩ := hrel
    by_cases hlt : j < ls.length
    · obtain ⟨a0, c0, e0, hm, hat⟩ := lines_at hr
      obtain ⟨rfl, _, rfl⟩ := Value.slice.inj e0
      obtain ⟨b, off, a', c', rfl, hSb, hb, k0, k1, hrj⟩ := hat j hlt
      have HF := Lib.hid (hF.blw (bl_a1 wr (.cells #[.int .u8 (ls[j]).t, .slice a' (ls[j]).xs.length c'] 69))); clear hF
      have HB := Lib.hid (hB.alloc (by omega) (.cells #[.int .u8 (ls[j]).t, .slice a' (ls[j]).xs.length c'] 69))
      have H140 := Lib.hid (c140 (ls[j]).t a' (ls[j]).xs.length c' (wr.alloc (.cells #[.int .u8 (ls[j]).t, .slice a' (ls[j]).xs.length c'] 69)))
      have hsz1 : Hid (w.heap.size + 2 ≤ (wr.alloc (.cells #[.int .u8 (ls[j]).t, .slice a' (ls[j]).xs.length c'] 69)).heap.size) := Lib.hid (by simp <;> omega)
      have hr3 := Lib.hid (hr.alloc (.cells #[.int .u8 (ls[j]).t, .slice a' (ls[j]).xs.length c'] 69)); have hr4 := Lib.hid (hrj.alloc (.cells #[.int .u8 (ls[j]).t, .slice a' (ls[j]).xs.length c'] 69))
      clear hB hat e0 hmk hr hrj
      go_wp2_with fail
      refine H140.out.mono ?_
      rintro e w1 ⟨rfl, hb2⟩
      have hF2 := HF.out.blw hb2
      have hcs := hF2.size
      obtain ⟨kR, fR, ltR⟩ := hF2.blk.use
      obtain ⟨u0, hu0⟩ : ∃ u, cs[j * 2]? = some u := ⟨_, Array.getElem?_eq_getElem (by rw [hcs]; omega)⟩
      obtain ⟨u1, hu1⟩ : ∃ u, cs[j * 2 + 1]? = some u := ⟨_, Array.getElem?_eq_getElem (by rw [hcs]; omega)⟩
      have HF2 := Lib.hid hF2; clear hF2
      have HB' := Lib.hid (HB.out.trans (hb2.mono (by have := hsz1.out; omega)))
      have hr5 := Lib.hid (hr3.out.blw hb2); have hr6 := Lib.hid (hr4.out.blw hb2)
      have hsz2 : w.heap.size + 2 ≤ w1.heap.size := Nat.le_trans hsz1.out hb2.size
      clear hb2 k0 k1 hr3 hr4 HF HB H140 hsz1
      go_wp2_with fail
      go_roundw
      case rel =>
        refine ⟨j + 1, (cs.setIfInBounds (j * 2) (.int .u8 (ls[j]).t)).setIfInBounds (j * 2 + 1) (.slice a' (ls[j]).xs.length c'), by omega, by go_num, ?_, ?_, ?_, by simp [World.setCell]; omega⟩
        · have el : ((ls.take j).map Ln.fs).length = j := by simp; omega
          rw [take_map_succ _ _ _ hlt]
          refine HF2.out.next _ rfl (by simp [hcs]) (((HF2.out.blk).set _ _).set _ _) keep_two (by simp [World.setCell]) (fun p hp => two_old (by rw [el] at hp; exact hp)) (fun jj hjj => ?_)
          rw [el]
          have hjc : jj = 0 ∨ jj = 1 := by have : ((ls[j]).fs).length = 2 := rfl; omega
          rcases hjc with rfl | rfl
          · exact ⟨_, two_new0 (by rw [hcs]; omega), .atom _⟩
          · exact ⟨_, two_new1 (by rw [hcs]; omega), (hr6.out.set _ _).set _ _⟩
        · exact (hr5.out.set _ _).set _ _
        · exact (HB'.out.setCell (by simp <;> omega) _).setCell (by simp <;> omega) _
      case measure => simp [intOf]; omega
    · obtain rfl : j = ls.length := by omega
      have hdl : decide (((ls.length : Nat) : Int) < ls.length) = false := by simp
      have HF := Lib.hid hF; have HB := Lib.hid hB
      clear hF hB hmk hr
      go_wp2_with fail
      go_ret
      have hd := HF.out.done ls.length (by omega) (by simp) (hS _ (by omega)) (by omega)
      rw [List.take_length] at hd
      exact ⟨_, _, rfl, hd, HB.out⟩
set_option maxHeartbeats 1000000 in
theorem c100 (S : Nat → Prop) (ls : List Ln) (t : Int) (a : Option Addr) (c : Nat) (w : World) (hlen : ls.length ≤ 1000000) (hS : ∀ b, w.heap.size ≤ b → S b)
    (h : Rd S w (.list (ls.map Ln.fs)) (.slice a ls.length c)) :
    Calls Tryz.prog 100 #[.agg #[.slice a ls.length c, .int .u8 t]] w fun e w' => ∃ a' c', e = .returned (.slice a' ls.length c') ∧ Rd S w' (.list (ls.map Ln.fs)) (.slice a' ls.length c') ∧ Below w.heap.size w w' := by
  have hmk : ∀ w, (Instr.makeSlice 132 (.int .i64 (ls.length : Int)) (.int .i64 (ls.length : Int))).run Tryz.prog w = .ok (.slice (some ⟨w.heap.size, 0, none⟩) ls.length ls.length) (w.alloc (.cells (madeCells #[.int .u8 0, .slice none 0 0] (ls.length * 2)) 67)) :=
    mk_any (P := Tryz.prog) 132 67 _ 2 32 Tryz.underlying132 info67 ls.length (by omega) (by omega)
  have HL := Lib.hid (Lb.new w #[.slice a ls.length c, .int .u8 t] 80)
  have HH := Lib.hid (h.alloc (.cells #[.slice a ls.length c, .int .u8 t] 80))
  have HBw := Lib.hid (bl_a1 w (.cells #[.slice a ls.length c, .int .u8 t] 80))
  have H143 := Lib.hid (c143 t a ls.length c (w.alloc (.cells #[.slice a ls.length c, .int .u8 t] 80)))
  clear h
  go_enter Tryz.func100, Tryz.ntmps100
  go_wp2_with fail
  refine H143.out.mono ?_
  rintro _ w0 ⟨rfl, hb0⟩
  replace HL := Lib.hid (HL.out.blw hb0)
  replace HH := Lib.hid (HH.out.blw hb0)
  replace HBw := Lib.hid (HBw.out.trans (hb0.mono (by simp)))
  have hge : w.heap.size + 1 ≤ w0.heap.size := by have := hb0.size; simpa using this
  clear hb0 H143
  go_wp2_with fail
  go_loopw [5] (fun i wr => ∃ j : Nat, ∃ cs : Array Value, j ≤ ls.length ∧ i = .int .i64 j ∧ Fill S wr w0.heap.size 67 2 ls.length ((ls.take j).map Ln.fs) cs ∧ Lb wr w.heap.size #[.slice a ls.length c, .int .u8 t] 80 ∧
      Rd (Ex S w0.heap.size) wr (.list (ls.map Ln.fs)) (.slice a ls.length c) ∧ Below w.heap.size w wr ∧ w0.heap.size + 1 ≤ wr.heap.size) (fun i _ => ls.length - (intOf i).toNat)
  case atStart =>
    refine ⟨0, madeCells #[.int .u8 0, .slice none 0 0] (ls.length * 2), Nat.zero_le _, rfl, Fill.start (size_madeCells _ _) (Lb.new w0 _ _), HL.out.alloc _, ?_, HBw.out.alloc (by omega) _, by simp⟩
    exact (HH.out.ex (Nat.le_refl _)).alloc _
  case round =>
    clear HL HH HBw
    obtain ⟨j, cs, hj, rfl, hF, L0, hr, hB, hsz⟩ := hrel
    by_cases hlt : j < ls.length
    · obtain ⟨kb, _, _⟩ := L0.use
      have HF := Lib.hid hF; have HB := Lib.hid hB; have HR := Lib.hid hr; have HL0 := Lib.hid L0
      have H144 := Lib.hid (c144 (Ex S w0.heap.size) ls j hlt t a c wr hr)
      clear hF hB hmk hr L0
      go_wp2_with fail
      refine H144.out.mono ?_
      rintro _ w1 ⟨a', c', rfl, hr1, hb1⟩
      have H140 := Lib.hid (c140 (ls[j]).t a' (ls[j]).xs.length c' w1)
      replace HF := Lib.hid (HF.out.blw hb1); replace HR := Lib.hid (HR.out.blw hb1); replace HL0 := Lib.hid (HL0.out.blw hb1)
      replace HB := Lib.hid (HB.out.trans (hb1.mono (by omega)))
      have hsz1 : w0.heap.size + 1 ≤ w1.heap.size := Nat.le_trans hsz hb1.size
      have Hr1 := Lib.hid hr1
      clear H144 hr1 hb1 kb
      go_wp2_with fail
      refine H140.out.mono ?_
      rintro _ w2 ⟨rfl, hb2⟩
      have hF2 := HF.out.blw hb2
      have hcs := hF2.size
      obtain ⟨kR, fR, ltR⟩ := hF2.blk.use
      obtain ⟨u0, hu0⟩ : ∃ u, cs[j * 2]? = some u := ⟨_, Array.getElem?_eq_getElem (by rw [hcs]; omega)⟩
      obtain ⟨u1, hu1⟩ : ∃ u, cs[j * 2 + 1]? = some u := ⟨_, Array.getElem?_eq_getElem (by rw [hcs]; omega)⟩
      have HF2 := Lib.hid hF2; clear hF2
      replace HR := Lib.hid (HR.out.blw hb2); replace HL0 := Lib.hid (HL0.out.blw hb2); replace Hr1 := Lib.hid (Hr1.out.blw hb2)
      replace HB := Lib.hid (HB.out.trans (hb2.mono (by omega)))
      have hsz2 : w0.heap.size + 1 ≤ w2.heap.size := Nat.le_trans hsz1 hb2.size
      clear hb2 HF H140
      go_wp2_with fail
      go_roundw
      case rel =>
        refine ⟨j + 1, (cs.setIfInBounds (j * 2) (.int .u8 (ls[j]).t)).setIfInBounds (j * 2 + 1) (.slice a' (ls[j]).xs.length c'), by omega, by go_num, ?_, ?_, ?_, ?_, by simp [World.setCell]; omega⟩
        · have el : ((ls.take j).map Ln.fs).length = j := by simp; omega
          rw [take_map_succ _ _ _ hlt]
          refine HF2.out.next _ rfl (by simp [hcs]) (((HF2.out.blk).set _ _).set _ _) keep_two (by simp [World.setCell]) (fun p hp => two_old (by rw [el] at hp; exact hp)) (fun jj hjj => ?_)
          rw [el]
          have hjc : jj = 0 ∨ jj = 1 := by have : ((ls[j]).fs).length = 2 := rfl; omega
          rcases hjc with rfl | rfl
          · exact ⟨_, two_new0 (by rw [hcs]; omega), .atom _⟩
          · exact ⟨_, two_new1 (by rw [hcs]; omega), (Hr1.out.set _ _).set _ _⟩
        · exact (HL0.out.far (by simp <;> omega) _).far (by simp <;> omega) _
        · exact (HR.out.set _ _).set _ _
        · exact (HB.out.setCell (by simp <;> omega) _).setCell (by simp <;> omega) _
      case measure => simp [intOf]; omega
    · obtain rfl : j = ls.length := by omega
      have hdl : decide (((ls.length : Nat) : Int) < ls.length) = false := by simp
      have HF := Lib.hid hF; have HB := Lib.hid hB
      clear hF hB hmk hr L0
      go_wp2_with fail
      go_ret
      have hd := HF.out.done ls.length (by omega) (by simp) (hS _ (by omega)) (by omega)
      rw [List.take_length] at hd
      exact ⟨_, _, rfl, hd, HB.out⟩
set_option maxHeartbeats 1000000 in
theorem c104 (S : Nat → Prop) (ls : List Pg) (t : Int) (a : Option Addr) (c : Nat) (w : World) (hlen : ls.length ≤ 1000000) (hlr : ∀ p ∈ ls, p.rings.length ≤ 1000000) (hS : ∀ b, w.heap.size ≤ b → S b)
    (h : Rd S w (.list (ls.map Pg.fs)) (.slice a ls.length c)) :
    Calls Tryz.prog 104 #[.agg #[.slice a ls.length c, .int .u8 t]] w fun e w' => ∃ a' c', e = .returned (.slice a' ls.length c') ∧ Rd S w' (.list (ls.map fun p => Sq.fs p.rings)) (.slice a' ls.length c') ∧ Below w.heap.size w w' := by
  have hmk : ∀ w, (Instr.makeSlice 143 (.int .i64 (ls.length : Int)) (.int .i64 (ls.length : Int))).run Tryz.prog w = .ok (.slice (some ⟨w.heap.size, 0, none⟩) ls.length ls.length) (w.alloc (.cells (madeCells #[.slice none 0 0] (ls.length * 1)) 132)) :=
    mk_any (P := Tryz.prog) 143 132 _ 1 24 Tryz.underlying143 info132 ls.length (by omega) (by omega)
  rw [Nat.mul_one] at hmk
  have HL := Lib.hid (Lb.new w #[.slice a ls.length c, .int .u8 t] 84)
  have HH := Lib.hid (h.alloc (.cells #[.slice a ls.length c, .int .u8 t] 84))
  have HBw := Lib.hid (bl_a1 w (.cells #[.slice a ls.length c, .int .u8 t] 84))
  have H146 := Lib.hid (c146 t a ls.length c (w.alloc (.cells #[.slice a ls.length c, .int .u8 t] 84)))
  clear h
  go_enter Tryz.func104, Tryz.ntmps104
  go_wp2_with fail
  refine H146.out.mono ?_
  rintro _ w0 ⟨rfl, hb0⟩
  replace HL := Lib.hid (HL.out.blw hb0)
  replace HH := Lib.hid (HH.out.blw hb0)
  replace HBw := Lib.hid (HBw.out.trans (hb0.mono (by simp)))
  have hge : w.heap.size + 1 ≤ w0.heap.size := by have := hb0.size; simpa using this
  clear hb0 H146
  go_wp2_with fail
  go_loopw [5] (fun i wr => ∃ j : Nat, ∃ cs : Array Value, j ≤ ls.length ∧ i = .int .i64 j ∧ Fill S wr w0.heap.size 132 1 ls.length ((ls.take j).map fun p => Sq.fs p.rings) cs ∧ Lb wr w.heap.size #[.slice a ls.length c, .int .u8 t] 84 ∧
      Rd (Ex S w0.heap.size) wr (.list (ls.map Pg.fs)) (.slice a ls.length c) ∧ Below w.heap.size w wr ∧ w0.heap.size + 1 ≤ wr.heap.size) (fun i _ => ls.length - (intOf i).toNat)
  case atStart =>
    refine ⟨0, madeCells #[.slice none 0 0] ls.length, Nat.zero_le _, rfl, Fill.start (by rw [Nat.mul_one]; exact size_madeCells _ _) (Lb.new w0 _ _), HL.out.alloc _, ?_, HBw.out.alloc (by omega) _, by simp⟩
    exact (HH.out.ex (Nat.le_refl _)).alloc _
  case round =>
    clear HL HH HBw
    obtain ⟨j, cs, hj, rfl, hF, L0, hr, hB, hsz⟩ := hrel
    by_cases hlt : j < ls.length
    · obtain ⟨kb, _, _⟩ := L0.use
      have HF := Lib.hid hF; have HB := Lib.hid hB; have HR := Lib.hid hr; have HL0 := Lib.hid L0
      have H147 := Lib.hid (c147 (Ex S w0.heap.size) ls j hlt t a c wr hr)
      clear hF hB hmk hr L0
      go_wp2_with fail
      refine H147.out.mono ?_
      rintro _ w1 ⟨a', c', rfl, hr1, hb1⟩
      have hsz1 : w0.heap.size + 1 ≤ w1.heap.size := Nat.le_trans hsz hb1.size
      have H140 := Lib.hid (c94 (Ex S w0.heap.size) (ls[j]).rings (ls[j]).t a' c' w1 (hlr _ (List.getElem_mem hlt)) (fun b hb => ⟨hS b (by omega), by omega⟩) hr1)
      replace HF := Lib.hid (HF.out.blw hb1); replace HR := Lib.hid (HR.out.blw hb1); replace HL0 := Lib.hid (HL0.out.blw hb1)
      replace HB := Lib.hid (HB.out.trans (hb1.mono (by omega)))
      clear H147 hr1 hb1 kb
      go_wp2_with fail
      refine H140.out.mono ?_
      rintro _ w2 ⟨a2, c2, rfl, hr2, hb2⟩
      have hF2 := HF.out.blw hb2
      have hcs := hF2.size
      obtain ⟨kR, fR, ltR⟩ := hF2.blk.use
      obtain ⟨u0, hu0⟩ : ∃ u, cs[j]? = some u := ⟨_, Array.getElem?_eq_getElem (by rw [hcs]; omega)⟩
      have HF2 := Lib.hid hF2; clear hF2
      replace HR := Lib.hid (HR.out.blw hb2); replace HL0 := Lib.hid (HL0.out.blw hb2); have Hr2 := Lib.hid hr2
      replace HB := Lib.hid (HB.out.trans (hb2.mono (by omega)))
      have hsz2 : w0.heap.size + 1 ≤ w2.heap.size := Nat.le_trans hsz1 hb2.size
      clear hb2 HF H140 hr2
      go_wp2_with fail
      go_roundw
      case rel =>
        refine ⟨j + 1, cs.setIfInBounds j (.slice a2 (ls[j]).rings.length c2), by omega, by go_num, ?_, ?_, ?_, ?_, by simp [World.setCell]; omega⟩
        · have el : ((ls.take j).map fun p => Sq.fs p.rings).length = j := by simp; omega
          rw [take_map_succ _ _ _ hlt]
          refine HF2.out.next _ rfl (by simp [hcs]) ((HF2.out.blk).set _ _) (fun b _ hb => Below.heap_setCell _ _ _ _ hb) (by simp [World.setCell]) (fun p hp => ?_) (fun jj hjj => ?_)
          · rw [el] at hp
            rw [Array.getElem?_setIfInBounds_ne (by omega)]
          rw [el]
          obtain rfl : jj = 0 := by have : (Sq.fs (ls[j]).rings).length = 1 := rfl; omega
          exact ⟨.slice a2 (ls[j]).rings.length c2, by rw [Nat.mul_one, Nat.add_zero, Array.getElem?_setIfInBounds]; simp [hcs]; omega, Hr2.out.set _ _⟩
        · exact HL0.out.far (by simp <;> omega) _
        · exact HR.out.set _ _
        · exact HB.out.setCell (by simp <;> omega) _
      case measure => simp [intOf]; omega
    · obtain rfl : j = ls.length := by omega
      have hdl : decide (((ls.length : Nat) : Int) < ls.length) = false := by simp
      have HF := Lib.hid hF; have HB := Lib.hid hB
      clear hF hB hmk hr L0
      go_wp2_with fail
      go_ret
      have hd := HF.out.done ls.length (by omega) (by simp) (hS _ (by omega)) (by omega)
      rw [List.take_length] at hd
      exact ⟨_, _, rfl, hd, HB.out⟩
end Go.Proofs.YtahnhhkbdgaidaaGreatDoor
