/-
  Geometries of any kind: their type of coordinates; under another type.
-/
import Derived.Test.YtahnhhkbdgaidaaGreatDoorKai
namespace Go.Proofs.YtahnhhkbdgaidaaGreatDoor
open Go.RowKit
mutual
def Geo.force : Geo → Int → Geo
  | .pt p, t' => .pt (p.force t')
  | .ln l, t' => .ln (l.force t')
  | .pg p, t' => .pg (p.force t')
  | .mp ps _, t' => .mp (ps.map (·.force t')) t'
  | .ml ls _, t' => .ml (ls.map (·.force t')) t'
  | .mg ps _, t' => .mg (ps.map (·.force t')) t'
  | .gc gs _, t' => .gc (Geo.forceL gs t') t'
def Geo.forceL : List Geo → Int → List Geo
  | [], _ => []
  | g :: r, t' => g.force t' :: Geo.forceL r t'
end
theorem Geo.forceL_map : ∀ (l : List Geo) (t' : Int), Geo.forceL l t' = l.map (·.force t')
  | [], _ => by simp [Geo.forceL]
  | g :: r, t' => by simp [Geo.forceL, Geo.forceL_map r t']
mutual
def Geo.size : Geo → Nat
  | .pt _ => 1 | .ln _ => 1 | .pg _ => 1 | .mp _ _ => 1 | .ml _ _ => 1 | .mg _ _ => 1
  | .gc gs _ => Geo.sizeL gs + 1
def Geo.sizeL : List Geo → Nat
  | [] => 0
  | g :: r => g.size + Geo.sizeL r
end
theorem Geo.size_kid : ∀ (l : List Geo) (i : Nat) (h : i < l.length), (l[i]).size ≤ Geo.sizeL l
  | [], _, h => absurd h (by simp)
  | g :: r, 0, _ => by simp [Geo.sizeL]
  | g :: r, i + 1, h => by
    have := Geo.size_kid r i (by simpa using h)
    simp only [List.getElem_cons_succ, Geo.sizeL]
    omega
mutual
def Geo.ok : Geo → Prop
  | .pt p => p.ok
  | .ln l => l.ok
  | .pg p => p.ok
  | .mp ps t => (∀ p ∈ ps, p.ok) ∧ ps.length ≤ 1000000 ∧ 0 ≤ t ∧ t ≤ 3
  | .ml ls t => (∀ l ∈ ls, l.ok) ∧ ls.length ≤ 1000000 ∧ 0 ≤ t ∧ t ≤ 3
  | .mg ps t => (∀ p ∈ ps, p.ok) ∧ ps.length ≤ 1000000 ∧ 0 ≤ t ∧ t ≤ 3
  | .gc gs t => Geo.okL gs ∧ gs.length ≤ 1000000 ∧ 0 ≤ t ∧ t ≤ 3
def Geo.okL : List Geo → Prop
  | [] => True
  | g :: r => g.ok ∧ Geo.okL r
end
theorem Geo.okL_mem : ∀ {l : List Geo}, Geo.okL l → ∀ g ∈ l, g.ok
  | [], _, _, h => by cases h
  | a :: r, hl, g, h => by
    simp only [Geo.okL] at hl
    rcases List.mem_cons.1 h with rfl | h
    · exact hl.1
    · exact Geo.okL_mem hl.2 g h
theorem Geo.ok_t (g : Geo) (h : g.ok) : 0 ≤ g.t ∧ g.t ≤ 3 := by
  cases g <;> simp only [Geo.ok] at h <;> simp only [Geo.t]
  · exact h
  · exact ⟨h.1, h.2.1⟩
  · exact ⟨h.2.2.1, h.2.2.2⟩
  all_goals exact ⟨h.2.2.1, h.2.2.2⟩
theorem Geo.force_kind (g : Geo) (t' : Int) : (g.force t').kind = g.kind ∧ (g.force t').tid = g.tid := by cases g <;> simp [Geo.force, Geo.kind, Geo.tid]
/-- A geometry's value: behind its kind an interface value, whose box reads as it. -/
def GeoV (S : Nat → Prop) (w : World) (g : Geo) (v : Value) : Prop := Rd S w (.box g.tid g.inner) v
theorem GeoV.shape {S : Nat → Prop} {w : World} {g : Geo} {v : Value} (h : GeoV S w g v) : ∃ b, v = .iface g.tid (.pointer (some ⟨b, 0, none⟩)) := by
  obtain ⟨b, _, rfl, _⟩ := Rd.box_inv h
  exact ⟨b, rfl⟩
theorem geos_at {S : Nat → Prop} {w : World} {ls : List Geo} {v : Value} (h : Rd S w (.list (ls.map Geo.fs)) v) : ∃ a c, v = .slice a ls.length c ∧ ls.length ≤ 17592186044416 ∧
    ∀ i (hi : i < ls.length), ∃ b off b', a = some ⟨b, off, none⟩ ∧ S b ∧ b < w.heap.size ∧ w.cell? ⟨b, off + i * 2, none⟩ = some (.int .i64 (ls[i]).kind) ∧
      w.cell? ⟨b, off + i * 2 + 1, none⟩ = some (.iface (ls[i]).tid (.pointer (some ⟨b', 0, none⟩))) ∧ GeoV S w ls[i] (.iface (ls[i]).tid (.pointer (some ⟨b', 0, none⟩))) := by
  obtain ⟨a, c, rfl, hm, hi⟩ := list_at h 2 (by simp [Geo.fs])
  simp only [List.length_map] at *
  refine ⟨a, c, rfl, hm, fun i hlt => ?_⟩
  obtain ⟨b, off, rfl, hS, hb, x, hx⟩ := hi i hlt
  have e : (ls.map Geo.fs)[i]'(by simpa using hlt) = [.atom (.int .i64 (ls[i]).kind), .box (ls[i]).tid (ls[i]).inner] := by simp [Geo.fs]
  obtain ⟨c0, r0⟩ := hx 0 (by rw [e]; simp)
  obtain ⟨c1, r1⟩ := hx 1 (by rw [e]; simp)
  simp only [e, List.getElem_cons_zero, List.getElem_cons_succ] at r0 r1
  rw [r0.atom_inv] at c0
  obtain ⟨b', hb'⟩ := GeoV.shape (g := ls[i]) r1
  rw [hb'] at c1 r1
  exact ⟨b, off, b', rfl, hS, hb, by simpa using c0, c1, r1⟩
set_option maxRecDepth 100000 in
set_option maxHeartbeats 1000000 in
theorem c113 (S : Nat → Prop) (ls : List Geo) (t t' : Int) (a : Option Addr) (c : Nat) (w : World) (_ : Geo.okL ls) (IH : ∀ (j : Nat) (hj : j < ls.length) (S : Nat → Prop) (w : World) (v : Value), (∀ b, w.heap.size ≤ b → S b) → GeoV S w ls[j] v → Calls Tryz.prog 48 #[.agg #[.int .i64 (ls[j]).kind, v], .int .u8 t'] w fun e w' => ∃ b', e = .returned (.agg #[.int .i64 (ls[j]).kind, .iface (ls[j]).tid (.pointer (some ⟨b', 0, none⟩))]) ∧ GeoV S w' ((ls[j]).force t') (.iface (ls[j]).tid (.pointer (some ⟨b', 0, none⟩))) ∧ Below w.heap.size w w') (_ : 0 ≤ t') (_ : t' ≤ 3) (hlen : ls.length ≤ 1000000) (hS : ∀ b, w.heap.size ≤ b → S b)
    (h : Rd S w (.list (ls.map Geo.fs)) (.slice a ls.length c)) :
    Calls Tryz.prog 113 #[.agg #[.slice a ls.length c, .int .u8 t], .int .u8 t'] w fun e w' => ∃ a' c', e = .returned (.agg #[.slice a' ls.length c', .int .u8 t']) ∧
      Rd S w' (.list ((ls.map (·.force t')).map Geo.fs)) (.slice a' ls.length c') ∧ Below w.heap.size w w' := by
  have hmk : ∀ w, (Instr.makeSlice 102 (.int .i64 (ls.length : Int)) (.int .i64 (ls.length : Int))).run Tryz.prog w = .ok (.slice (some ⟨w.heap.size, 0, none⟩) ls.length ls.length) (w.alloc (.cells (madeCells #[.int .i64 0, .nilIface] (ls.length * 2)) 47)) :=
    mk_any (P := Tryz.prog) 102 47 _ 2 24 Tryz.underlying102 info47 ls.length (by omega) (by omega)
  go_enter Tryz.func113, Tryz.ntmps113
  go_wp2_with fail
  go_loopw [14] (fun i wr => ∃ j : Nat, ∃ cs : Array Value, j ≤ ls.length ∧ i = .int .i64 j ∧ Fill (Ex S (w.heap.size + 1)) wr (w.heap.size + 2) 47 2 ls.length (((ls.take j).map (·.force t')).map Geo.fs) cs ∧
      Lb wr w.heap.size #[.slice a ls.length c, .int .u8 t] 104 ∧ Lb wr (w.heap.size + 1) #[.slice none 0 0, .int .u8 0] 104 ∧ Rd (Ex (Ex S (w.heap.size + 1)) (w.heap.size + 2)) wr (.list (ls.map Geo.fs)) (.slice a ls.length c) ∧ Below w.heap.size w wr ∧ w.heap.size + 3 ≤ wr.heap.size) (fun i _ => ls.length - (intOf i).toNat)
  case atStart =>
    refine ⟨0, madeCells #[.int .i64 0, .nilIface] (ls.length * 2), Nat.zero_le _, rfl, Fill.start (size_madeCells _ _) ?_, (Lb.new' w _ _ _).alloc _, (Lb.new2 w _ _ _).alloc _, ?_, (bl_a2 w _ _).alloc (by simp <;> omega) _, by simp⟩
    · exact Lb.new3 w _ _ _ _
    · exact ((((h.ex (L := w.heap.size + 1) (by omega)).ex (L := w.heap.size + 2) (by omega)).alloc _).alloc _).alloc _
  case round =>
    obtain ⟨j, cs, hj, rfl, hF, L0, L1, hr, hB, hsz⟩ := hrel
    by_cases hlt : j < ls.length
    · obtain ⟨a0, c0, e0, hm, hat⟩ := geos_at hr
      obtain ⟨rfl, _, rfl⟩ := Value.slice.inj e0
      obtain ⟨b, off, b0, rfl, hSb, hb, k0, k1, hrj⟩ := hat j hlt
      obtain ⟨kb, _, ltb⟩ := L0.use
      have H := Lib.hid fun (S : Nat → Prop) (hS : ∀ b, wr.heap.size ≤ b → S b) (h : GeoV S wr ls[j] (.iface (ls[j]).tid (.pointer (some ⟨b0, 0, none⟩)))) => IH j hlt S wr (.iface (ls[j]).tid (.pointer (some ⟨b0, 0, none⟩))) hS h
      have HF := Lib.hid hF; clear hF
      have HL0 := Lib.hid L0; have HL1 := Lib.hid L1; have HB := Lib.hid hB
      clear L0 L1 hB hat e0 hmk
      go_wp2_with fail
      refine (H.out (Ex (Ex S (w.heap.size + 1)) (w.heap.size + 2)) (fun b hb => ⟨⟨hS b (by omega), by omega⟩, by omega⟩) hrj).mono ?_
      rintro e w1 ⟨b2, rfl, hr2, hb2⟩
      have hF2 := HF.out.blw hb2
      have hcs := hF2.size
      obtain ⟨kR, fR, ltR⟩ := hF2.blk.use
      obtain ⟨u0, hu0⟩ : ∃ u, cs[j * 2]? = some u := ⟨_, Array.getElem?_eq_getElem (by rw [hcs]; omega)⟩
      obtain ⟨u1, hu1⟩ : ∃ u, cs[j * 2 + 1]? = some u := ⟨_, Array.getElem?_eq_getElem (by rw [hcs]; omega)⟩
      have HF2 := Lib.hid hF2; clear hF2
      have HL0' := Lib.hid (HL0.out.blw hb2); have HL1' := Lib.hid (HL1.out.blw hb2)
      have HB' := Lib.hid (HB.out.trans (hb2.mono (by omega)))
      have hr3 := Lib.hid (hr.blw hb2); have hr4 := Lib.hid hr2
      have hsz2 : w.heap.size + 3 ≤ w1.heap.size := Nat.le_trans hsz hb2.size
      clear hr hr2 hb2 kb k0 k1
      go_wp2_with fail
      go_roundw
      case rel =>
        refine ⟨j + 1, (cs.setIfInBounds (j * 2) (.int .i64 (ls[j]).kind)).setIfInBounds (j * 2 + 1) (.iface (ls[j]).tid (.pointer (some ⟨b2, 0, none⟩))), by omega, by go_num, ?_, ?_, ?_, ?_, ?_, by simp [World.setCell]; omega⟩
        · have el : (((ls.take j).map (·.force t')).map Geo.fs).length = j := by simp; omega
          have es : ((ls.take (j + 1)).map (·.force t')).map Geo.fs = ((ls.take j).map (·.force t')).map Geo.fs ++ [((ls[j]).force t').fs] := by rw [take_map_succ _ _ _ hlt, List.map_append]; rfl
          rw [es]
          refine HF2.out.next _ rfl (by simp [hcs]) (((HF2.out.blk).set _ _).set _ _) keep_two (by simp [World.setCell]) (fun p hp => two_old (by rw [el] at hp; exact hp)) (fun jj hjj => ?_)
          rw [el]
          have hjc : jj = 0 ∨ jj = 1 := by have : ((ls[j]).force t').fs.length = 2 := rfl; omega
          rcases hjc with rfl | rfl
          · exact ⟨_, two_new0 (by rw [hcs]; omega), by rw [← (Geo.force_kind ls[j] t').1]; exact .atom _⟩
          · exact ⟨_, two_new1 (by rw [hcs]; omega), (hr4.out.set _ _).set _ _⟩
        · exact (HL0'.out.far (by simp <;> omega) _).far (by simp <;> omega) _
        · exact (HL1'.out.far (by simp <;> omega) _).far (by simp <;> omega) _
        · exact (hr3.out.set _ _).set _ _
        · exact (HB'.out.setCell (by simp <;> omega) _).setCell (by simp <;> omega) _
      case measure => simp [intOf]; omega
    · obtain rfl : j = ls.length := by omega
      have hdl : decide (((ls.length : Nat) : Int) < ls.length) = false := by simp
      obtain ⟨k1, f1, lt1⟩ := L1.use
      have HF := Lib.hid hF; have HB := Lib.hid hB
      clear hF L0 L1 hB hmk hr
      go_wp2_with fail
      refine bodyPost_ret (v := .agg #[.slice (some ⟨w.heap.size + 2, 0, none⟩) ls.length ls.length, .int .u8 t']) (by simp [results, Tryz.results113, go_sem, k1]) rfl ⟨_, _, rfl, ?_, ?_⟩
      · refine Rd.unex (L := w.heap.size + 1) ?_
        have hd := HF.out.done ls.length (by omega) (by simp) ⟨hS _ (by omega), by omega⟩ (by omega)
        rw [List.take_length] at hd
        repeat (with_reducible first | refine Rd.set ?_ _ _ | exact hd)
      · repeat (with_reducible first | refine Below.setCell ?_ (by simp) _ | exact HB.out)
end Go.Proofs.YtahnhhkbdgaidaaGreatDoor
namespace Go.Proofs.YtahnhhkbdgaidaaGreatDoor
open Go.RowKit
theorem c177_1 (x y z m : Nat) (t : Int) (f : Bool) (b : Nat) (w : World) (hb : b < w.heap.size) (q0 : w.cell? ⟨b, 0, none⟩ = some (.float .f64 x)) (q1 : w.cell? ⟨b, 1, none⟩ = some (.float .f64 y)) (q2 : w.cell? ⟨b, 2, none⟩ = some (.float .f64 z)) (q3 : w.cell? ⟨b, 3, none⟩ = some (.float .f64 m)) (q4 : w.cell? ⟨b, 4, none⟩ = some (.int .u8 t)) (q5 : w.cell? ⟨b, 5, none⟩ = some (.bool f)) : Calls Tryz.prog 177 #[.agg #[.int .i64 1, .iface 168 (.pointer (some ⟨b, 0, none⟩))]] w fun e w' => e = .returned (.int .u8 t) ∧ Below w.heap.size w w' := by
  have Wb := bl_a1 w (.cells #[.int .i64 1, .iface 168 (.pointer (some ⟨b, 0, none⟩))] 47)
  have Q0 := (Wb.cell (p := ⟨b, 0, none⟩) hb).trans q0
  have Q1 := (Wb.cell (p := ⟨b, 1, none⟩) hb).trans q1
  have Q2 := (Wb.cell (p := ⟨b, 2, none⟩) hb).trans q2
  have Q3 := (Wb.cell (p := ⟨b, 3, none⟩) hb).trans q3
  have Q4 := (Wb.cell (p := ⟨b, 4, none⟩) hb).trans q4
  have Q5 := (Wb.cell (p := ⟨b, 5, none⟩) hb).trans q5
  go_enter Tryz.func177, Tryz.ntmps177
  go_wp2_with fail
  refine (d67 x y z m t f b _ (by simp <;> omega) Q0 Q1 Q2 Q3 Q4 Q5).mono ?_
  rintro e w1 ⟨rfl, hb1⟩
  have HB1 := Lib.hid (Wb.trans (hb1.mono (by simp)))
  clear Wb hb1 Q0 Q1 Q2 Q3 Q4 Q5 q0 q1 q2 q3 q4 q5
  go_wp2_with fail
  refine (c142 _ _ _ _ _ _ _ ).mono ?_
  rintro e w2 ⟨rfl, hb2⟩
  have HB2 := Lib.hid (HB1.out.trans (hb2.mono HB1.out.size))
  clear hb2
  go_wp2_with fail
  go_ret
  exact ⟨rfl, HB2.out⟩
theorem c177_2 (t : Int) (a : Option Addr) (n c : Nat) (b : Nat) (w : World) (hb : b < w.heap.size) (q0 : w.cell? ⟨b, 0, none⟩ = some (.int .u8 t)) (q1 : w.cell? ⟨b, 1, none⟩ = some (.slice a n c)) : Calls Tryz.prog 177 #[.agg #[.int .i64 2, .iface 169 (.pointer (some ⟨b, 0, none⟩))]] w fun e w' => e = .returned (.int .u8 t) ∧ Below w.heap.size w w' := by
  have Wb := bl_a1 w (.cells #[.int .i64 2, .iface 169 (.pointer (some ⟨b, 0, none⟩))] 47)
  have Q0 := (Wb.cell (p := ⟨b, 0, none⟩) hb).trans q0
  have Q1 := (Wb.cell (p := ⟨b, 1, none⟩) hb).trans q1
  go_enter Tryz.func177, Tryz.ntmps177
  go_wp2_with fail
  refine (d69 t a n c b _ (by simp <;> omega) Q0 Q1).mono ?_
  rintro e w1 ⟨rfl, hb1⟩
  have HB1 := Lib.hid (Wb.trans (hb1.mono (by simp)))
  clear Wb hb1 Q0 Q1 q0 q1
  go_wp2_with fail
  refine (c139 _ _ _ _ _ ).mono ?_
  rintro e w2 ⟨rfl, hb2⟩
  have HB2 := Lib.hid (HB1.out.trans (hb2.mono HB1.out.size))
  clear hb2
  go_wp2_with fail
  go_ret
  exact ⟨rfl, HB2.out⟩
theorem c177_3 (t : Int) (a : Option Addr) (n c : Nat) (b : Nat) (w : World) (hb : b < w.heap.size) (q0 : w.cell? ⟨b, 0, none⟩ = some (.slice a n c)) (q1 : w.cell? ⟨b, 1, none⟩ = some (.int .u8 t)) : Calls Tryz.prog 177 #[.agg #[.int .i64 3, .iface 170 (.pointer (some ⟨b, 0, none⟩))]] w fun e w' => e = .returned (.int .u8 t) ∧ Below w.heap.size w w' := by
  have Wb := bl_a1 w (.cells #[.int .i64 3, .iface 170 (.pointer (some ⟨b, 0, none⟩))] 47)
  have Q0 := (Wb.cell (p := ⟨b, 0, none⟩) hb).trans q0
  have Q1 := (Wb.cell (p := ⟨b, 1, none⟩) hb).trans q1
  go_enter Tryz.func177, Tryz.ntmps177
  go_wp2_with fail
  refine (d71 t a n c b _ (by simp <;> omega) Q0 Q1).mono ?_
  rintro e w1 ⟨rfl, hb1⟩
  have HB1 := Lib.hid (Wb.trans (hb1.mono (by simp)))
  clear Wb hb1 Q0 Q1 q0 q1
  go_wp2_with fail
  refine (c145 _ _ _ _ _ ).mono ?_
  rintro e w2 ⟨rfl, hb2⟩
  have HB2 := Lib.hid (HB1.out.trans (hb2.mono HB1.out.size))
  clear hb2
  go_wp2_with fail
  go_ret
  exact ⟨rfl, HB2.out⟩
theorem c177_4 (t : Int) (a : Option Addr) (n c : Nat) (b : Nat) (w : World) (hb : b < w.heap.size) (q0 : w.cell? ⟨b, 0, none⟩ = some (.slice a n c)) (q1 : w.cell? ⟨b, 1, none⟩ = some (.int .u8 t)) : Calls Tryz.prog 177 #[.agg #[.int .i64 4, .iface 171 (.pointer (some ⟨b, 0, none⟩))]] w fun e w' => e = .returned (.int .u8 t) ∧ Below w.heap.size w w' := by
  have Wb := bl_a1 w (.cells #[.int .i64 4, .iface 171 (.pointer (some ⟨b, 0, none⟩))] 47)
  have Q0 := (Wb.cell (p := ⟨b, 0, none⟩) hb).trans q0
  have Q1 := (Wb.cell (p := ⟨b, 1, none⟩) hb).trans q1
  go_enter Tryz.func177, Tryz.ntmps177
  go_wp2_with fail
  refine (d73 t a n c b _ (by simp <;> omega) Q0 Q1).mono ?_
  rintro e w1 ⟨rfl, hb1⟩
  have HB1 := Lib.hid (Wb.trans (hb1.mono (by simp)))
  clear Wb hb1 Q0 Q1 q0 q1
  go_wp2_with fail
  refine (c151 _ _ _ _ _ ).mono ?_
  rintro e w2 ⟨rfl, hb2⟩
  have HB2 := Lib.hid (HB1.out.trans (hb2.mono HB1.out.size))
  clear hb2
  go_wp2_with fail
  go_ret
  exact ⟨rfl, HB2.out⟩
theorem c177_5 (t : Int) (a : Option Addr) (n c : Nat) (b : Nat) (w : World) (hb : b < w.heap.size) (q0 : w.cell? ⟨b, 0, none⟩ = some (.slice a n c)) (q1 : w.cell? ⟨b, 1, none⟩ = some (.int .u8 t)) : Calls Tryz.prog 177 #[.agg #[.int .i64 5, .iface 172 (.pointer (some ⟨b, 0, none⟩))]] w fun e w' => e = .returned (.int .u8 t) ∧ Below w.heap.size w w' := by
  have Wb := bl_a1 w (.cells #[.int .i64 5, .iface 172 (.pointer (some ⟨b, 0, none⟩))] 47)
  have Q0 := (Wb.cell (p := ⟨b, 0, none⟩) hb).trans q0
  have Q1 := (Wb.cell (p := ⟨b, 1, none⟩) hb).trans q1
  go_enter Tryz.func177, Tryz.ntmps177
  go_wp2_with fail
  refine (d75 t a n c b _ (by simp <;> omega) Q0 Q1).mono ?_
  rintro e w1 ⟨rfl, hb1⟩
  have HB1 := Lib.hid (Wb.trans (hb1.mono (by simp)))
  clear Wb hb1 Q0 Q1 q0 q1
  go_wp2_with fail
  refine (c154 _ _ _ _ _ ).mono ?_
  rintro e w2 ⟨rfl, hb2⟩
  have HB2 := Lib.hid (HB1.out.trans (hb2.mono HB1.out.size))
  clear hb2
  go_wp2_with fail
  go_ret
  exact ⟨rfl, HB2.out⟩
theorem c177_6 (t : Int) (a : Option Addr) (n c : Nat) (b : Nat) (w : World) (hb : b < w.heap.size) (q0 : w.cell? ⟨b, 0, none⟩ = some (.slice a n c)) (q1 : w.cell? ⟨b, 1, none⟩ = some (.int .u8 t)) : Calls Tryz.prog 177 #[.agg #[.int .i64 6, .iface 173 (.pointer (some ⟨b, 0, none⟩))]] w fun e w' => e = .returned (.int .u8 t) ∧ Below w.heap.size w w' := by
  have Wb := bl_a1 w (.cells #[.int .i64 6, .iface 173 (.pointer (some ⟨b, 0, none⟩))] 47)
  have Q0 := (Wb.cell (p := ⟨b, 0, none⟩) hb).trans q0
  have Q1 := (Wb.cell (p := ⟨b, 1, none⟩) hb).trans q1
  go_enter Tryz.func177, Tryz.ntmps177
  go_wp2_with fail
  refine (d77 t a n c b _ (by simp <;> omega) Q0 Q1).mono ?_
  rintro e w1 ⟨rfl, hb1⟩
  have HB1 := Lib.hid (Wb.trans (hb1.mono (by simp)))
  clear Wb hb1 Q0 Q1 q0 q1
  go_wp2_with fail
  refine (c155 _ _ _ _ _ ).mono ?_
  rintro e w2 ⟨rfl, hb2⟩
  have HB2 := Lib.hid (HB1.out.trans (hb2.mono HB1.out.size))
  clear hb2
  go_wp2_with fail
  go_ret
  exact ⟨rfl, HB2.out⟩
theorem c177_0 (t : Int) (a : Option Addr) (n c : Nat) (b : Nat) (w : World) (hb : b < w.heap.size) (q0 : w.cell? ⟨b, 0, none⟩ = some (.slice a n c)) (q1 : w.cell? ⟨b, 1, none⟩ = some (.int .u8 t)) : Calls Tryz.prog 177 #[.agg #[.int .i64 0, .iface 176 (.pointer (some ⟨b, 0, none⟩))]] w fun e w' => e = .returned (.int .u8 t) ∧ Below w.heap.size w w' := by
  have Wb := bl_a1 w (.cells #[.int .i64 0, .iface 176 (.pointer (some ⟨b, 0, none⟩))] 47)
  have Q0 := (Wb.cell (p := ⟨b, 0, none⟩) hb).trans q0
  have Q1 := (Wb.cell (p := ⟨b, 1, none⟩) hb).trans q1
  go_enter Tryz.func177, Tryz.ntmps177
  go_wp2_with fail
  refine (d65 t a n c b _ (by simp <;> omega) Q0 Q1).mono ?_
  rintro e w1 ⟨rfl, hb1⟩
  have HB1 := Lib.hid (Wb.trans (hb1.mono (by simp)))
  clear Wb hb1 Q0 Q1 q0 q1
  go_wp2_with fail
  refine (c156 _ _ _ _ _ ).mono ?_
  rintro e w2 ⟨rfl, hb2⟩
  have HB2 := Lib.hid (HB1.out.trans (hb2.mono HB1.out.size))
  clear hb2
  go_wp2_with fail
  go_ret
  exact ⟨rfl, HB2.out⟩
/-- What a box holds, by kind. -/
theorem box_cell {S : Nat → Prop} {w : World} {t : TypeId} {fs : List F} {b : Nat} (h : Rd S w (.box t fs) (.iface t (.pointer (some ⟨b, 0, none⟩)))) : b < w.heap.size ∧ ∀ j (hj : j < fs.length), ∃ x, w.cell? ⟨b, j, none⟩ = some x ∧ Rd S w fs[j] x := by
  obtain ⟨b', cell, e, _, hb, hc, hr⟩ := Rd.box_inv h
  simp only [Value.iface.injEq, Value.pointer.injEq, Option.some.injEq, Addr.mk.injEq, and_true, true_and] at e
  subst e
  exact ⟨hb, fun j hj => ⟨_, hc j hj, hr j hj⟩⟩
theorem box_list {S : Nat → Prop} {w : World} {t : TypeId} {es : List (List F)} {v : Value} {b : Nat} (h : Rd S w (.box t [.list es, .atom v]) (.iface t (.pointer (some ⟨b, 0, none⟩)))) :
    b < w.heap.size ∧ ∃ a c, w.cell? ⟨b, 0, none⟩ = some (.slice a es.length c) ∧ w.cell? ⟨b, 1, none⟩ = some v ∧ Rd S w (.list es) (.slice a es.length c) := by
  obtain ⟨hb, hc⟩ := box_cell h
  obtain ⟨x, c0, r0⟩ := hc 0 (by simp)
  obtain ⟨y, c1, r1⟩ := hc 1 (by simp)
  have r0 : Rd S w (.list es) x := r0
  have r1 : Rd S w (.atom v) y := r1
  obtain ⟨a, c, rfl⟩ := list_shape r0
  rw [r1.atom_inv] at c1
  exact ⟨hb, a, c, c0, c1, r0⟩
theorem box_ln {S : Nat → Prop} {w : World} {t : TypeId} {xs : List Nat} {v : Value} {b : Nat} (h : Rd S w (.box t [.atom v, fl xs]) (.iface t (.pointer (some ⟨b, 0, none⟩)))) :
    b < w.heap.size ∧ ∃ a c, w.cell? ⟨b, 0, none⟩ = some v ∧ w.cell? ⟨b, 1, none⟩ = some (.slice a xs.length c) ∧ Rd S w (fl xs) (.slice a xs.length c) := by
  obtain ⟨hb, hc⟩ := box_cell h
  obtain ⟨x, c0, r0⟩ := hc 0 (by simp)
  obtain ⟨y, c1, r1⟩ := hc 1 (by simp)
  have r0 : Rd S w (.atom v) x := r0
  have r1 : Rd S w (fl xs) y := r1
  obtain ⟨a, c, rfl⟩ := fl_shape r1
  rw [r0.atom_inv] at c0
  exact ⟨hb, a, c, c0, c1, r1⟩
theorem box_pt {S : Nat → Prop} {w : World} {t : TypeId} {p : Pt} {b : Nat} (h : Rd S w (.box t p.fs) (.iface t (.pointer (some ⟨b, 0, none⟩)))) :
    b < w.heap.size ∧ w.cell? ⟨b, 0, none⟩ = some (.float .f64 p.c.x) ∧ w.cell? ⟨b, 1, none⟩ = some (.float .f64 p.c.y) ∧ w.cell? ⟨b, 2, none⟩ = some (.float .f64 p.c.z) ∧ w.cell? ⟨b, 3, none⟩ = some (.float .f64 p.c.m) ∧ w.cell? ⟨b, 4, none⟩ = some (.int .u8 p.c.t) ∧ w.cell? ⟨b, 5, none⟩ = some (.bool p.full) := by
  obtain ⟨hb, hc⟩ := box_cell h
  have key : ∀ k v (hk : p.fs[k]? = some (.atom v)), w.cell? ⟨b, k, none⟩ = some v := fun k v hk => by
    obtain ⟨hl, e⟩ := List.getElem?_eq_some_iff.1 hk
    obtain ⟨x, ck, rk⟩ := hc k hl
    rw [e] at rk
    rw [ck, rk.atom_inv]
  exact ⟨hb, key 0 _ rfl, key 1 _ rfl, key 2 _ rfl, key 3 _ rfl, key 4 _ rfl, key 5 _ rfl⟩
theorem c177 (S : Nat → Prop) (g : Geo) (v : Value) (w : World) (h : GeoV S w g v) : Calls Tryz.prog 177 #[.agg #[.int .i64 g.kind, v]] w fun e w' => e = .returned (.int .u8 g.t) ∧ Below w.heap.size w w' := by
  obtain ⟨b, rfl⟩ := h.shape
  cases g with
  | pt p =>
    obtain ⟨hb, q0, q1, q2, q3, q4, q5⟩ := box_pt h
    exact c177_1 _ _ _ _ _ _ b w hb q0 q1 q2 q3 q4 q5
  | ln l =>
    obtain ⟨hb, a, c, q0, q1, _⟩ := box_ln h
    exact c177_2 _ _ _ _ b w hb q0 q1
  | pg p =>
    obtain ⟨hb, a, c, q0, q1, _⟩ := box_list h
    exact c177_3 _ _ _ _ b w hb q0 q1
  | mp ps t =>
    obtain ⟨hb, a, c, q0, q1, _⟩ := box_list (h : Rd S w (.box 171 [.list (ps.map Pt.fs), .atom (.int .u8 t)]) _)
    exact c177_4 _ _ _ _ b w hb q0 q1
  | ml ls t =>
    obtain ⟨hb, a, c, q0, q1, _⟩ := box_list (h : Rd S w (.box 172 [.list (ls.map Ln.fs), .atom (.int .u8 t)]) _)
    exact c177_5 _ _ _ _ b w hb q0 q1
  | mg ps t =>
    obtain ⟨hb, a, c, q0, q1, _⟩ := box_list (h : Rd S w (.box 173 [.list (ps.map Pg.fs), .atom (.int .u8 t)]) _)
    exact c177_6 _ _ _ _ b w hb q0 q1
  | gc gs t =>
    obtain ⟨hb, a, c, q0, q1, _⟩ := box_list (h : Rd S w (.box 176 [.list (Geo.fsL gs), .atom (.int .u8 t)]) _)
    exact c177_0 _ _ _ _ b w hb q0 q1
theorem c48 : ∀ (m : Nat) (g : Geo) (t' : Int) (S : Nat → Prop) (w : World) (v : Value), g.size ≤ m → g.ok → 0 ≤ t' → t' ≤ 3 → (∀ b, w.heap.size ≤ b → S b) → GeoV S w g v →
    Calls Tryz.prog 48 #[.agg #[.int .i64 g.kind, v], .int .u8 t'] w fun e w' => ∃ b', e = .returned (.agg #[.int .i64 g.kind, .iface g.tid (.pointer (some ⟨b', 0, none⟩))]) ∧ GeoV S w' (g.force t') (.iface g.tid (.pointer (some ⟨b', 0, none⟩))) ∧ Below w.heap.size w w' := by
  intro m
  induction m with
  | zero => intro g _ _ _ _ h; cases g <;> simp [Geo.size] at h
  | succ m ih =>
    intro g t' S w v hm hok g0 g1 hS h
    obtain ⟨b, rfl⟩ := h.shape
    cases g with
    | pt p =>
      obtain ⟨hb, q0, q1, q2, q3, q4, q5⟩ := box_pt h
      exact c48_1 S _ _ _ _ _ _ _ b w hok.1 hok.2 g0 g1 hS hb q0 q1 q2 q3 q4 q5
    | ln l =>
      obtain ⟨hb, a, c, q0, q1, hr⟩ := box_ln h
      exact c48_2 S l.xs (l.force t').xs l.t t' a l.xs.length c (l.force t').xs.length b w hS hb q0 q1 hr (fun S w hS h => c115 S l t' a c w hok g0 g1 hS h)
    | pg p =>
      obtain ⟨hb, a, c, q0, q1, hr⟩ := box_list h
      have hl : (p.rings.map Ln.fs).length = p.rings.length := by simp
      rw [hl] at q0 hr
      exact c48_3 S (p.rings.map Ln.fs) ((p.rings.map (·.force t')).map Ln.fs) p.t t' a p.rings.length c b w hS hb q0 q1 hr (fun S w hS h => c91 S p.rings p.t t' a c w hok.1 g0 g1 hok.2.1 hS h)
    | mp ps t =>
      obtain ⟨hb, a, c, q0, q1, hr⟩ := box_list (h : Rd S w (.box 171 [.list (ps.map Pt.fs), .atom (.int .u8 t)]) _)
      have hl : (ps.map Pt.fs).length = ps.length := by simp
      rw [hl] at q0 hr
      exact c48_4 S (ps.map Pt.fs) ((ps.map (·.force t')).map Pt.fs) t t' a ps.length c b w hS hb q0 q1 hr (fun S w hS h => c95 S ps t t' a c w hok.1 g0 g1 hok.2.1 hS h)
    | ml ls t =>
      obtain ⟨hb, a, c, q0, q1, hr⟩ := box_list (h : Rd S w (.box 172 [.list (ls.map Ln.fs), .atom (.int .u8 t)]) _)
      have hl : (ls.map Ln.fs).length = ls.length := by simp
      rw [hl] at q0 hr
      exact c48_5 S (ls.map Ln.fs) ((ls.map (·.force t')).map Ln.fs) t t' a ls.length c b w hS hb q0 q1 hr (fun S w hS h => c98 S ls t t' a c w hok.1 g0 g1 hok.2.1 hS h)
    | mg ps t =>
      obtain ⟨hb, a, c, q0, q1, hr⟩ := box_list (h : Rd S w (.box 173 [.list (ps.map Pg.fs), .atom (.int .u8 t)]) _)
      have hl : (ps.map Pg.fs).length = ps.length := by simp
      rw [hl] at q0 hr
      exact c48_6 S (ps.map Pg.fs) ((ps.map (·.force t')).map Pg.fs) t t' a ps.length c b w hS hb q0 q1 hr (fun S w hS h => c101 S ps t t' a c w hok.1 g0 g1 hok.2.1 hS h)
    | gc gs t =>
      have h' : Rd S w (.box 176 [.list (gs.map Geo.fs), .atom (.int .u8 t)]) (.iface 176 (.pointer (some ⟨b, 0, none⟩))) := by rw [← Geo.fsL_map]; exact h
      obtain ⟨hb, a, c, q0, q1, hr⟩ := box_list h'
      have hl : (gs.map Geo.fs).length = gs.length := by simp
      rw [hl] at q0 hr
      have IH : ∀ (j : Nat) (hj : j < gs.length) (S : Nat → Prop) (w : World) (v : Value), (∀ b, w.heap.size ≤ b → S b) → GeoV S w gs[j] v → _ := fun j hj S w v hS h =>
        ih gs[j] t' S w v (by have := Geo.size_kid gs j hj; simp only [Geo.size] at hm; omega) (Geo.okL_mem hok.1 _ (List.getElem_mem hj)) g0 g1 hS h
      have := c48_0 S (gs.map Geo.fs) ((gs.map (·.force t')).map Geo.fs) t t' a gs.length c b w hS hb q0 q1 hr (fun S w hS h => c113 S gs t t' a c w hok.1 IH g0 g1 hok.2.1 hS h)
      refine this.mono ?_
      rintro e w' ⟨b', he, hr', hB⟩
      refine ⟨b', he, ?_, hB⟩
      show Rd S w' (.box 176 [.list (Geo.fsL (Geo.forceL gs t')), .atom (.int .u8 t')]) _
      rw [Geo.fsL_map, Geo.forceL_map]
      exact hr'
end Go.Proofs.YtahnhhkbdgaidaaGreatDoor
