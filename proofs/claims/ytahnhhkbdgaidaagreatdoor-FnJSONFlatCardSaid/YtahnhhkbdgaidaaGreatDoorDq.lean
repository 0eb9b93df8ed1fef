/-
  Plain data of a geometry: a datum's parts under way.
-/
import Derived.Test.YtahnhhkbdgaidaaGreatDoorDm
import Derived.Test.YtahnhhkbdgaidaaGreatDoorCh
import Derived.Test.YtahnhhkbdgaidaaGreatDoorCs
namespace Go.Proofs.YtahnhhkbdgaidaaGreatDoor
open Go.RowKit
set_option maxRecDepth 100000
theorem c149 (S : Nat → Prop) (t : Int) (xs : List Nat) (a : Option Addr) (c : Nat) (w : World) (h0 : 0 ≤ t) (h1 : t ≤ 3) (hS : ∀ b, w.heap.size ≤ b → S b) (hq : xs.length / dN t ≤ 1000000) (h : Rd S w (fl xs) (.slice a xs.length c)) :
    Calls Tryz.prog 149 #[.agg #[.int .u8 t, .slice a xs.length c]] w fun e w' => ∃ vn, e = .returned (.agg #[.int .i64 2, .int .i64 t, vn, .slice none 0 0]) ∧ Rd S w' (fl (numsOf t (plsOf t xs))) vn ∧ Below w.heap.size w w' := by
  rcases four t h0 h1 with rfl | rfl | rfl | rfl
  · exact c149_0 S xs a c w hS hq h
  · exact c149_1 S xs a c w hS hq h
  · exact c149_2 S xs a c w hS hq h
  · exact c149_3 S xs a c w hS hq h
set_option maxHeartbeats 1000000 in
theorem c107 (S : Nat → Prop) (t : Int) (xs : List Nat) (a : Option Addr) (c : Nat) (w : World) (h0 : 0 ≤ t) (h1 : t ≤ 3) (hS : ∀ b, w.heap.size ≤ b → S b) (hq : xs.length / dN t ≤ 1000000) (h : Rd S w (fl xs) (.slice a xs.length c)) :
    Calls Tryz.prog 107 #[.agg #[.int .u8 t, .slice a xs.length c]] w fun e w' => ∃ vn, e = .returned (.agg #[.int .i64 2, .int .i64 t, vn, .slice none 0 0]) ∧ Rd S w' (fl (numsOf t (plsOf t xs))) vn ∧ Below w.heap.size w w' := by
  have l1 := Lib.hid (Lb.new2 w (.cells #[.int .u8 t, .slice a xs.length c] 69) #[.int .i64 0, .int .i64 0, .slice none 0 0, .slice none 0 0] 25)
  have HB := Lib.hid (bl_a2 w (.cells #[.int .u8 t, .slice a xs.length c] 69) (.cells #[.int .i64 0, .int .i64 0, .slice none 0 0, .slice none 0 0] 25))
  have HR := Lib.hid (((h.ex (L := w.heap.size + 1) (by omega)).alloc (.cells #[.int .u8 t, .slice a xs.length c] 69)).alloc (.cells #[.int .i64 0, .int .i64 0, .slice none 0 0, .slice none 0 0] 25))
  have HC := Lib.hid fun (w' : World) (hs : w.heap.size + 2 ≤ w'.heap.size) (hr : Rd (Ex S (w.heap.size + 1)) w' (fl xs) (.slice a xs.length c)) => c149 (Ex S (w.heap.size + 1)) t xs a c w' h0 h1 (fun b hb => ⟨hS b (by omega), by omega⟩) hq hr
  clear h hq
  go_enter Tryz.func107, Tryz.ntmps107
  go_wp2_with fail
  refine (c140 _ _ _ _ _).mono ?_
  rintro _ w1 ⟨rfl, hb1⟩
  have hge : w.heap.size + 2 ≤ w1.heap.size := by have := hb1.size; simpa using this
  replace l1 := Lib.hid (l1.out.blw hb1); replace HR := Lib.hid (HR.out.blw hb1)
  replace HB := Lib.hid (HB.out.trans (hb1.mono (by simp <;> omega)))
  clear hb1
  go_wp2_with fail
  refine (HC.out _ hge HR.out).mono ?_
  rintro _ w2 ⟨vn, rfl, hr2, hb2⟩
  obtain ⟨an, cn, rfl⟩ := fl_shape hr2
  obtain ⟨kr, fr, lr⟩ := (l1.out.blw hb2).use
  replace HB := Lib.hid (HB.out.trans (hb2.mono (by omega)))
  have Hr2 := Lib.hid hr2
  clear hr2 hb2 l1 HR HC
  go_wp2_with fail
  refine bodyPost_ret (v := .agg #[.int .i64 2, .int .i64 t, .slice an (numsOf t (plsOf t xs)).length cn, .slice none 0 0]) (by simp [results, Tryz.results107, go_sem, *]) rfl ⟨_, rfl, ?_, ?_⟩
  · refine Rd.unex (L := w.heap.size + 1) ?_
    repeat (with_reducible first | refine Rd.set ?_ _ _ | exact Hr2.out)
  · repeat (with_reducible first | exact HB.out | refine Below.setCell ?_ (by simp <;> omega) _)

set_option maxHeartbeats 1000000 in
theorem c106_f (S : Nat → Prop) (x y z m : Nat) (t : Int) (w : World) (h0 : 0 ≤ t) (h1 : t ≤ 3) (hS : ∀ b, w.heap.size ≤ b → S b) :
    Calls Tryz.prog 106 #[.agg #[.float .f64 x, .float .f64 y, .float .f64 z, .float .f64 m, .int .u8 t, .bool false]] w fun e w' => ∃ vn, e = .returned (.agg #[.int .i64 1, .int .i64 t, vn, .slice none 0 0]) ∧ Rd S w' (fl []) vn ∧ Below w.heap.size w w' := by
  have hsf := st_float
  have l0 := Lib.hid (Lb.new' w #[.float .f64 x, .float .f64 y, .float .f64 z, .float .f64 m, .int .u8 t, .bool false] 63 (.cells #[.int .i64 0, .int .i64 0, .slice none 0 0, .slice none 0 0] 25))
  have l1 := Lib.hid (Lb.new2 w (.cells #[.float .f64 x, .float .f64 y, .float .f64 z, .float .f64 m, .int .u8 t, .bool false] 63) #[.int .i64 0, .int .i64 0, .slice none 0 0, .slice none 0 0] 25)
  have HB := Lib.hid (bl_a2 w (.cells #[.float .f64 x, .float .f64 y, .float .f64 z, .float .f64 m, .int .u8 t, .bool false] 63) (.cells #[.int .i64 0, .int .i64 0, .slice none 0 0, .slice none 0 0] 25))
  go_enter Tryz.func106, Tryz.ntmps106
  go_wp2_with fail
  refine (c142 _ _ _ _ _ _ _).mono ?_
  rintro _ w1 ⟨rfl, hb1⟩
  have hge : w.heap.size + 2 ≤ w1.heap.size := by have := hb1.size; simpa using this
  replace l0 := Lib.hid (l0.out.blw hb1); replace l1 := Lib.hid (l1.out.blw hb1)
  replace HB := Lib.hid (HB.out.trans (hb1.mono (by simp <;> omega)))
  obtain ⟨k1, _, _⟩ := l0.out.use
  clear hb1
  go_wp2_with fail
  refine (c97 _ _ _ _ _ _ _).mono ?_
  rintro _ w2 ⟨rfl, hb2⟩
  have hlg := Lb.new w1 #[.int .i64 1, .int .i64 t, .slice none 0 0, .slice none 0 0] 25 |>.blw hb2
  have hl1 := (l1.out.alloc (.cells #[.int .i64 1, .int .i64 t, .slice none 0 0, .slice none 0 0] 25)).blw hb2
  obtain ⟨kg, _, lg⟩ := hlg.use
  obtain ⟨kr, fr, lr⟩ := hl1.use
  replace HB := Lib.hid ((HB.out.alloc (by omega) (.cells #[.int .i64 1, .int .i64 t, .slice none 0 0, .slice none 0 0] 25)).trans (hb2.mono (by simp; omega)))
  clear hb2 hlg hl1 l0 l1
  go_wp2_with fail
  refine bodyPost_ret (v := .agg #[.int .i64 1, .int .i64 t, .slice none 0 0, .slice none 0 0]) (by simp [results, Tryz.results106, go_sem, *]) rfl ⟨_, rfl, .nil _ _, ?_⟩
  repeat (with_reducible first | exact HB.out | refine Below.setCell ?_ (by simp <;> omega) _ | refine Below.alloc ?_ (by simp <;> omega) _)
theorem c106 (S : Nat → Prop) (p : Pt) (w : World) (hok : p.ok) (hS : ∀ b, w.heap.size ≤ b → S b) :
    Calls Tryz.prog 106 #[.agg p.cells] w fun e w' => ∃ vn, e = .returned (.agg #[.int .i64 1, .int .i64 p.c.t, vn, .slice none 0 0]) ∧ Rd S w' (fl (if p.full then crdNums p.c.t p.c else [])) vn ∧ Below w.heap.size w w' := by
  obtain ⟨⟨x, y, z, m, t⟩, full⟩ := p
  obtain ⟨h0, h1⟩ := hok
  simp only at h0 h1
  cases full
  · exact c106_f S x y z m t w h0 h1 hS
  · rcases four t h0 h1 with rfl | rfl | rfl | rfl
    · exact c106_0 S x y z m w hS
    · exact c106_1 S x y z m w hS
    · exact c106_2 S x y z m w hS
    · exact c106_3 S x y z m w hS
end Go.Proofs.YtahnhhkbdgaidaaGreatDoor
namespace Go.Proofs.YtahnhhkbdgaidaaGreatDoor
open Go.RowKit
set_option maxRecDepth 100000
/-- A whole row of wide elements copied over another of its length. -/
theorem run_copy_wide {P : Program} (w : World) (dT sT ty elem : TypeId) (g n c1 : Nat) (a : Addr) (c2 : Nat) (cur : Array Value) (t : TypeId) (cs : List Value) (sz : Nat)
    (hu : P.underlying dT = some (.slice elem)) (hs : (P.info? elem).map (·.size) = some sz)
    (hg : w.heap[g]? = some (.cells cur t (0, 0))) (hn : cs.length = n * sz)
    (hsrc : ∀ j v, cs[j]? = some v → w.cell? (a.add j) = some v) (hfit : cs.length = cur.size) (h1 : ∀ v ∈ cs, v.oneCell' = true) :
    (Builtin.copy_ #[dT, sT] ty #[.slice (some ⟨g, 0, none⟩) n c1, .slice (some a) n c2]).run P w = .ok (goInt n) (w.setRow g cs.toArray) := by
  have hl := run_loadCells_list (P := P) w a cs hsrc
  have hst := run_storeCells_at P g 0 t cs 0 cur w hg (by omega) h1
  have e : (cur.toList.take (0 + 0) ++ cs ++ cur.toList.drop (0 + 0 + cs.length)).toArray = cs.toArray := by
    rw [hfit]; simp
  rw [e] at hst
  cases hq : P.info? elem with
  | none => simp [hq] at hs
  | some i =>
    have hi : i.size = sz := by simpa [hq] using hs
    rw [hn] at hl
    simp [Builtin.copy_, run_underlying hu, Builtin.lenOf, Builtin.firstCells, sizeOf, typeInfo, hq, hi, hl, hst]
theorem copy_lines (S : Nat → Prop) (ls : List Ln) (a : Option Addr) (c : Nat) (w : World) (g : Nat) (h0 : 0 < ls.length) (hg : w.heap[g]? = some (.cells (madeCells #[.int .u8 0, .slice none 0 0] (ls.length * 2)) 69 (0, 0))) (hS : S g)
    (h : Rd (Ex S g) w (.list (ls.map Ln.fs)) (.slice a ls.length c)) :
    ∃ cs, (Builtin.copy_ #[71, 71] 3 #[.slice (some ⟨g, 0, none⟩) ls.length ls.length, .slice a ls.length c]).run Tryz.prog w = .ok (goInt ls.length) (w.setRow g cs) ∧ Rd S (w.setRow g cs) (.list (ls.map Ln.fs)) (.slice (some ⟨g, 0, none⟩) ls.length ls.length) := by
  obtain ⟨a0, c0, e0, hm, hat⟩ := lines_at h
  obtain ⟨ea, _, rfl⟩ := Value.slice.inj e0
  obtain ⟨b, off, _, _, eb, hSb, hbl, _⟩ := hat 0 h0
  obtain rfl : a = some ⟨b, off, none⟩ := ea.trans eb
  have key : ∀ i (hi : i < ls.length), ∃ a' c', w.cell? ⟨b, off + i * 2, none⟩ = some (.int .u8 (ls[i]).t) ∧ w.cell? ⟨b, off + i * 2 + 1, none⟩ = some (.slice a' (ls[i]).xs.length c') ∧ Rd (Ex S g) w (fl (ls[i]).xs) (.slice a' (ls[i]).xs.length c') := fun i hi => by
    obtain ⟨b', off', a', c', e', _, _, q0, q1, hr⟩ := hat i hi
    obtain ⟨rfl, rfl⟩ : b = b' ∧ off = off' := by rw [← ea] at e'; simpa using e'
    exact ⟨a', c', q0, q1, hr⟩
  have hkey : ∀ k, k < ls.length * 2 → ∃ v, w.cell? ⟨b, off + k, none⟩ = some v ∧ v.oneCell' = true := fun k hk => by
    obtain ⟨a', c', q0, q1, _⟩ := key (k / 2) (by omega)
    rcases Nat.mod_two_eq_zero_or_one k with hr | hr
    · exact ⟨_, by rw [show off + k = off + k / 2 * 2 by omega]; exact q0, rfl⟩
    · exact ⟨_, by rw [show off + k = off + k / 2 * 2 + 1 by omega]; exact q1, rfl⟩
  have hlt : g < w.heap.size := (Array.getElem?_eq_some_iff.1 hg).1
  have hrun := run_copy_wide (P := Tryz.prog) w 71 71 3 69 g ls.length ls.length ⟨b, off, none⟩ c _ 69 ((List.range (ls.length * 2)).map fun k => (w.cell? ⟨b, off + k, none⟩).getD undef) 2 Tryz.underlying71 (by
      obtain ⟨i, hi, _, hz, _⟩ := info_parts info69
      rw [hi]; simp [hz]) hg (by simp) (fun j v hv => by
      obtain ⟨hj, e⟩ := List.getElem?_eq_some_iff.1 hv
      have hj' : j < ls.length * 2 := by simpa using hj
      obtain ⟨u, hu, _⟩ := hkey j hj'
      rw [Addr.add_lit, hu]
      simp [hu] at e
      rw [e]) (by simp [size_madeCells]) (fun v hv => by
      obtain ⟨k, hk, rfl⟩ := List.mem_map.1 hv
      obtain ⟨u, hu, h1⟩ := hkey k (by simpa using hk)
      rw [hu]; exact h1)
  refine ⟨_, hrun, ?_⟩
  have hself : (w.setRow g ((List.range (ls.length * 2)).map fun k => (w.cell? ⟨b, off + k, none⟩).getD undef).toArray).heap[g]? = some (.cells ((List.range (ls.length * 2)).map fun k => (w.cell? ⟨b, off + k, none⟩).getD undef).toArray 69 (0, 0)) := setRow_heap w g _ _ 69 _ hg
  refine Fill.done (E := 69) (sz := 2) (cs := ((List.range (ls.length * 2)).map fun k => (w.cell? ⟨b, off + k, none⟩).getD undef).toArray) ⟨by simp, hself, by simp [Ln.fs], fun i hi j hj => ?_⟩ _ (by omega) (by simp) hS hm
  have hi' : i < ls.length := by simpa using hi
  obtain ⟨a', c', q0, q1, hr⟩ := key i hi'
  have e : (ls.map Ln.fs)[i] = [.atom (.int .u8 (ls[i]).t), fl (ls[i]).xs] := by simp [Ln.fs]
  have hj3 : j < 2 := by rw [e] at hj; exact hj
  have hj2 : j = 0 ∨ j = 1 := by omega
  simp only [e]
  rcases hj2 with rfl | rfl
  · exact ⟨.int .u8 (ls[i]).t, by simp [show i * 2 < ls.length * 2 by omega, q0], .atom _⟩
  · refine ⟨.slice a' (ls[i]).xs.length c', by simp [show i * 2 + 1 < ls.length * 2 by omega, ← Nat.add_assoc, q1], ?_⟩
    exact hr.step (fun k hk hS' => ⟨setRow_other w g k _ hS'.2, hS'⟩) (by simp [World.setRow])
theorem copy_zero (ad : Addr) (a : Option Addr) (c : Nat) (w : World) : (Builtin.copy_ #[71, 71] 3 #[.slice (some ad) 0 0, .slice a 0 c]).run Tryz.prog w = .ok (.int .i64 0) w := by
  obtain ⟨i, hi, _, hz, _⟩ := info_parts info69
  cases a <;> simp [Builtin.copy_, run_underlying Tryz.underlying71, Builtin.lenOf, Builtin.firstCells, sizeOf, typeInfo, hi, storeCells, loadCells, loadCellsFrom, goInt]
theorem c150 (S : Nat → Prop) (ls : List Ln) (t : Int) (a : Option Addr) (c : Nat) (w : World) (hlen : ls.length ≤ 1000000) (hS : ∀ b, w.heap.size ≤ b → S b) (h : Rd S w (.list (ls.map Ln.fs)) (.slice a ls.length c)) :
    Calls Tryz.prog 150 #[.agg #[.slice a ls.length c, .int .u8 t]] w fun e w' => ∃ a' c', e = .returned (.slice a' ls.length c') ∧ Rd S w' (.list (ls.map Ln.fs)) (.slice a' ls.length c') ∧ Below w.heap.size w w' := by
  have hmk : ∀ w, (Instr.makeSlice 71 (.int .i64 (ls.length : Int)) (.int .i64 (ls.length : Int))).run Tryz.prog w = .ok (.slice (some ⟨w.heap.size, 0, none⟩) ls.length ls.length) (w.alloc (.cells (madeCells #[.int .u8 0, .slice none 0 0] (ls.length * 2)) 69)) :=
    mk_any (P := Tryz.prog) 71 69 _ 2 32 Tryz.underlying71 info69 ls.length (by omega) (by omega)
  have HB := Lib.hid (bl_a2 w (.cells #[.slice a ls.length c, .int .u8 t] 73) (.cells (madeCells #[.int .u8 0, .slice none 0 0] (ls.length * 2)) 69))
  rcases Nat.eq_zero_or_pos ls.length with h0 | h0
  · have hz : (Builtin.copy_ #[71, 71] 3 #[.slice (some ⟨w.heap.size + 1, 0, none⟩) ls.length ls.length, .slice a ls.length c]).run Tryz.prog ((w.alloc (.cells #[.slice a ls.length c, .int .u8 t] 73)).alloc (.cells (madeCells #[.int .u8 0, .slice none 0 0] (ls.length * 2)) 69)) = .ok (goInt ls.length) ((w.alloc (.cells #[.slice a ls.length c, .int .u8 t] 73)).alloc (.cells (madeCells #[.int .u8 0, .slice none 0 0] (ls.length * 2)) 69)) := by
      rw [h0]; exact copy_zero _ _ _ _
    have hd := (Fill.start (S := S) (sz := 2) (n := ls.length) (by simp [size_madeCells]) (Lb.new2 w (.cells #[.slice a ls.length c, .int .u8 t] 73) (madeCells #[.int .u8 0, .slice none 0 0] (ls.length * 2)) 69)).done ls.length (by omega) (by simp [h0]) (hS _ (by omega)) (by omega)
    have Hd : Hid (Rd S ((w.alloc (.cells #[.slice a ls.length c, .int .u8 t] 73)).alloc (.cells (madeCells #[.int .u8 0, .slice none 0 0] (ls.length * 2)) 69)) (.list (ls.map Ln.fs)) (.slice (some ⟨w.heap.size + 1, 0, none⟩) ls.length ls.length)) := Lib.hid (by
      have e : ls.map Ln.fs = [] := by rw [List.eq_nil_of_length_eq_zero h0]; rfl
      rw [e]; exact hd)
    clear h hd h0
    go_enter Tryz.func150, Tryz.ntmps150
    go_wp2_with fail
    go_ret
    exact ⟨_, _, rfl, Hd.out, HB.out⟩
  · obtain ⟨cs, hcp, hr3⟩ := copy_lines S ls a c _ (w.heap.size + 1) h0 (Lb.new2 w (.cells #[.slice a ls.length c, .int .u8 t] 73) (madeCells #[.int .u8 0, .slice none 0 0] (ls.length * 2)) 69) (hS _ (by omega)) (((h.ex (L := w.heap.size + 1) (by omega)).alloc (.cells #[.slice a ls.length c, .int .u8 t] 73)).alloc (.cells (madeCells #[.int .u8 0, .slice none 0 0] (ls.length * 2)) 69))
    have Hr3 := Lib.hid hr3
    clear hr3 h
    go_enter Tryz.func150, Tryz.ntmps150
    go_wp2_with fail
    go_ret
    exact ⟨_, _, rfl, Hr3.out, below_setRow HB.out (by omega) _⟩
end Go.Proofs.YtahnhhkbdgaidaaGreatDoor
namespace Go.Proofs.YtahnhhkbdgaidaaGreatDoor
open Go.RowKit
set_option maxRecDepth 100000
theorem c152 (t : Int) (a : Option Addr) (n c : Nat) (w : World) : Calls Tryz.prog 152 #[.agg #[.slice a n c, .int .u8 t]] w fun e w' => e = .returned (.int .i64 (n : Int)) ∧ Below w.heap.size w w' := by
  go_enter Tryz.func152, Tryz.ntmps152
  go_wp2
  go_ret
  exact ⟨rfl, by repeat (with_reducible first | exact Below.refl _ _ | refine Below.alloc ?_ (by simp) _)⟩
set_option maxHeartbeats 1000000 in
theorem c153 (S : Nat → Prop) (ls : List Pt) (j : Nat) (hj : j < ls.length) (t : Int) (a : Option Addr) (c : Nat) (w : World) (h : Rd S w (.list (ls.map Pt.fs)) (.slice a ls.length c)) :
    Calls Tryz.prog 153 #[.agg #[.slice a ls.length c, .int .u8 t], .int .i64 j] w fun e w' => e = .returned (.agg (ls[j]).cells) ∧ Below w.heap.size w w' := by
  have hsf := st_float
  obtain ⟨a0, c0, e0, hm, hat⟩ := pts_at h
  obtain ⟨rfl, _, rfl⟩ := Value.slice.inj e0
  obtain ⟨b, off, rfl, hSb, hb, q0, q1, q2, q3, q4, q5⟩ := hat j hj
  clear hat e0 h
  simp only [Pt.cells]
  go_enter Tryz.func153, Tryz.ntmps153
  go_wp2
  refine bodyPost_ret (v := .agg #[.float .f64 (ls[j]).c.x, .float .f64 (ls[j]).c.y, .float .f64 (ls[j]).c.z, .float .f64 (ls[j]).c.m, .int .u8 (ls[j]).c.t, .bool (ls[j]).full]) (by simp [results, Tryz.results153, go_sem]) rfl ⟨rfl, ?_⟩
  repeat (with_reducible first | refine Below.setCell ?_ (by simp) _ | exact ((Below.refl _ _).alloc (Nat.le_refl _) _).alloc (by simp) _)
end Go.Proofs.YtahnhhkbdgaidaaGreatDoor
namespace Go.Proofs.YtahnhhkbdgaidaaGreatDoor
open Go.RowKit
set_option maxRecDepth 100000
/-- A datum under way: its own block holds the parts so far; the row of parts lies from block B on. -/
structure Kl (w0 : World) (S : Nat → Prop) (g B : Nat) (k t : Int) (A : Array Value) (TA : TypeId) (f : F) (fv : Value) (es : List (List F)) (v : Value) (w : World) : Prop where
  lb0 : Lb w w0.heap.size A TA
  lb1 : Lb w (w0.heap.size + 1) #[.int .i64 0, .int .i64 0, .slice none 0 0, .slice none 0 0] 25
  lbg : Lb w g #[.int .i64 k, .int .i64 t, .slice none 0 0, v] 25
  own : Row (Ex (Ex S (w0.heap.size + 1)) g) B w 25 4 v es
  rd : Rd (Old (Ex (Ex S (w0.heap.size + 1)) g) B) w f fv
  bl : Below w0.heap.size w0 w
  ge : w0.heap.size + 2 ≤ g
  gB : g + 1 ≤ B
  lt : B ≤ w.heap.size
theorem Kl.step {w0 : World} {S : Nat → Prop} {g B : Nat} {k t : Int} {A : Array Value} {TA : TypeId} {f : F} {fv : Value} {es : List (List F)} {v : Value} {w w' : World} (h : Kl w0 S g B k t A TA f fv es v w) (hb : Below w.heap.size w w') : Kl w0 S g B k t A TA f fv es v w' :=
  ⟨h.lb0.blw hb, h.lb1.blw hb, h.lbg.blw hb, h.own.step hb, h.rd.blw hb, h.bl.trans (hb.mono (by have := h.ge; have := h.gB; have := h.lt; omega)), h.ge, h.gB, Nat.le_trans h.lt hb.size⟩
theorem Kl.app {w0 : World} {S : Nat → Prop} {g B : Nat} {k t : Int} {A : Array Value} {TA : TypeId} {f : F} {fv : Value} {es : List (List F)} {v : Value} {w : World} (h : Kl w0 S g B k t A TA f fv es v w) (k' d' : Int) (f1 f2 : F) (a1 a2 : Option Addr) (n1 n2 c1 c2 : Nat)
    (h1 : Rd (Sm (Ex (Ex S (w0.heap.size + 1)) g) v) w f1 (.slice a1 n1 c1)) (h2 : Rd (Sm (Ex (Ex S (w0.heap.size + 1)) g) v) w f2 (.slice a2 n2 c2)) (hlen : es.length ≤ 1000000000) :
    ∃ a' c' w', (Builtin.append_ #[23, 23] 23 #[v, .slice (some ⟨w.heap.size, 0, none⟩) 1 1]).run Tryz.prog (w.alloc (.cells #[.int .i64 k', .int .i64 d', .slice a1 n1 c1, .slice a2 n2 c2] 25)) = .ok (.slice a' (es.length + 1) c') w' ∧ Lb w' g #[.int .i64 k, .int .i64 t, .slice none 0 0, v] 25 ∧
      Kl w0 S g B k t A TA f fv (es ++ [[.atom (.int .i64 k'), .atom (.int .i64 d'), f1, f2]]) (.slice a' (es.length + 1) c') (w'.setCell ⟨g, 3, none⟩ (.slice a' (es.length + 1) c')) ∧ w.heap.size ≤ w'.heap.size := by
  have hge := h.ge; have hlt := h.lt; have hgB := h.gB
  obtain ⟨v', w', hrun, ⟨a', c', rfl⟩, hR, hg⟩ := app_one (P := Tryz.prog) 23 25 4 64 _ Tryz.underlying23 info25 rfl (by omega) (by omega) h.own [.atom (.int .i64 k'), .atom (.int .i64 d'), f1, f2] rfl #[.int .i64 k', .int .i64 d', .slice a1 n1 c1, .slice a2 n2 c2] rfl (by simp [Value.oneCell']) (by
    intro jj hjj
    have hjc : jj = 0 ∨ jj = 1 ∨ jj = 2 ∨ jj = 3 := by have : jj < 4 := hjj; omega
    rcases hjc with rfl | rfl | rfl | rfl
    · exact ⟨_, rfl, .atom _⟩
    · exact ⟨_, rfl, .atom _⟩
    · exact ⟨_, rfl, h1⟩
    · exact ⟨_, rfl, h2⟩) hlen (by omega)
  have hown : ∀ q, v.ownBlock = some q → B ≤ q ∧ q < w.heap.size := h.own.lt
  have hne : ∀ b, b < B → some b ≠ v.ownBlock := fun b hb e => by have := (hown _ e.symm).1; omega
  have l0 := h.lb0.grown hg (hne _ (by omega))
  have l1 := h.lb1.grown hg (hne _ (by omega))
  have lg := h.lbg.grown hg (hne _ (by omega))
  have hr : Rd (Old (Ex (Ex S (w0.heap.size + 1)) g) B) w' f fv := h.rd.grown hg (fun b hb => hne b hb.2)
  have hB : Below w0.heap.size w0 w' := h.bl.grown hg (by omega) (fun q hq => by have := (hown q hq).1; omega)
  refine ⟨a', c', w', hrun, lg, ⟨l0.far (by simp; omega) _, l1.far (by simp; omega) _, ?_, hR.far (by simp; omega) (fun hs => hs.2 rfl) _, hr.setCell (fun hb => hb.1.2 rfl) _, hB.setCell (by simp; omega) _, hge, hgB, ?_⟩, hg.size⟩
  · have := lg.set 3 (.slice a' (es.length + 1) c')
    simpa using this
  · have := hg.size
    simp [World.setCell]; omega
end Go.Proofs.YtahnhhkbdgaidaaGreatDoor
