/-
  Geometries of any kind: their type of coordinates; under another type.
-/
import Derived.Test.YtahnhhkbdgaidaaGreatDoorBt
namespace Go.Proofs.YtahnhhkbdgaidaaGreatDoor
open Go.RowKit
theorem c177_1 (x y z m : Nat) (t : Int) (f : Bool) (b : Nat) (w : World) (hb : b < w.heap.size) (q0 : w.cell? ⟨b, 0, none⟩ = some (.float .f64 x)) (q1 : w.cell? ⟨b, 1, none⟩ = some (.float .f64 y)) (q2 : w.cell? ⟨b, 2, none⟩ = some (.float .f64 z)) (q3 : w.cell? ⟨b, 3, none⟩ = some (.float .f64 m)) (q4 : w.cell? ⟨b, 4, none⟩ = some (.int .u8 t)) (q5 : w.cell? ⟨b, 5, none⟩ = some (.bool f)) : Calls Tryz.prog 177 #[.agg #[.int .i64 1, .iface 168 (.pointer (some ⟨b, 0, none⟩))]] w fun e w' => e = .returned (.int .u8 t) ∧ Below w.heap.size w w' := by
  have Wb := bl_a1 w (.cells #[.int .i64 1, .iface 168 (.pointer (some ⟨b, 0, none⟩))] 47)
  have Q0 := (Wb.cell (p := ⟨b, 0, none⟩) hb).trans q0
  have Q1 := (Wb.cell (p := ⟨b, 1, none⟩) hb).trans q1
  have Q2 := (Wb.cell (p := ⟨b, 2, none⟩) hb).trans q2
  have Q3 := (Wb.cell (p := ⟨b, 3, none⟩) hb).trans q3
  have Q4 := (Wb.cell (p := ⟨b, 4, none⟩) hb).trans q4
  have Q5 := (Wb.cell (p := ⟨b, 5, none⟩) hb).trans q5
  go_enter Tryz.func177, Tryz.ntmps177
  go_wp2_with fail
  refine (d67 x y z m t f b _ (by simp <;> omega) Q0 Q1 Q2 Q3 Q4 Q5).mono ?_
  rintro e w1 ⟨rfl, hb1⟩
  have HB1 := Lib.hid (Wb.trans (hb1.mono (by simp)))
  clear Wb hb1 Q0 Q1 Q2 Q3 Q4 Q5 q0 q1 q2 q3 q4 q5
  go_wp2_with fail
  refine (c142 _ _ _ _ _ _ _ ).mono ?_
  rintro e w2 ⟨rfl, hb2⟩
  have HB2 := Lib.hid (HB1.out.trans (hb2.mono HB1.out.size))
  clear hb2
  go_wp2_with fail
  go_ret
  exact ⟨rfl, HB2.out⟩
theorem c177_2 (t : Int) (a : Option Addr) (n c : Nat) (b : Nat) (w : World) (hb : b < w.heap.size) (q0 : w.cell? ⟨b, 0, none⟩ = some (.int .u8 t)) (q1 : w.cell? ⟨b, 1, none⟩ = some (.slice a n c)) : Calls Tryz.prog 177 #[.agg #[.int .i64 2, .iface 169 (.pointer (some ⟨b, 0, none⟩))]] w fun e w' => e = .returned (.int .u8 t) ∧ Below w.heap.size w w' := by
  have Wb := bl_a1 w (.cells #[.int .i64 2, .iface 169 (.pointer (some ⟨b, 0, none⟩))] 47)
  have Q0 := (Wb.cell (p := ⟨b, 0, none⟩) hb).trans q0
  have Q1 := (Wb.cell (p := ⟨b, 1, none⟩) hb).trans q1
  go_enter Tryz.func177, Tryz.ntmps177
  go_wp2_with fail
  refine (d69 t a n c b _ (by simp <;> omega) Q0 Q1).mono ?_
  rintro e w1 ⟨rfl, hb1⟩
  have HB1 := Lib.hid (Wb.trans (hb1.mono (by simp)))
  clear Wb hb1 Q0 Q1 q0 q1
  go_wp2_with fail
  refine (c139 _ _ _ _ _ ).mono ?_
  rintro e w2 ⟨rfl, hb2⟩
  have HB2 := Lib.hid (HB1.out.trans (hb2.mono HB1.out.size))
  clear hb2
  go_wp2_with fail
  go_ret
  exact ⟨rfl, HB2.out⟩
theorem c177_3 (t : Int) (a : Option Addr) (n c : Nat) (b : Nat) (w : World) (hb : b < w.heap.size) (q0 : w.cell? ⟨b, 0, none⟩ = some (.slice a n c)) (q1 : w.cell? ⟨b, 1, none⟩ = some (.int .u8 t)) : Calls Tryz.prog 177 #[.agg #[.int .i64 3, .iface 170 (.pointer (some ⟨b, 0, none⟩))]] w fun e w' => e = .returned (.int .u8 t) ∧ Below w.heap.size w w' := by
  have Wb := bl_a1 w (.cells #[.int .i64 3, .iface 170 (.pointer (some ⟨b, 0, none⟩))] 47)
  have Q0 := (Wb.cell (p := ⟨b, 0, none⟩) hb).trans q0
  have Q1 := (Wb.cell (p := ⟨b, 1, none⟩) hb).trans q1
  go_enter Tryz.func177, Tryz.ntmps177
  go_wp2_with fail
  refine (d71 t a n c b _ (by simp <;> omega) Q0 Q1).mono ?_
  rintro e w1 ⟨rfl, hb1⟩
  have HB1 := Lib.hid (Wb.trans (hb1.mono (by simp)))
  clear Wb hb1 Q0 Q1 q0 q1
  go_wp2_with fail
  refine (c145 _ _ _ _ _ ).mono ?_
  rintro e w2 ⟨rfl, hb2⟩
  have HB2 := Lib.hid (HB1.out.trans (hb2.mono HB1.out.size))
  clear hb2
  go_wp2_with fail
  go_ret
  exact ⟨rfl, HB2.out⟩
theorem c177_4 (t : Int) (a : Option Addr) (n c : Nat) (b : Nat) (w : World) (hb : b < w.heap.size) (q0 : w.cell? ⟨b, 0, none⟩ = some (.slice a n c)) (q1 : w.cell? ⟨b, 1, none⟩ = some (.int .u8 t)) : Calls Tryz.prog 177 #[.agg #[.int .i64 4, .iface 171 (.pointer (some ⟨b, 0, none⟩))]] w fun e w' => e = .returned (.int .u8 t) ∧ Below w.heap.size w w' := by
  have Wb := bl_a1 w (.cells #[.int .i64 4, .iface 171 (.pointer (some ⟨b, 0, none⟩))] 47)
  have Q0 := (Wb.cell (p := ⟨b, 0, none⟩) hb).trans q0
  have Q1 := (Wb.cell (p := ⟨b, 1, none⟩) hb).trans q1
  go_enter Tryz.func177, Tryz.ntmps177
  go_wp2_with fail
  refine (d73 t a n c b _ (by simp <;> omega) Q0 Q1).mono ?_
  rintro e w1 ⟨rfl, hb1⟩
  have HB1 := Lib.hid (Wb.trans (hb1.mono (by simp)))
  clear Wb hb1 Q0 Q1 q0 q1
  go_wp2_with fail
  refine (c151 _ _ _ _ _ ).mono ?_
  rintro e w2 ⟨rfl, hb2⟩
  have HB2 := Lib.hid (HB1.out.trans (hb2.mono HB1.out.size))
  clear hb2
  go_wp2_with fail
  go_ret
  exact ⟨rfl, HB2.out⟩
theorem c177_5 (t : Int) (a : Option Addr) (n c : Nat) (b : Nat) (w : World) (hb : b < w.heap.size) (q0 : w.cell? ⟨b, 0, none⟩ = some (.slice a n c)) (q1 : w.cell? ⟨b, 1, none⟩ = some (.int .u8 t)) : Calls Tryz.prog 177 #[.agg #[.int .i64 5, .iface 172 (.pointer (some ⟨b, 0, none⟩))]] w fun e w' => e = .returned (.int .u8 t) ∧ Below w.heap.size w w' := by
  have Wb := bl_a1 w (.cells #[.int .i64 5, .iface 172 (.pointer (some ⟨b, 0, none⟩))] 47)
  have Q0 := (Wb.cell (p := ⟨b, 0, none⟩) hb).trans q0
  have Q1 := (Wb.cell (p := ⟨b, 1, none⟩) hb).trans q1
  go_enter Tryz.func177, Tryz.ntmps177
  go_wp2_with fail
  refine (d75 t a n c b _ (by simp <;> omega) Q0 Q1).mono ?_
  rintro e w1 ⟨rfl, hb1⟩
  have HB1 := Lib.hid (Wb.trans (hb1.mono (by simp)))
  clear Wb hb1 Q0 Q1 q0 q1
  go_wp2_with fail
  refine (c154 _ _ _ _ _ ).mono ?_
  rintro e w2 ⟨rfl, hb2⟩
  have HB2 := Lib.hid (HB1.out.trans (hb2.mono HB1.out.size))
  clear hb2
  go_wp2_with fail
  go_ret
  exact ⟨rfl, HB2.out⟩
theorem c177_6 (t : Int) (a : Option Addr) (n c : Nat) (b : Nat) (w : World) (hb : b < w.heap.size) (q0 : w.cell? ⟨b, 0, none⟩ = some (.slice a n c)) (q1 : w.cell? ⟨b, 1, none⟩ = some (.int .u8 t)) : Calls Tryz.prog 177 #[.agg #[.int .i64 6, .iface 173 (.pointer (some ⟨b, 0, none⟩))]] w fun e w' => e = .returned (.int .u8 t) ∧ Below w.heap.size w w' := by
  have Wb := bl_a1 w (.cells #[.int .i64 6, .iface 173 (.pointer (some ⟨b, 0, none⟩))] 47)
  have Q0 := (Wb.cell (p := ⟨b, 0, none⟩) hb).trans q0
  have Q1 := (Wb.cell (p := ⟨b, 1, none⟩) hb).trans q1
  go_enter Tryz.func177, Tryz.ntmps177
  go_wp2_with fail
  refine (d77 t a n c b _ (by simp <;> omega) Q0 Q1).mono ?_
  rintro e w1 ⟨rfl, hb1⟩
  have HB1 := Lib.hid (Wb.trans (hb1.mono (by simp)))
  clear Wb hb1 Q0 Q1 q0 q1
  go_wp2_with fail
  refine (c155 _ _ _ _ _ ).mono ?_
  rintro e w2 ⟨rfl, hb2⟩
  have HB2 := Lib.hid (HB1.out.trans (hb2.mono HB1.out.size))
  clear hb2
  go_wp2_with fail
  go_ret
  exact ⟨rfl, HB2.out⟩
theorem c177_0 (t : Int) (a : Option Addr) (n c : Nat) (b : Nat) (w : World) (hb : b < w.heap.size) (q0 : w.cell? ⟨b, 0, none⟩ = some (.slice a n c)) (q1 : w.cell? ⟨b, 1, none⟩ = some (.int .u8 t)) : Calls Tryz.prog 177 #[.agg #[.int .i64 0, .iface 176 (.pointer (some ⟨b, 0, none⟩))]] w fun e w' => e = .returned (.int .u8 t) ∧ Below w.heap.size w w' := by
  have Wb := bl_a1 w (.cells #[.int .i64 0, .iface 176 (.pointer (some ⟨b, 0, none⟩))] 47)
  have Q0 := (Wb.cell (p := ⟨b, 0, none⟩) hb).trans q0
  have Q1 := (Wb.cell (p := ⟨b, 1, none⟩) hb).trans q1
  go_enter Tryz.func177, Tryz.ntmps177
  go_wp2_with fail
  refine (d65 t a n c b _ (by simp <;> omega) Q0 Q1).mono ?_
  rintro e w1 ⟨rfl, hb1⟩
  have HB1 := Lib.hid (Wb.trans (hb1.mono (by simp)))
  clear Wb hb1 Q0 Q1 q0 q1
  go_wp2_with fail
  refine (c156 _ _ _ _ _ ).mono ?_
  rintro e w2 ⟨rfl, hb2⟩
  have HB2 := Lib.hid (HB1.out.trans (hb2.mono HB1.out.size))
  clear hb2
  go_wp2_with fail
  go_ret
  exact ⟨rfl, HB2.out⟩

/-- What a box holds, by kind. -/
theorem box_cell {S : Nat → Prop} {w : World} {t : TypeId} {fs : List F} {b : Nat} (h : Rd S w (.box t fs) (.iface t (.pointer (some ⟨b, 0, none⟩)))) : b < w.heap.size ∧ ∀ j (hj : j < fs.length), ∃ x, w.cell? ⟨b, j, none⟩ = some x ∧ Rd S w fs[j] x := by
  obtain ⟨b', cell, e, _, hb, hc, hr⟩ := Rd.box_inv h
  simp only [Value.iface.injEq, Value.pointer.injEq, Option.some.injEq, Addr.mk.injEq, and_true, true_and] at e
  subst e
  exact ⟨hb, fun j hj => ⟨_, hc j hj, hr j hj⟩⟩
theorem box_list {S : Nat → Prop} {w : World} {t : TypeId} {es : List (List F)} {v : Value} {b : Nat} (h : Rd S w (.box t [.list es, .atom v]) (.iface t (.pointer (some ⟨b, 0, none⟩)))) :
    b < w.heap.size ∧ ∃ a c, w.cell? ⟨b, 0, none⟩ = some (.slice a es.length c) ∧ w.cell? ⟨b, 1, none⟩ = some v ∧ Rd S w (.list es) (.slice a es.length c) := by
  obtain ⟨hb, hc⟩ := box_cell h
  obtain ⟨x, c0, r0⟩ := hc 0 (by simp)
  obtain ⟨y, c1, r1⟩ := hc 1 (by simp)
  have r0 : Rd S w (.list es) x := r0
  have r1 : Rd S w (.atom v) y := r1
  obtain ⟨a, c, rfl⟩ := list_shape r0
  rw [r1.atom_inv] at c1
  exact ⟨hb, a, c, c0, c1, r0⟩
theorem box_ln {S : Nat → Prop} {w : World} {t : TypeId} {xs : List Nat} {v : Value} {b : Nat} (h : Rd S w (.box t [.atom v, fl xs]) (.iface t (.pointer (some ⟨b, 0, none⟩)))) :
    b < w.heap.size ∧ ∃ a c, w.cell? ⟨b, 0, none⟩ = some v ∧ w.cell? ⟨b, 1, none⟩ = some (.slice a xs.length c) ∧ Rd S w (fl xs) (.slice a xs.length c) := by
  obtain ⟨hb, hc⟩ := box_cell h
  obtain ⟨x, c0, r0⟩ := hc 0 (by simp)
  obtain ⟨y, c1, r1⟩ := hc 1 (by simp)
  have r0 : Rd S w (.atom v) x := r0
  have r1 : Rd S w (fl xs) y := r1
  obtain ⟨a, c, rfl⟩ := fl_shape r1
  rw [r0.atom_inv] at c0
  exact ⟨hb, a, c, c0, c1, r1⟩
theorem box_pt {S : Nat → Prop} {w : World} {t : TypeId} {p : Pt} {b : Nat} (h : Rd S w (.box t p.fs) (.iface t (.pointer (some ⟨b, 0, none⟩)))) :
    b < w.heap.size ∧ w.cell? ⟨b, 0, none⟩ = some (.float .f64 p.c.x) ∧ w.cell? ⟨b, 1, none⟩ = some (.float .f64 p.c.y) ∧ w.cell? ⟨b, 2, none⟩ = some (.float .f64 p.c.z) ∧ w.cell? ⟨b, 3, none⟩ = some (.float .f64 p.c.m) ∧ w.cell? ⟨b, 4, none⟩ = some (.int .u8 p.c.t) ∧ w.cell? ⟨b, 5, none⟩ = some (.bool p.full) := by
  obtain ⟨hb, hc⟩ := box_cell h
  have key : ∀ k v (hk : p.fs[k]? = some (.atom v)), w.cell? ⟨b, k, none⟩ = some v := fun k v hk => by
    obtain ⟨hl, e⟩ := List.getElem?_eq_some_iff.1 hk
    obtain ⟨x, ck, rk⟩ := hc k hl
    rw [e] at rk
    rw [ck, rk.atom_inv]
  exact ⟨hb, key 0 _ rfl, key 1 _ rfl, key 2 _ rfl, key 3 _ rfl, key 4 _ rfl, key 5 _ rfl⟩

theorem c177 (S : Nat → Prop) (g : Geo) (v : Value) (w : World) (h : GeoV S w g v) : Calls Tryz.prog 177 #[.agg #[.int .i64 g.kind, v]] w fun e w' => e = .returned (.int .u8 g.t) ∧ Below w.heap.size w w' := by
  obtain ⟨b, rfl⟩ := h.shape
  cases g with
  | pt p =>
    obtain ⟨hb, q0, q1, q2, q3, q4, q5⟩ := box_pt h
    exact c177_1 _ _ _ _ _ _ b w hb q0 q1 q2 q3 q4 q5
  | ln l =>
    obtain ⟨hb, a, c, q0, q1, _⟩ := box_ln h
    exact c177_2 _ _ _ _ b w hb q0 q1
  | pg p =>
    obtain ⟨hb, a, c, q0, q1, _⟩ := box_list h
    exact c177_3 _ _ _ _ b w hb q0 q1
  | mp ps t =>
    obtain ⟨hb, a, c, q0, q1, _⟩ := box_list (h : Rd S w (.box 171 [.list (ps.map Pt.fs), .atom (.int .u8 t)]) _)
    exact c177_4 _ _ _ _ b w hb q0 q1
  | ml ls t =>
    obtain ⟨hb, a, c, q0, q1, _⟩ := box_list (h : Rd S w (.box 172 [.list (ls.map Ln.fs), .atom (.int .u8 t)]) _)
    exact c177_5 _ _ _ _ b w hb q0 q1
  | mg ps t =>
    obtain ⟨hb, a, c, q0, q1, _⟩ := box_list (h : Rd S w (.box 173 [.list (ps.map Pg.fs), .atom (.int .u8 t)]) _)
    exact c177_6 _ _ _ _ b w hb q0 q1
  | gc gs t =>
    obtain ⟨hb, a, c, q0, q1, _⟩ := box_list (h : Rd S w (.box 176 [.list (Geo.fsL gs), .atom (.int .u8 t)]) _)
    exact c177_0 _ _ _ _ b w hb q0 q1

theorem c48 : ∀ (m : Nat) (g : Geo) (t' : Int) (S : Nat → Prop) (w : World) (v : Value), g.size ≤ m → g.ok → 0 ≤ t' → t' ≤ 3 → (∀ b, w.heap.size ≤ b → S b) → GeoV S w g v →
    Calls Tryz.prog 48 #[.agg #[.int .i64 g.kind, v], .int .u8 t'] w fun e w' => ∃ b', e = .returned (.agg #[.int .i64 g.kind, .iface g.tid (.pointer (some ⟨b', 0, none⟩))]) ∧ GeoV S w' (g.force t') (.iface g.tid (.pointer (some ⟨b', 0, none⟩))) ∧ Below w.heap.size w w' := by
  intro m
  induction m with
  | zero => intro g _ _ _ _ h; cases g <;> simp [Geo.size] at h
  | succ m ih =>
    intro g t' S w v hm hok g0 g1 hS h
    obtain ⟨b, rfl⟩ := h.shape
    cases g with
    | pt p =>
      obtain ⟨hb, q0, q1, q2, q3, q4, q5⟩ := box_pt h
      exact c48_1 S _ _ _ _ _ _ _ b w hok.1 hok.2 g0 g1 hS hb q0 q1 q2 q3 q4 q5
    | ln l =>
      obtain ⟨hb, a, c, q0, q1, hr⟩ := box_ln h
      exact c48_2 S l.xs (l.force t').xs l.t t' a l.xs.length c (l.force t').xs.length b w hS hb q0 q1 hr (fun S w hS h => c115 S l t' a c w hok g0 g1 hS h)
    | pg p =>
      obtain ⟨hb, a, c, q0, q1, hr⟩ := box_list h
      have hl : (p.rings.map Ln.fs).length = p.rings.length := by simp
      rw [hl] at q0 hr
      exact c48_3 S (p.rings.map Ln.fs) ((p.rings.map (·.force t')).map Ln.fs) p.t t' a p.rings.length c b w hS hb q0 q1 hr (fun S w hS h => c91 S p.rings p.t t' a c w hok.1 g0 g1 hok.2.1 hS h)
    | mp ps t =>
      obtain ⟨hb, a, c, q0, q1, hr⟩ := box_list (h : Rd S w (.box 171 [.list (ps.map Pt.fs), .atom (.int .u8 t)]) _)
      have hl : (ps.map Pt.fs).length = ps.length := by simp
      rw [hl] at q0 hr
      exact c48_4 S (ps.map Pt.fs) ((ps.map (·.force t')).map Pt.fs) t t' a ps.length c b w hS hb q0 q1 hr (fun S w hS h => c95 S ps t t' a c w hok.1 g0 g1 hok.2.1 hS h)
    | ml ls t =>
      obtain ⟨hb, a, c, q0, q1, hr⟩ := box_list (h : Rd S w (.box 172 [.list (ls.map Ln.fs), .atom (.int .u8 t)]) _)
      have hl : (ls.map Ln.fs).length = ls.length := by simp
      rw [hl] at q0 hr
      exact c48_5 S (ls.map Ln.fs) ((ls.map (·.force t')).map Ln.fs) t t' a ls.length c b w hS hb q0 q1 hr (fun S w hS h => c98 S ls t t' a c w hok.1 g0 g1 hok.2.1 hS h)
    | mg ps t =>
      obtain ⟨hb, a, c, q0, q1, hr⟩ := box_list (h : Rd S w (.box 173 [.list (ps.map Pg.fs), .atom (.int .u8 t)]) _)
      have hl : (ps.map Pg.fs).length = ps.length := by simp
      rw [hl] at q0 hr
      exact c48_6 S (ps.map Pg.fs) ((ps.map (·.force t')).map Pg.fs) t t' a ps.length c b w hS hb q0 q1 hr (fun S w hS h => c101 S ps t t' a c w hok.1 g0 g1 hok.2.1 hS h)
    | gc gs t =>
      have h' : Rd S w (.box 176 [.list (gs.map Geo.fs), .atom (.int .u8 t)]) (.iface 176 (.pointer (some ⟨b, 0, none⟩))) := by rw [← Geo.fsL_map]; exact h
      obtain ⟨hb, a, c, q0, q1, hr⟩ := box_list h'
      have hl : (gs.map Geo.fs).length = gs.length := by simp
      rw [hl] at q0 hr
      have IH : ∀ (j : Nat) (hj : j < gs.length) (S : Nat → Prop) (w : World) (v : Value), (∀ b, w.heap.size ≤ b → S b) → GeoV S w gs[j] v → _ := fun j hj S w v hS h =>
        ih gs[j] t' S w v (by have := Geo.size_kid gs j hj; simp only [Geo.size] at hm; omega) (Geo.okL_mem hok.1 _ (List.getElem_mem hj)) g0 g1 hS h
      have := c48_0 S (gs.map Geo.fs) ((gs.map (·.force t')).map Geo.fs) t t' a gs.length c b w hS hb q0 q1 hr (fun S w hS h => c113 S gs t t' a c w hok.1 IH g0 g1 hok.2.1 hS h)
      refine this.mono ?_
      rintro e w' ⟨b', he, hr', hB⟩
      refine ⟨b', he, ?_, hB⟩
      show Rd S w' (.box 176 [.list (Geo.fsL (Geo.forceL gs t')), .atom (.int .u8 t')]) _
      rw [Geo.fsL_map, Geo.forceL_map]
      exact hr'
end Go.Proofs.YtahnhhkbdgaidaaGreatDoor
