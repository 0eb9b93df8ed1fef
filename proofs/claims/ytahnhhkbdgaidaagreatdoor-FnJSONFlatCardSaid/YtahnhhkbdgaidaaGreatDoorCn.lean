/-
  Texts of geometries as the program writes them.
-/
import Derived.Test.YtahnhhkbdgaidaaGreatDoorCm
namespace Go.Proofs.YtahnhhkbdgaidaaGreatDoor
open Go.RowKit
set_option maxRecDepth 100000
set_option maxHeartbeats 1000000 in
theorem c128 (tab : Nat → Int) (f : Nat → List UInt8) (hF : Prints tab f) (B : Nat) (bs : List UInt8) (v : Value) (x y z m : Nat) (t : Int) (full : Bool) (w : World) (hT : Tabs tab w) (hB6 : 6 < B) (hb : Bf B w v.ownBlock v bs w) (hlen : bs.length + (nameB 1 t (ptB f ⟨⟨x, y, z, m, t⟩, full⟩)).length ≤ 70000000000000) (h0 : 0 ≤ t) (h1 : t ≤ 3) :
    Calls Tryz.prog 128 #[.agg #[.float .f64 x, .float .f64 y, .float .f64 z, .float .f64 m, .int .u8 t, .bool full], v] w fun e w' => ∃ v', e = .returned v' ∧ Bf B w v.ownBlock v' (bs ++ nameB 1 t (ptB f ⟨⟨x, y, z, m, t⟩, full⟩)) w' := by
  have hnl : (kindName 1).length + (hdrB t).length + (ptB f ⟨⟨x, y, z, m, t⟩, full⟩).length ≤ (nameB 1 t (ptB f ⟨⟨x, y, z, m, t⟩, full⟩)).length := by
    unfold nameB; simp only [List.length_append]; omega
  have hfin := tailB_name bs 1 t (ptB f ⟨⟨x, y, z, m, t⟩, full⟩) h0 h1
  generalize hBB : ptB f ⟨⟨x, y, z, m, t⟩, full⟩ = BB at *
  have hX0 : Hid ((bs ++ kindName 1 ++ hdrB t).length + BB.length ≤ 70000000000000) := Lib.hid (by simp only [List.length_append]; omega)
  have hbW := hb.alloc (.cells #[.float .f64 x, .float .f64 y, .float .f64 z, .float .f64 m, .int .u8 t, .bool full] 63)
  have hTW := hT.blw (bl_a1 w (.cells #[.float .f64 x, .float .f64 y, .float .f64 z, .float .f64 m, .int .u8 t, .bool full] 63))
  have hLW := Lb.new w #[.float .f64 x, .float .f64 y, .float .f64 z, .float .f64 m, .int .u8 t, .bool full] 63
  have hne : Hid (some w.heap.size ≠ v.ownBlock) := Lib.hid hb.fresh
  have hr6 : Hid (∀ j, v.ownBlock = some j → 6 < j) := Lib.hid fun j hj => by have := (hb.blk j hj).1; omega
  have hlen178 : bs.length ≤ 100000000000000 := by omega
  have Hb0 := Lib.hid hbW.here
  have HW := Lib.hid hbW
  have Hlb : Hid (∀ (X : List UInt8) (v' : Value) (w' : World), Bf B (w.alloc (.cells #[.float .f64 x, .float .f64 y, .float .f64 z, .float .f64 m, .int .u8 t, .bool full] 63)) v.ownBlock v' X w' → Lb w' w.heap.size #[.float .f64 x, .float .f64 y, .float .f64 z, .float .f64 m, .int .u8 t, .bool full] 63) := Lib.hid fun X v' w' hx => hx.lb hLW hne.out
  have H178 : Hid (∀ w', Bf B (w.alloc (.cells #[.float .f64 x, .float .f64 y, .float .f64 z, .float .f64 m, .int .u8 t, .bool full] 63)) v.ownBlock v bs w' → Calls Tryz.prog 178 #[v, .string ⟨#[80, 79, 73, 78, 84]⟩, .int .u8 t] w' fun e w2 => ∃ v2, e = .returned v2 ∧ Bf B (w.alloc (.cells #[.float .f64 x, .float .f64 y, .float .f64 z, .float .f64 m, .int .u8 t, .bool full] 63)) v.ownBlock v2 (bs ++ kindName 1 ++ hdrB t) w2) := Lib.hid fun w' hx =>
    (c178 B bs v ⟨#[80, 79, 73, 78, 84]⟩ t w' hx.here hlen178 (by show #[80, 79, 73, 78, 84].size ≤ 1000; simp) h0 h1).mono fun e w2 ⟨v2, he, h2⟩ => ⟨v2, he, hx.then h2⟩
  have Hbd : Hid (∀ (X : List UInt8) (v' : Value) (w' : World), Bf B (w.alloc (.cells #[.float .f64 x, .float .f64 y, .float .f64 z, .float .f64 m, .int .u8 t, .bool full] 63)) v.ownBlock v' X w' → X.length + BB.length ≤ 70000000000000 → Calls Tryz.prog 181 #[.agg #[.float .f64 x, .float .f64 y, .float .f64 z, .float .f64 m, .int .u8 t, .bool full], v'] w' fun e w2 => ∃ v2, e = .returned v2 ∧ Bf B (w.alloc (.cells #[.float .f64 x, .float .f64 y, .float .f64 z, .float .f64 m, .int .u8 t, .bool full] 63)) v.ownBlock v2 (X ++ tailB X BB) w2) := Lib.hid fun X v' w' hx hl =>
    (c181 tab f hF B X v' ⟨⟨x, y, z, m, t⟩, full⟩ w' (hx.tabs hTW hr6.out) hB6 hx.here (by omega) ⟨h0, h1⟩).mono fun e w2 ⟨v2, he, h2⟩ => ⟨v2, he, by rw [hBB] at h2; exact hx.then h2⟩
  have Hfin := Lib.hid hfin
  clear hb hTW hLW hbW hT hnl hfin hBB hlen
  go_enter Tryz.func128, Tryz.ntmps128
  go_wp2_with fail
  refine (H178.out _ Hb0.out).mono ?_
  rintro _ w1 ⟨v1, rfl, hx1⟩
  obtain ⟨kb, _, _⟩ := (Hlb.out _ _ _ hx1).use
  have Hx1 := Lib.hid hx1; clear hx1
  go_wp2_with fail
  refine (Hbd.out _ _ _ Hx1.out hX0.out).mono ?_
  rintro _ w2 ⟨v2, rfl, hx2⟩
  have Hx2 := Lib.hid hx2; clear hx2
  go_wp2_with fail
  go_ret
  exact ⟨_, rfl, by rw [← Hfin.out]; exact HW.out.then Hx2.out⟩
set_option maxHeartbeats 1000000 in
theorem c129 (tab : Nat → Int) (f : Nat → List UInt8) (hF : Prints tab f) (B : Nat) (bs : List UInt8) (v : Value) (S : Nat → Prop) (l : Ln) (a : Option Addr) (c : Nat) (w : World) (hT : Tabs tab w) (hB6 : 6 < B) (hb : Bf B w v.ownBlock v bs w) (hlen : bs.length + (nameB 2 l.t (lnB f l)).length ≤ 70000000000000) (hok : l.ok) (hS : ∀ b, S b → b < B) (h : Rd S w (fl l.xs) (.slice a l.xs.length c)) :
    Calls Tryz.prog 129 #[.agg #[.int .u8 l.t, .slice a l.xs.length c], v] w fun e w' => ∃ v', e = .returned v' ∧ Bf B w v.ownBlock v' (bs ++ nameB 2 l.t (lnB f l)) w' := by
  have h0 := hok.1
  have h1 := hok.2.1
  have hnl : (kindName 2).length + (hdrB l.t).length + (lnB f l).length ≤ (nameB 2 l.t (lnB f l)).length := by
    unfold nameB; simp only [List.length_append]; omega
  have hfin := tailB_name bs 2 l.t (lnB f l) h0 h1
  generalize hBB : lnB f l = BB at *
  have hX0 : Hid ((bs ++ kindName 2 ++ hdrB l.t).length + BB.length ≤ 70000000000000) := Lib.hid (by simp only [List.length_append]; omega)
  have hbW := hb.alloc (.cells #[.int .u8 l.t, .slice a l.xs.length c] 69)
  have hTW := hT.blw (bl_a1 w (.cells #[.int .u8 l.t, .slice a l.xs.length c] 69))
  have hLW := Lb.new w #[.int .u8 l.t, .slice a l.xs.length c] 69
  have hrW := h.alloc (.cells #[.int .u8 l.t, .slice a l.xs.length c] 69)
  have hap : Hid (∀ b, S b → some b ≠ v.ownBlock) := Lib.hid (hb.apart hS)
  have hne : Hid (some w.heap.size ≠ v.ownBlock) := Lib.hid hb.fresh
  have hr6 : Hid (∀ j, v.ownBlock = some j → 6 < j) := Lib.hid fun j hj => by have := (hb.blk j hj).1; omega
  have hlen178 : bs.length ≤ 100000000000000 := by omega
  have Hb0 := Lib.hid hbW.here
  have HW := Lib.hid hbW
  have Hlb : Hid (∀ (X : List UInt8) (v' : Value) (w' : World), Bf B (w.alloc (.cells #[.int .u8 l.t, .slice a l.xs.length c] 69)) v.ownBlock v' X w' → Lb w' w.heap.size #[.int .u8 l.t, .slice a l.xs.length c] 69) := Lib.hid fun X v' w' hx => hx.lb hLW hne.out
  have H178 : Hid (∀ w', Bf B (w.alloc (.cells #[.int .u8 l.t, .slice a l.xs.length c] 69)) v.ownBlock v bs w' → Calls Tryz.prog 178 #[v, .string ⟨#[76, 73, 78, 69, 83, 84, 82, 73, 78, 71]⟩, .int .u8 l.t] w' fun e w2 => ∃ v2, e = .returned v2 ∧ Bf B (w.alloc (.cells #[.int .u8 l.t, .slice a l.xs.length c] 69)) v.ownBlock v2 (bs ++ kindName 2 ++ hdrB l.t) w2) := Lib.hid fun w' hx =>
    (c178 B bs v ⟨#[76, 73, 78, 69, 83, 84, 82, 73, 78, 71]⟩ l.t w' hx.here hlen178 (by show #[76, 73, 78, 69, 83, 84, 82, 73, 78, 71].size ≤ 1000; simp) h0 h1).mono fun e w2 ⟨v2, he, h2⟩ => ⟨v2, he, hx.then h2⟩
  have Hbd : Hid (∀ (X : List UInt8) (v' : Value) (w' : World), Bf B (w.alloc (.cells #[.int .u8 l.t, .slice a l.xs.length c] 69)) v.ownBlock v' X w' → X.length + BB.length ≤ 70000000000000 → Calls Tryz.prog 182 #[.agg #[.int .u8 l.t, .slice a l.xs.length c], v'] w' fun e w2 => ∃ v2, e = .returned v2 ∧ Bf B (w.alloc (.cells #[.int .u8 l.t, .slice a l.xs.length c] 69)) v.ownBlock v2 (X ++ tailB X BB) w2) := Lib.hid fun X v' w' hx hl =>
    (c182 tab f hF B S X v' l a c w' (hx.tabs hTW hr6.out) hB6 hx.here (by rw [hBB]; omega) hok hS (hx.rd hrW hap.out)).mono fun e w2 ⟨v2, he, h2⟩ => ⟨v2, he, by rw [hBB] at h2; exact hx.then h2⟩
  have Hfin := Lib.hid hfin
  clear hb hTW hLW hbW hT hnl hfin hBB hlen h hrW
  go_enter Tryz.func129, Tryz.ntmps129
  go_wp2_with fail
  refine (c139 _ _ _ _ _).mono ?_
  rintro _ wq ⟨rfl, hbq⟩
  replace Hb0 := Lib.hid (Hb0.out.step hbq)
  clear hbq
  go_wp2_with fail
  refine (H178.out _ Hb0.out).mono ?_
  rintro _ w1 ⟨v1, rfl, hx1⟩
  obtain ⟨kb, _, _⟩ := (Hlb.out _ _ _ hx1).use
  have Hx1 := Lib.hid hx1; clear hx1
  go_wp2_with fail
  refine (Hbd.out _ _ _ Hx1.out hX0.out).mono ?_
  rintro _ w2 ⟨v2, rfl, hx2⟩
  have Hx2 := Lib.hid hx2; clear hx2
  go_wp2_with fail
  go_ret
  exact ⟨_, rfl, by rw [← Hfin.out]; exact HW.out.then Hx2.out⟩
set_option maxHeartbeats 1000000 in
theorem c130 (tab : Nat → Int) (f : Nat → List UInt8) (hF : Prints tab f) (B : Nat) (bs : List UInt8) (v : Value) (S : Nat → Prop) (p : Pg) (a : Option Addr) (c : Nat) (w : World) (hT : Tabs tab w) (hB6 : 6 < B) (hb : Bf B w v.ownBlock v bs w) (hlen : bs.length + (nameB 3 p.t (pgB f p)).length ≤ 70000000000000) (hok : p.ok) (hS : ∀ b, S b → b < B) (h : Rd S w (.list (p.rings.map Ln.fs)) (.slice a p.rings.length c)) :
    Calls Tryz.prog 130 #[.agg #[.slice a p.rings.length c, .int .u8 p.t], v] w fun e w' => ∃ v', e = .returned v' ∧ Bf B w v.ownBlock v' (bs ++ nameB 3 p.t (pgB f p)) w' := by
  have h0 := hok.2.2.1
  have h1 := hok.2.2.2
  have hnl : (kindName 3).length + (hdrB p.t).length + (pgB f p).length ≤ (nameB 3 p.t (pgB f p)).length := by
    unfold nameB; simp only [List.length_append]; omega
  have hfin := tailB_name bs 3 p.t (pgB f p) h0 h1
  generalize hBB : pgB f p = BB at *
  have hX0 : Hid ((bs ++ kindName 3 ++ hdrB p.t).length + BB.length ≤ 70000000000000) := Lib.hid (by simp only [List.length_append]; omega)
  have hbW := hb.alloc (.cells #[.slice a p.rings.length c, .int .u8 p.t] 73)
  have hTW := hT.blw (bl_a1 w (.cells #[.slice a p.rings.length c, .int .u8 p.t] 73))
  have hLW := Lb.new w #[.slice a p.rings.length c, .int .u8 p.t] 73
  have hrW := h.alloc (.cells #[.slice a p.rings.length c, .int .u8 p.t] 73)
  have hap : Hid (∀ b, S b → some b ≠ v.ownBlock) := Lib.hid (hb.apart hS)
  have hne : Hid (some w.heap.size ≠ v.ownBlock) := Lib.hid hb.fresh
  have hr6 : Hid (∀ j, v.ownBlock = some j → 6 < j) := Lib.hid fun j hj => by have := (hb.blk j hj).1; omega
  have hlen178 : bs.length ≤ 100000000000000 := by omega
  have Hb0 := Lib.hid hbW.here
  have HW := Lib.hid hbW
  have Hlb : Hid (∀ (X : List UInt8) (v' : Value) (w' : World), Bf B (w.alloc (.cells #[.slice a p.rings.length c, .int .u8 p.t] 73)) v.ownBlock v' X w' → Lb w' w.heap.size #[.slice a p.rings.length c, .int .u8 p.t] 73) := Lib.hid fun X v' w' hx => hx.lb hLW hne.out
  have H178 : Hid (∀ w', Bf B (w.alloc (.cells #[.slice a p.rings.length c, .int .u8 p.t] 73)) v.ownBlock v bs w' → Calls Tryz.prog 178 #[v, .string ⟨#[80, 79, 76, 89, 71, 79, 78]⟩, .int .u8 p.t] w' fun e w2 => ∃ v2, e = .returned v2 ∧ Bf B (w.alloc (.cells #[.slice a p.rings.length c, .int .u8 p.t] 73)) v.ownBlock v2 (bs ++ kindName 3 ++ hdrB p.t) w2) := Lib.hid fun w' hx =>
    (c178 B bs v ⟨#[80, 79, 76, 89, 71, 79, 78]⟩ p.t w' hx.here hlen178 (by show #[80, 79, 76, 89, 71, 79, 78].size ≤ 1000; simp) h0 h1).mono fun e w2 ⟨v2, he, h2⟩ => ⟨v2, he, hx.then h2⟩
  have Hbd : Hid (∀ (X : List UInt8) (v' : Value) (w' : World), Bf B (w.alloc (.cells #[.slice a p.rings.length c, .int .u8 p.t] 73)) v.ownBlock v' X w' → X.length + BB.length ≤ 70000000000000 → Calls Tryz.prog 183 #[.agg #[.slice a p.rings.length c, .int .u8 p.t], v'] w' fun e w2 => ∃ v2, e = .returned v2 ∧ Bf B (w.alloc (.cells #[.slice a p.rings.length c, .int .u8 p.t] 73)) v.ownBlock v2 (X ++ tailB X BB) w2) := Lib.hid fun X v' w' hx hl =>
    (c183 tab f hF B S X v' p a c w' (hx.tabs hTW hr6.out) hB6 hx.here (by rw [hBB]; omega) hok hS (hx.rd hrW hap.out)).mono fun e w2 ⟨v2, he, h2⟩ => ⟨v2, he, by rw [hBB] at h2; exact hx.then h2⟩
  have Hfin := Lib.hid hfin
  clear hb hTW hLW hbW hT hnl hfin hBB hlen h hrW
  go_enter Tryz.func130, Tryz.ntmps130
  go_wp2_with fail
  refine (H178.out _ Hb0.out).mono ?_
  rintro _ w1 ⟨v1, rfl, hx1⟩
  obtain ⟨kb, _, _⟩ := (Hlb.out _ _ _ hx1).use
  have Hx1 := Lib.hid hx1; clear hx1
  go_wp2_with fail
  refine (Hbd.out _ _ _ Hx1.out hX0.out).mono ?_
  rintro _ w2 ⟨v2, rfl, hx2⟩
  have Hx2 := Lib.hid hx2; clear hx2
  go_wp2_with fail
  go_ret
  exact ⟨_, rfl, by rw [← Hfin.out]; exact HW.out.then Hx2.out⟩
set_option maxHeartbeats 1000000 in
theorem c180_1 (B : Nat) (bs out : List UInt8) (v : Value) (x y z m : Nat) (t : Int) (full : Bool) (b : Nat) (w : World) (hb : Bf B w v.ownBlock v bs w) (hbl : b < w.heap.size) (q0 : w.cell? ⟨b, 0, none⟩ = some (.float .f64 x)) (q1 : w.cell? ⟨b, 1, none⟩ = some (.float .f64 y)) (q2 : w.cell? ⟨b, 2, none⟩ = some (.float .f64 z)) (q3 : w.cell? ⟨b, 3, none⟩ = some (.float .f64 m)) (q4 : w.cell? ⟨b, 4, none⟩ = some (.int .u8 t)) (q5 : w.cell? ⟨b, 5, none⟩ = some (.bool full))
    (H : ∀ w', Bf B w' v.ownBlock v bs w' → Below w.heap.size w w' → Calls Tryz.prog 128 #[.agg #[.float .f64 x, .float .f64 y, .float .f64 z, .float .f64 m, .int .u8 t, .bool full], v] w' fun e w2 => ∃ v2, e = .returned v2 ∧ Bf B w' v.ownBlock v2 out w2) :
    Calls Tryz.prog 180 #[.agg #[.int .i64 1, .iface 168 (.pointer (some ⟨b, 0, none⟩))], v] w fun e w' => ∃ v', e = .returned v' ∧ Bf B w v.ownBlock v' out w' := by
  have HH := Lib.hid (H (w.alloc (.cells #[.int .i64 1, .iface 168 (.pointer (some ⟨b, 0, none⟩))] 47)) (hb.alloc _).here (bl_a1 w _))
  have HW := Lib.hid (hb.alloc (.cells #[.int .i64 1, .iface 168 (.pointer (some ⟨b, 0, none⟩))] 47))
  have hta : ∀ w, (Instr.typeAssert (.iface 168 (.pointer (some ⟨b, 0, none⟩))) 20 168 false).run Tryz.prog w = .ok (.pointer (some ⟨b, 0, none⟩)) w := fun _ => by kernel_rfl
  clear H hb
  go_enter Tryz.func180, Tryz.ntmps180
  go_wp2_with fail
  refine HH.out.mono ?_
  rintro _ w2 ⟨v2, rfl, hx2⟩
  have Hx2 := Lib.hid hx2; clear hx2
  go_wp2_with fail
  go_ret
  exact ⟨_, rfl, HW.out.then Hx2.out⟩
set_option maxHeartbeats 1000000 in
theorem c180_2 (B : Nat) (bs out : List UInt8) (v : Value) (t : Int) (a : Option Addr) (n c : Nat) (b : Nat) (w : World) (hb : Bf B w v.ownBlock v bs w) (hbl : b < w.heap.size) (q0 : w.cell? ⟨b, 0, none⟩ = some (.int .u8 t)) (q1 : w.cell? ⟨b, 1, none⟩ = some (.slice a n c))
    (H : ∀ w', Bf B w' v.ownBlock v bs w' → Below w.heap.size w w' → Calls Tryz.prog 129 #[.agg #[.int .u8 t, .slice a n c], v] w' fun e w2 => ∃ v2, e = .returned v2 ∧ Bf B w' v.ownBlock v2 out w2) :
    Calls Tryz.prog 180 #[.agg #[.int .i64 2, .iface 169 (.pointer (some ⟨b, 0, none⟩))], v] w fun e w' => ∃ v', e = .returned v' ∧ Bf B w v.ownBlock v' out w' := by
  have HH := Lib.hid (H (w.alloc (.cells #[.int .i64 2, .iface 169 (.pointer (some ⟨b, 0, none⟩))] 47)) (hb.alloc _).here (bl_a1 w _))
  have HW := Lib.hid (hb.alloc (.cells #[.int .i64 2, .iface 169 (.pointer (some ⟨b, 0, none⟩))] 47))
  have hta : ∀ w, (Instr.typeAssert (.iface 169 (.pointer (some ⟨b, 0, none⟩))) 20 169 false).run Tryz.prog w = .ok (.pointer (some ⟨b, 0, none⟩)) w := fun _ => by kernel_rfl
  clear H hb
  go_enter Tryz.func180, Tryz.ntmps180
  go_wp2_with fail
  refine HH.out.mono ?_
  rintro _ w2 ⟨v2, rfl, hx2⟩
  have Hx2 := Lib.hid hx2; clear hx2
  go_wp2_with fail
  go_ret
  exact ⟨_, rfl, HW.out.then Hx2.out⟩
set_option maxHeartbeats 1000000 in
theorem c180_3 (B : Nat) (bs out : List UInt8) (v : Value) (t : Int) (a : Option Addr) (n c : Nat) (b : Nat) (w : World) (hb : Bf B w v.ownBlock v bs w) (hbl : b < w.heap.size) (q0 : w.cell? ⟨b, 0, none⟩ = some (.slice a n c)) (q1 : w.cell? ⟨b, 1, none⟩ = some (.int .u8 t))
    (H : ∀ w', Bf B w' v.ownBlock v bs w' → Below w.heap.size w w' → Calls Tryz.prog 130 #[.agg #[.slice a n c, .int .u8 t], v] w' fun e w2 => ∃ v2, e = .returned v2 ∧ Bf B w' v.ownBlock v2 out w2) :
    Calls Tryz.prog 180 #[.agg #[.int .i64 3, .iface 170 (.pointer (some ⟨b, 0, none⟩))], v] w fun e w' => ∃ v', e = .returned v' ∧ Bf B w v.ownBlock v' out w' := by
  have HH := Lib.hid (H (w.alloc (.cells #[.int .i64 3, .iface 170 (.pointer (some ⟨b, 0, none⟩))] 47)) (hb.alloc _).here (bl_a1 w _))
  have HW := Lib.hid (hb.alloc (.cells #[.int .i64 3, .iface 170 (.pointer (some ⟨b, 0, none⟩))] 47))
  have hta : ∀ w, (Instr.typeAssert (.iface 170 (.pointer (some ⟨b, 0, none⟩))) 20 170 false).run Tryz.prog w = .ok (.pointer (some ⟨b, 0, none⟩)) w := fun _ => by kernel_rfl
  clear H hb
  go_enter Tryz.func180, Tryz.ntmps180
  go_wp2_with fail
  refine HH.out.mono ?_
  rintro _ w2 ⟨v2, rfl, hx2⟩
  have Hx2 := Lib.hid hx2; clear hx2
  go_wp2_with fail
  go_ret
  exact ⟨_, rfl, HW.out.then Hx2.out⟩
set_option maxHeartbeats 1000000 in
theorem c180_4 (B : Nat) (bs out : List UInt8) (v : Value) (t : Int) (a : Option Addr) (n c : Nat) (b : Nat) (w : World) (hb : Bf B w v.ownBlock v bs w) (hbl : b < w.heap.size) (q0 : w.cell? ⟨b, 0, none⟩ = some (.slice a n c)) (q1 : w.cell? ⟨b, 1, none⟩ = some (.int .u8 t))
    (H : ∀ w', Bf B w' v.ownBlock v bs w' → Below w.heap.size w w' → Calls Tryz.prog 131 #[.agg #[.slice a n c, .int .u8 t], v] w' fun e w2 => ∃ v2, e = .returned v2 ∧ Bf B w' v.ownBlock v2 out w2) :
    Calls Tryz.prog 180 #[.agg #[.int .i64 4, .iface 171 (.pointer (some ⟨b, 0, none⟩))], v] w fun e w' => ∃ v', e = .returned v' ∧ Bf B w v.ownBlock v' out w' := by
  have HH := Lib.hid (H (w.alloc (.cells #[.int .i64 4, .iface 171 (.pointer (some ⟨b, 0, none⟩))] 47)) (hb.alloc _).here (bl_a1 w _))
  have HW := Lib.hid (hb.alloc (.cells #[.int .i64 4, .iface 171 (.pointer (some ⟨b, 0, none⟩))] 47))
  have hta : ∀ w, (Instr.typeAssert (.iface 171 (.pointer (some ⟨b, 0, none⟩))) 20 171 false).run Tryz.prog w = .ok (.pointer (some ⟨b, 0, none⟩)) w := fun _ => by kernel_rfl
  clear H hb
  go_enter Tryz.func180, Tryz.ntmps180
  go_wp2_with fail
  refine HH.out.mono ?_
  rintro _ w2 ⟨v2, rfl, hx2⟩
  have Hx2 := Lib.hid hx2; clear hx2
  go_wp2_with fail
  go_ret
  exact ⟨_, rfl, HW.out.then Hx2.out⟩
set_option maxHeartbeats 1000000 in
theorem c180_5 (B : Nat) (bs out : List UInt8) (v : Value) (t : Int) (a : Option Addr) (n c : Nat) (b : Nat) (w : World) (hb : Bf B w v.ownBlock v bs w) (hbl : b < w.heap.size) (q0 : w.cell? ⟨b, 0, none⟩ = some (.slice a n c)) (q1 : w.cell? ⟨b, 1, none⟩ = some (.int .u8 t))
    (H : ∀ w', Bf B w' v.ownBlock v bs w' → Below w.heap.size w w' → Calls Tryz.prog 132 #[.agg #[.slice a n c, .int .u8 t], v] w' fun e w2 => ∃ v2, e = .returned v2 ∧ Bf B w' v.ownBlock v2 out w2) :
    Calls Tryz.prog 180 #[.agg #[.int .i64 5, .iface 172 (.pointer (some ⟨b, 0, none⟩))], v] w fun e w' => ∃ v', e = .returned v' ∧ Bf B w v.ownBlock v' out w' := by
  have HH := Lib.hid (H (w.alloc (.cells #[.int .i64 5, .iface 172 (.pointer (some ⟨b, 0, none⟩))] 47)) (hb.alloc _).here (bl_a1 w _))
  have HW := Lib.hid (hb.alloc (.cells #[.int .i64 5, .iface 172 (.pointer (some ⟨b, 0, none⟩))] 47))
  have hta : ∀ w, (Instr.typeAssert (.iface 172 (.pointer (some ⟨b, 0, none⟩))) 20 172 false).run Tryz.prog w = .ok (.pointer (some ⟨b, 0, none⟩)) w := fun _ => by kernel_rfl
  clear H hb
  go_enter Tryz.func180, Tryz.ntmps180
  go_wp2_with fail
  refine HH.out.mono ?_
  rintro _ w2 ⟨v2, rfl, hx2⟩
  have Hx2 := Lib.hid hx2; clear hx2
  go_wp2_with fail
  go_ret
  exact ⟨_, rfl, HW.out.then Hx2.out⟩
set_option maxHeartbeats 1000000 in
theorem c180_6 (B : Nat) (bs out : List UInt8) (v : Value) (t : Int) (a : Option Addr) (n c : Nat) (b : Nat) (w : World) (hb : Bf B w v.ownBlock v bs w) (hbl : b < w.heap.size) (q0 : w.cell? ⟨b, 0, none⟩ = some (.slice a n c)) (q1 : w.cell? ⟨b, 1, none⟩ = some (.int .u8 t))
    (H : ∀ w', Bf B w' v.ownBlock v bs w' → Below w.heap.size w w' → Calls Tryz.prog 133 #[.agg #[.slice a n c, .int .u8 t], v] w' fun e w2 => ∃ v2, e = .returned v2 ∧ Bf B w' v.ownBlock v2 out w2) :
    Calls Tryz.prog 180 #[.agg #[.int .i64 6, .iface 173 (.pointer (some ⟨b, 0, none⟩))], v] w fun e w' => ∃ v', e = .returned v' ∧ Bf B w v.ownBlock v' out w' := by
  have HH := Lib.hid (H (w.alloc (.cells #[.int .i64 6, .iface 173 (.pointer (some ⟨b, 0, none⟩))] 47)) (hb.alloc _).here (bl_a1 w _))
  have HW := Lib.hid (hb.alloc (.cells #[.int .i64 6, .iface 173 (.pointer (some ⟨b, 0, none⟩))] 47))
  have hta : ∀ w, (Instr.typeAssert (.iface 173 (.pointer (some ⟨b, 0, none⟩))) 20 173 false).run Tryz.prog w = .ok (.pointer (some ⟨b, 0, none⟩)) w := fun _ => by kernel_rfl
  clear H hb
  go_enter Tryz.func180, Tryz.ntmps180
  go_wp2_with fail
  refine HH.out.mono ?_
  rintro _ w2 ⟨v2, rfl, hx2⟩
  have Hx2 := Lib.hid hx2; clear hx2
  go_wp2_with fail
  go_ret
  exact ⟨_, rfl, HW.out.then Hx2.out⟩
set_option maxHeartbeats 1000000 in
theorem c180_0 (B : Nat) (bs out : List UInt8) (v : Value) (t : Int) (a : Option Addr) (n c : Nat) (b : Nat) (w : World) (hb : Bf B w v.ownBlock v bs w) (hbl : b < w.heap.size) (q0 : w.cell? ⟨b, 0, none⟩ = some (.slice a n c)) (q1 : w.cell? ⟨b, 1, none⟩ = some (.int .u8 t))
    (H : ∀ w', Bf B w' v.ownBlock v bs w' → Below w.heap.size w w' → Calls Tryz.prog 127 #[.agg #[.slice a n c, .int .u8 t], v] w' fun e w2 => ∃ v2, e = .returned v2 ∧ Bf B w' v.ownBlock v2 out w2) :
    Calls Tryz.prog 180 #[.agg #[.int .i64 0, .iface 176 (.pointer (some ⟨b, 0, none⟩))], v] w fun e w' => ∃ v', e = .returned v' ∧ Bf B w v.ownBlock v' out w' := by
  have HH := Lib.hid (H (w.alloc (.cells #[.int .i64 0, .iface 176 (.pointer (some ⟨b, 0, none⟩))] 47)) (hb.alloc _).here (bl_a1 w _))
  have HW := Lib.hid (hb.alloc (.cells #[.int .i64 0, .iface 176 (.pointer (some ⟨b, 0, none⟩))] 47))
  have hta : ∀ w, (Instr.typeAssert (.iface 176 (.pointer (some ⟨b, 0, none⟩))) 20 176 false).run Tryz.prog w = .ok (.pointer (some ⟨b, 0, none⟩)) w := fun _ => by kernel_rfl
  clear H hb
  go_enter Tryz.func180, Tryz.ntmps180
  go_wp2_with fail
  refine HH.out.mono ?_
  rintro _ w2 ⟨v2, rfl, hx2⟩
  have Hx2 := Lib.hid hx2; clear hx2
  go_wp2_with fail
  go_ret
  exact ⟨_, rfl, HW.out.then Hx2.out⟩
theorem c180 (tab : Nat → Int) (f : Nat → List UInt8) (hF : Prints tab f) (B : Nat) (S : Nat → Prop) (hB6 : 6 < B) (hS : ∀ b, S b → b < B) : ∀ (n : Nat) (g : Geo) (bs : List UInt8) (v x : Value) (w : World), g.size ≤ n → g.ok → Tabs tab w → Bf B w v.ownBlock v bs w →
    bs.length + (geoB f g).length ≤ 70000000000000 → GeoV S w g x → Calls Tryz.prog 180 #[.agg #[.int .i64 g.kind, x], v] w fun e w' => ∃ v', e = .returned v' ∧ Bf B w v.ownBlock v' (bs ++ geoB f g) w' := by
  intro n
  induction n with
  | zero => intro g _ _ _ _ h; cases g <;> simp only [Geo.size] at h <;> omega
  | succ n ih =>
    intro g bs v x w hn hok hT hb hlen hx
    obtain ⟨b, rfl⟩ := hx.shape
    cases g with
    | pt p =>
      simp only [Geo.ok, geoB] at *
      obtain ⟨hbl, q0, q1, q2, q3, q4, q5⟩ := box_pt hx
      exact c180_1 B bs _ v _ _ _ _ _ _ b w hb hbl q0 q1 q2 q3 q4 q5 (fun w' h1 h2 => c128 tab f hF B bs v p.c.x p.c.y p.c.z p.c.m p.c.t p.full w' (hT.blw h2) hB6 h1 hlen hok.1 hok.2)
    | ln l =>
      simp only [Geo.ok, geoB] at *
      obtain ⟨hbl, a, c, q0, q1, hr⟩ := box_ln hx
      exact c180_2 B bs _ v _ _ _ _ b w hb hbl q0 q1 (fun w' h1 h2 => c129 tab f hF B bs v S l a c w' (hT.blw h2) hB6 h1 hlen hok hS (hr.blw h2))
    | pg p =>
      simp only [Geo.ok, geoB] at *
      obtain ⟨hbl, a, c, q0, q1, hr⟩ := box_list hx
      rw [List.length_map] at q0 hr
      exact c180_3 B bs _ v _ _ _ _ b w hb hbl q0 q1 (fun w' h1 h2 => c130 tab f hF B bs v S p a c w' (hT.blw h2) hB6 h1 hlen hok hS (hr.blw h2))
    | mp ps t =>
      simp only [Geo.ok, geoB] at *
      obtain ⟨hbl, a, c, q0, q1, hr⟩ := box_list (show Rd S w (.box 171 [.list (ps.map Pt.fs), .atom (.int .u8 t)]) _ from hx)
      rw [List.length_map] at q0 hr
      exact c180_4 B bs _ v _ _ _ _ b w hb hbl q0 q1 (fun w' h1 h2 => c131 tab f hF B S bs v ps t a c w' (hT.blw h2) hB6 h1 hlen hok.1 hok.2.2.1 hok.2.2.2 hS (hr.blw h2))
    | ml ps t =>
      simp only [Geo.ok, geoB] at *
      obtain ⟨hbl, a, c, q0, q1, hr⟩ := box_list (show Rd S w (.box 172 [.list (ps.map Ln.fs), .atom (.int .u8 t)]) _ from hx)
      rw [List.length_map] at q0 hr
      exact c180_5 B bs _ v _ _ _ _ b w hb hbl q0 q1 (fun w' h1 h2 => c132 tab f hF B S bs v ps t a c w' (hT.blw h2) hB6 h1 hlen hok.1 hok.2.2.1 hok.2.2.2 hS (hr.blw h2))
    | mg ps t =>
      simp only [Geo.ok, geoB] at *
      obtain ⟨hbl, a, c, q0, q1, hr⟩ := box_list (show Rd S w (.box 173 [.list (ps.map Pg.fs), .atom (.int .u8 t)]) _ from hx)
      rw [List.length_map] at q0 hr
      exact c180_6 B bs _ v _ _ _ _ b w hb hbl q0 q1 (fun w' h1 h2 => c133 tab f hF B S bs v ps t a c w' (hT.blw h2) hB6 h1 hlen hok.1 hok.2.2.1 hok.2.2.2 hS (hr.blw h2))
    | gc gs t =>
      simp only [Geo.ok, geoB, geoBL_map] at *
      obtain ⟨hbl, a, c, q0, q1, hr⟩ := box_list (show Rd S w (.box 176 [.list (Geo.fsL gs), .atom (.int .u8 t)]) _ from hx)
      rw [Geo.fsL_map] at q0 hr
      rw [List.length_map] at q0 hr
      exact c180_0 B bs _ v _ _ _ _ b w hb hbl q0 q1 (fun w' h1 h2 => c127 tab f hF B S bs v gs t a c w' (fun j hj bs v x w hT hb hl hx => ih gs[j] bs v x w (by simp only [Geo.size] at hn; have := Geo.size_kid gs j hj; omega) (Geo.okL_mem hok.1 _ (List.getElem_mem hj)) hT hb hl hx) (hT.blw h2) hB6 h1 hlen (Geo.okL_mem hok.1) hok.2.2.1 hok.2.2.2 hS (hr.blw h2))
end Go.Proofs.YtahnhhkbdgaidaaGreatDoor
