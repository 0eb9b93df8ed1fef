/-
  The reference's reader of binary forms: what is refused at a geometry's head.
-/
import Derived.Test.YtahnhhkbdgaidaaGreatDoorHc
import Derived.Test.YtahnhhkbdgaidaaGreatDoorHe
namespace Go.Proofs.YtahnhhkbdgaidaaGreatDoor
open Go.RowKit
set_option maxRecDepth 100000
/-- What is read of a geometry's form, but for what the bytes are. -/
def GeomQ (P B : Nat) (any _ : Bool) (w : World) (Q : G → List UInt8 → Bool → Prop) : Ending → World → Prop := fun e w' => ∃ (g : G) (vn vk : Value) (r : List UInt8) (bad' great' : Bool), e = .returned (.agg #[.int .i64 g.kind, .int .i64 g.dim, vn, vk]) ∧ Gd (w.heap.size ≤ ·) w' g vn vk ∧ St P B any bad' great' r w' ∧ w.grownBy w' (some P) ∧ Q g r bad'
theorem St.far {P B : Nat} {any bad great : Bool} {l : List UInt8} {w : World} (h : St P B any bad great l w) {q : Nat} (hq : q ≠ P) (hB : B ≤ q) (o : Nat) (x : Value) : St P B any bad great l (w.setCell ⟨q, o, none⟩ x) :=
  h.grown (grownP w q o x) (fun e => hq (Option.some.inj e).symm) (fun q' e => by obtain rfl := Option.some.inj e; exact hB)
theorem St.al {P B : Nat} {any bad great : Bool} {l : List UInt8} {w : World} (h : St P B any bad great l w) (o : Obj) : St P B any bad great l (w.alloc o) := h.blw (bl_a1 w o)
theorem St.uses {P B : Nat} {any bad great : Bool} {l : List UInt8} {w : World} (h : St P B any bad great l w) : w.cell? ⟨P, 1, none⟩ = some (.bool any) ∧ w.cell? ⟨P, 2, none⟩ = some (.bool bad) ∧ w.cell? ⟨P, 3, none⟩ = some (.bool great) ∧ w.frozen? ⟨P, 2, none⟩ = false ∧ P < w.heap.size ∧ B ≤ w.heap.size := by
  obtain ⟨a, c, hL, _, _, hB, _⟩ := h
  obtain ⟨k, f, l⟩ := hL.use
  exact ⟨by rw [k]; rfl, by rw [k]; rfl, by rw [k]; rfl, f _, l, hB⟩
/-- Steps of a call's own, and stores into the reader's block. -/
theorem gr_alloc {w w1 : World} {P : Nat} (h : w.grownBy w1 (some P)) (o : Obj) : w.grownBy (w1.alloc o) (some P) :=
  ⟨h.os, h.tape, h.output, Nat.le_trans h.size (by simp), fun k hk hne => (heap_alloc_old w1 _ (Nat.lt_of_lt_of_le hk h.size)).trans (h.block k hk hne)⟩
theorem gr_set {w w1 : World} {P : Nat} (h : w.grownBy w1 (some P)) {q : Nat} (hq : q = P ∨ w.heap.size ≤ q) (o : Nat) (x : Value) : w.grownBy (w1.setCell ⟨q, o, none⟩ x) (some P) :=
  grown_more h (grownP w1 q o x) fun q' e => by obtain rfl := Option.some.inj e; exact hq
theorem cell_al {w : World} {o : Obj} {b : Nat} (k : Nat) (h : b < w.heap.size) : (w.alloc o).cell? ⟨b, k, none⟩ = w.cell? ⟨b, k, none⟩ := (bl_a1 w o).cell (p := ⟨b, k, none⟩) h
theorem size_set (w : World) (p : Addr) (x : Value) : (w.setCell p x).heap.size = w.heap.size := by simp [World.setCell]
theorem gr_refl (w : World) (P : Nat) : w.grownBy w (some P) := ⟨rfl, rfl, rfl, Nat.le_refl _, fun _ _ _ => rfl⟩
def zeroG : G := .mk 0 0 [] []
theorem zeroG_gd (S : Nat → Prop) (w : World) : Gd S w zeroG (.slice none 0 0) (.slice none 0 0) := by
  simp only [zeroG, Gd]
  exact ⟨⟨.nil _ _, none, 0, rfl, by simp, fun _ => rfl⟩, none, 0, rfl, by simp, fun h => by simp at h⟩
theorem order_big (x : UInt8) : ((x.toNat : Int) == 0) = (x == 0) := by
  by_cases h : x = 0
  · subst h; rfl
  · have h2 : (x == 0) = false := by simpa using h
    rw [h2]; exact beq_false_of_ne fun e => h (UInt8.toNat_inj.1 (by simp; omega))
theorem one_byte (x : UInt8) : decB false [x] = x.toNat := by simp [decB, Lib.leNat]
set_option maxHeartbeats 4000000 in
theorem c50_none (P B : Nat) (any great : Bool) (kind : Int)  (w : World) (h : St P B any false great [] w) :
    Calls Tryz.prog 50 #[.pointer (some ⟨P, 0, none⟩), .int .i64 kind] w (GeomQ P B any great w fun g _ bad' => g = zeroG ∧ bad' = true) := by
  have hP := h.lt
  have hB := h.uses.2.2.2.2.2
  have HA := Lib.hid (c116_short P B 1 false any great [] _ (by simp) (h.al (.cells #[.int .i64 0, .int .i64 0, .slice none 0 0, .slice none 0 0] 25)))
  have HB := Lib.hid fun (w1 : World) hs => c116_bad P B 4 true any great [] w1 hs
  have L0 := Lib.hid (Lb.new w #[.int .i64 0, .int .i64 0, .slice none 0 0, .slice none 0 0] 25)
  have hst := h.al (.cells #[.int .i64 0, .int .i64 0, .slice none 0 0, .slice none 0 0] 25)
  clear h
  go_enter Tryz.func50, Tryz.ntmps50
  go_wp2_with fail
  refine HA.out.mono ?_
  rintro _ w1 ⟨rfl, hs1, hg1⟩
  have HB1 := Lib.hid (HB.out w1 hs1)
  have L1 := Lib.hid (L0.out.grown hg1 (fun e => by have := Option.some.inj e; omega))
  have HG1 := Lib.hid (grown_more (gr_alloc (gr_refl w P) (.cells #[.int .i64 0, .int .i64 0, .slice none 0 0, .slice none 0 0] 25)) hg1 (fun q e => .inl (Option.some.inj e).symm))
  clear hs1 hg1 L0 HA HB hst
  go_wp2_with fail
  refine HB1.out.mono ?_
  rintro _ w2 ⟨rfl, hs2, hg2⟩
  have L2 := Lib.hid (L1.out.grown hg2 (fun e => by have := Option.some.inj e; omega))
  have HG2 := Lib.hid (grown_more HG1.out hg2 (fun q e => .inl (Option.some.inj e).symm))
  obtain ⟨k1, k2, k3, f2, lP, lB⟩ := hs2.uses
  obtain ⟨kr, fr, lr⟩ := L2.out.use
  have hsz := HG2.out.size
  have hPn : ¬ w.heap.size = P := by omega
  clear hg2 HB1 L1 HG1
  go_wp2_with fail
  all_goals (
    refine bodyPost_ret (v := .agg #[.int .i64 0, .int .i64 0, .slice none 0 0, .slice none 0 0]) ?_ rfl ⟨zeroG, .slice none 0 0, .slice none 0 0, ([] : List UInt8), true, great, rfl, zeroG_gd _ _, ?_, ?_, rfl, rfl⟩
    · simp [results, Tryz.results50, go_sem, cell_al, L2.out.use.1, lr] <;> omega
    · refine St.al ?_ _
      repeat (with_reducible first | exact hs2.mark | exact hs2 | apply St.mark | refine St.far ?_ (by omega) (by omega) _ _)
    · refine gr_alloc ?_ _
      repeat (with_reducible first | exact HG2.out | refine gr_set ?_ (by first | exact Or.inl rfl | (right; omega)) _ _))
set_option maxHeartbeats 4000000 in
theorem c50_few (P B : Nat) (any great : Bool) (kind : Int) (x : UInt8) (l : List UInt8) (w : World) (hl : l.length < 4) (h : St P B any false great (x :: l) w) :
    Calls Tryz.prog 50 #[.pointer (some ⟨P, 0, none⟩), .int .i64 kind] w (GeomQ P B any great w fun g _ bad' => g = zeroG ∧ bad' = true) := by
  have hP := h.lt
  have hB := h.uses.2.2.2.2.2
  have HA := Lib.hid ((one_byte x ▸ c116_ok P B 1 false any great [x] l _ rfl (by omega) (by omega) (h.al (.cells #[.int .i64 0, .int .i64 0, .slice none 0 0, .slice none 0 0] 25)) : _))
  have HB := Lib.hid fun (w1 : World) hs => c116_short P B 4 (x == 0) any great l w1 hl hs
  have L0 := Lib.hid (Lb.new w #[.int .i64 0, .int .i64 0, .slice none 0 0, .slice none 0 0] 25)
  have hx0 := order_big x
  have hst := h.al (.cells #[.int .i64 0, .int .i64 0, .slice none 0 0, .slice none 0 0] 25)
  clear h
  go_enter Tryz.func50, Tryz.ntmps50
  go_wp2_with fail
  refine HA.out.mono ?_
  rintro _ w1 ⟨rfl, hs1, hg1⟩
  have HB1 := Lib.hid (HB.out w1 hs1)
  have L1 := Lib.hid (L0.out.grown hg1 (fun e => by have := Option.some.inj e; omega))
  have HG1 := Lib.hid (grown_more (gr_alloc (gr_refl w P) (.cells #[.int .i64 0, .int .i64 0, .slice none 0 0, .slice none 0 0] 25)) hg1 (fun q e => .inl (Option.some.inj e).symm))
  clear hs1 hg1 L0 HA HB hst
  go_wp2_with fail
  refine HB1.out.mono ?_
  rintro _ w2 ⟨rfl, hs2, hg2⟩
  have L2 := Lib.hid (L1.out.grown hg2 (fun e => by have := Option.some.inj e; omega))
  have HG2 := Lib.hid (grown_more HG1.out hg2 (fun q e => .inl (Option.some.inj e).symm))
  obtain ⟨k1, k2, k3, f2, lP, lB⟩ := hs2.uses
  obtain ⟨kr, fr, lr⟩ := L2.out.use
  have hsz := HG2.out.size
  have hPn : ¬ w.heap.size = P := by omega
  clear hg2 HB1 L1 HG1
  go_wp2_with fail
  all_goals (
    refine bodyPost_ret (v := .agg #[.int .i64 0, .int .i64 0, .slice none 0 0, .slice none 0 0]) ?_ rfl ⟨zeroG, .slice none 0 0, .slice none 0 0, l, true, great, rfl, zeroG_gd _ _, ?_, ?_, rfl, rfl⟩
    · simp [results, Tryz.results50, go_sem, cell_al, L2.out.use.1, lr] <;> omega
    · refine St.al ?_ _
      repeat (with_reducible first | exact hs2.mark | exact hs2 | apply St.mark | refine St.far ?_ (by omega) (by omega) _ _)
    · refine gr_alloc ?_ _
      repeat (with_reducible first | exact HG2.out | refine gr_set ?_ (by first | exact Or.inl rfl | (right; omega)) _ _))
set_option maxHeartbeats 4000000 in
theorem c50_order (P B : Nat) (any great : Bool) (kind : Int) (x : UInt8) (l4 body : List UInt8) (cc : Nat) (w : World) (h4 : l4.length = 4) (hc : decB (x == 0) l4 = cc) (hx : 1 < x.toNat) (h : St P B any false great (x :: (l4 ++ body)) w) :
    Calls Tryz.prog 50 #[.pointer (some ⟨P, 0, none⟩), .int .i64 kind] w (GeomQ P B any great w fun g _ bad' => g = zeroG ∧ bad' = true) := by
  have hP := h.lt
  have hB := h.uses.2.2.2.2.2
  have HA := Lib.hid ((one_byte x ▸ c116_ok P B 1 false any great [x] (l4 ++ body) _ rfl (by omega) (by omega) (h.al (.cells #[.int .i64 0, .int .i64 0, .slice none 0 0, .slice none 0 0] 25)) : _))
  have HB := Lib.hid fun (w1 : World) hs => (hc ▸ c116_ok P B 4 (x == 0) any great l4 body w1 h4 (by omega) (by omega) hs : _)
  have L0 := Lib.hid (Lb.new w #[.int .i64 0, .int .i64 0, .slice none 0 0, .slice none 0 0] 25)
  have hx0 := order_big x
  have hcl := decB_lt (x == 0) l4
  rw [h4, hc] at hcl
  have hst := h.al (.cells #[.int .i64 0, .int .i64 0, .slice none 0 0, .slice none 0 0] 25)
  clear h
  go_enter Tryz.func50, Tryz.ntmps50
  go_wp2_with fail
  refine HA.out.mono ?_
  rintro _ w1 ⟨rfl, hs1, hg1⟩
  have HB1 := Lib.hid (HB.out w1 hs1)
  have L1 := Lib.hid (L0.out.grown hg1 (fun e => by have := Option.some.inj e; omega))
  have HG1 := Lib.hid (grown_more (gr_alloc (gr_refl w P) (.cells #[.int .i64 0, .int .i64 0, .slice none 0 0, .slice none 0 0] 25)) hg1 (fun q e => .inl (Option.some.inj e).symm))
  clear hs1 hg1 L0 HA HB hst
  go_wp2_with fail
  refine HB1.out.mono ?_
  rintro _ w2 ⟨rfl, hs2, hg2⟩
  have L2 := Lib.hid (L1.out.grown hg2 (fun e => by have := Option.some.inj e; omega))
  have HG2 := Lib.hid (grown_more HG1.out hg2 (fun q e => .inl (Option.some.inj e).symm))
  obtain ⟨k1, k2, k3, f2, lP, lB⟩ := hs2.uses
  obtain ⟨kr, fr, lr⟩ := L2.out.use
  have hsz := HG2.out.size
  have hPn : ¬ w.heap.size = P := by omega
  clear hg2 HB1 L1 HG1
  have hcv : IntKind.i64.wrap ((cc : Nat) : Int) = (cc : Int) := IntWalk.i64_in _ (by omega)
  have hb1 : decide ((1 : Int) < (x.toNat : Int)) = true := decide_eq_true (by omega)
  go_wp2_with fail
  all_goals (
    refine bodyPost_ret (v := .agg #[.int .i64 0, .int .i64 0, .slice none 0 0, .slice none 0 0]) ?_ rfl ⟨zeroG, .slice none 0 0, .slice none 0 0, body, true, great, rfl, zeroG_gd _ _, ?_, ?_, rfl, rfl⟩
    · simp [results, Tryz.results50, go_sem, cell_al, L2.out.use.1, lr] <;> omega
    · refine St.al ?_ _
      repeat (with_reducible first | exact hs2.mark | exact hs2 | apply St.mark | refine St.far ?_ (by omega) (by omega) _ _)
    · refine gr_alloc ?_ _
      repeat (with_reducible first | exact HG2.out | refine gr_set ?_ (by first | exact Or.inl rfl | (right; omega)) _ _))
set_option maxHeartbeats 4000000 in
theorem c50_low (P B : Nat) (any great : Bool) (kind : Int) (x : UInt8) (l4 body : List UInt8) (cc : Nat) (w : World) (h4 : l4.length = 4) (hc : decB (x == 0) l4 = cc) (hx : x.toNat ≤ 1) (hk : cc % 1000 = 0) (h : St P B any false great (x :: (l4 ++ body)) w) :
    Calls Tryz.prog 50 #[.pointer (some ⟨P, 0, none⟩), .int .i64 kind] w (GeomQ P B any great w fun g _ bad' => g = zeroG ∧ bad' = true) := by
  have hP := h.lt
  have hB := h.uses.2.2.2.2.2
  have HA := Lib.hid ((one_byte x ▸ c116_ok P B 1 false any great [x] (l4 ++ body) _ rfl (by omega) (by omega) (h.al (.cells #[.int .i64 0, .int .i64 0, .slice none 0 0, .slice none 0 0] 25)) : _))
  have HB := Lib.hid fun (w1 : World) hs => (hc ▸ c116_ok P B 4 (x == 0) any great l4 body w1 h4 (by omega) (by omega) hs : _)
  have L0 := Lib.hid (Lb.new w #[.int .i64 0, .int .i64 0, .slice none 0 0, .slice none 0 0] 25)
  have hx0 := order_big x
  have hcl := decB_lt (x == 0) l4
  rw [h4, hc] at hcl
  have hst := h.al (.cells #[.int .i64 0, .int .i64 0, .slice none 0 0, .slice none 0 0] 25)
  clear h
  go_enter Tryz.func50, Tryz.ntmps50
  go_wp2_with fail
  refine HA.out.mono ?_
  rintro _ w1 ⟨rfl, hs1, hg1⟩
  have HB1 := Lib.hid (HB.out w1 hs1)
  have L1 := Lib.hid (L0.out.grown hg1 (fun e => by have := Option.some.inj e; omega))
  have HG1 := Lib.hid (grown_more (gr_alloc (gr_refl w P) (.cells #[.int .i64 0, .int .i64 0, .slice none 0 0, .slice none 0 0] 25)) hg1 (fun q e => .inl (Option.some.inj e).symm))
  clear hs1 hg1 L0 HA HB hst
  go_wp2_with fail
  refine HB1.out.mono ?_
  rintro _ w2 ⟨rfl, hs2, hg2⟩
  have L2 := Lib.hid (L1.out.grown hg2 (fun e => by have := Option.some.inj e; omega))
  have HG2 := Lib.hid (grown_more HG1.out hg2 (fun q e => .inl (Option.some.inj e).symm))
  obtain ⟨k1, k2, k3, f2, lP, lB⟩ := hs2.uses
  obtain ⟨kr, fr, lr⟩ := L2.out.use
  have hsz := HG2.out.size
  have hPn : ¬ w.heap.size = P := by omega
  clear hg2 HB1 L1 HG1
  have hcv : IntKind.i64.wrap ((cc : Nat) : Int) = (cc : Int) := IntWalk.i64_in _ (by omega)
  have hb1 : decide ((1 : Int) < (x.toNat : Int)) = false := decide_eq_false (by omega)
  have hkk : (cc : Int) % 1000 = 0 := by omega
  go_wp2_with fail
  all_goals (
    refine bodyPost_ret (v := .agg #[.int .i64 0, .int .i64 0, .slice none 0 0, .slice none 0 0]) ?_ rfl ⟨zeroG, .slice none 0 0, .slice none 0 0, body, true, great, rfl, zeroG_gd _ _, ?_, ?_, rfl, rfl⟩
    · simp [results, Tryz.results50, go_sem, cell_al, L2.out.use.1, lr] <;> omega
    · refine St.al ?_ _
      repeat (with_reducible first | exact hs2.mark | exact hs2 | apply St.mark | refine St.far ?_ (by omega) (by omega) _ _)
    · refine gr_alloc ?_ _
      repeat (with_reducible first | exact HG2.out | refine gr_set ?_ (by first | exact Or.inl rfl | (right; omega)) _ _))
set_option maxHeartbeats 4000000 in
theorem c50_high (P B : Nat) (any great : Bool) (kind : Int) (x : UInt8) (l4 body : List UInt8) (cc : Nat) (w : World) (h4 : l4.length = 4) (hc : decB (x == 0) l4 = cc) (hx : x.toNat ≤ 1) (hk : 7 < cc % 1000) (h : St P B any false great (x :: (l4 ++ body)) w) :
    Calls Tryz.prog 50 #[.pointer (some ⟨P, 0, none⟩), .int .i64 kind] w (GeomQ P B any great w fun g _ bad' => g = zeroG ∧ bad' = true) := by
  have hP := h.lt
  have hB := h.uses.2.2.2.2.2
  have HA := Lib.hid ((one_byte x ▸ c116_ok P B 1 false any great [x] (l4 ++ body) _ rfl (by omega) (by omega) (h.al (.cells #[.int .i64 0, .int .i64 0, .slice none 0 0, .slice none 0 0] 25)) : _))
  have HB := Lib.hid fun (w1 : World) hs => (hc ▸ c116_ok P B 4 (x == 0) any great l4 body w1 h4 (by omega) (by omega) hs : _)
  have L0 := Lib.hid (Lb.new w #[.int .i64 0, .int .i64 0, .slice none 0 0, .slice none 0 0] 25)
  have hx0 := order_big x
  have hcl := decB_lt (x == 0) l4
  rw [h4, hc] at hcl
  have hst := h.al (.cells #[.int .i64 0, .int .i64 0, .slice none 0 0, .slice none 0 0] 25)
  clear h
  go_enter Tryz.func50, Tryz.ntmps50
  go_wp2_with fail
  refine HA.out.mono ?_
  rintro _ w1 ⟨rfl, hs1, hg1⟩
  have HB1 := Lib.hid (HB.out w1 hs1)
  have L1 := Lib.hid (L0.out.grown hg1 (fun e => by have := Option.some.inj e; omega))
  have HG1 := Lib.hid (grown_more (gr_alloc (gr_refl w P) (.cells #[.int .i64 0, .int .i64 0, .slice none 0 0, .slice none 0 0] 25)) hg1 (fun q e => .inl (Option.some.inj e).symm))
  clear hs1 hg1 L0 HA HB hst
  go_wp2_with fail
  refine HB1.out.mono ?_
  rintro _ w2 ⟨rfl, hs2, hg2⟩
  have L2 := Lib.hid (L1.out.grown hg2 (fun e => by have := Option.some.inj e; omega))
  have HG2 := Lib.hid (grown_more HG1.out hg2 (fun q e => .inl (Option.some.inj e).symm))
  obtain ⟨k1, k2, k3, f2, lP, lB⟩ := hs2.uses
  obtain ⟨kr, fr, lr⟩ := L2.out.use
  have hsz := HG2.out.size
  have hPn : ¬ w.heap.size = P := by omega
  clear hg2 HB1 L1 HG1
  have hcv : IntKind.i64.wrap ((cc : Nat) : Int) = (cc : Int) := IntWalk.i64_in _ (by omega)
  have hb1 : decide ((1 : Int) < (x.toNat : Int)) = false := decide_eq_false (by omega)
  have hb2 : decide ((cc : Int) % 1000 < 1) = false := decide_eq_false (by omega)
  have hb3 : decide (7 < (cc : Int) % 1000) = true := decide_eq_true (by omega)
  have hb7 : ((cc : Int) % 1000 == 7) = false := beq_false_of_ne (by omega)
  go_wp2_with fail
  all_goals (
    refine bodyPost_ret (v := .agg #[.int .i64 0, .int .i64 0, .slice none 0 0, .slice none 0 0]) ?_ rfl ⟨zeroG, .slice none 0 0, .slice none 0 0, body, true, great, rfl, zeroG_gd _ _, ?_, ?_, rfl, rfl⟩
    · simp [results, Tryz.results50, go_sem, cell_al, L2.out.use.1, lr] <;> omega
    · refine St.al ?_ _
      repeat (with_reducible first | exact hs2.mark | exact hs2 | apply St.mark | refine St.far ?_ (by omega) (by omega) _ _)
    · refine gr_alloc ?_ _
      repeat (with_reducible first | exact HG2.out | refine gr_set ?_ (by first | exact Or.inl rfl | (right; omega)) _ _))
set_option maxHeartbeats 4000000 in
theorem c50_dim (P B : Nat) (any great : Bool) (kind : Int) (x : UInt8) (l4 body : List UInt8) (cc : Nat) (w : World) (h4 : l4.length = 4) (hc : decB (x == 0) l4 = cc) (hx : x.toNat ≤ 1) (hk0 : 1 ≤ cc % 1000) (hk : cc % 1000 ≤ 7) (ht : 3 < cc / 1000) (h : St P B any false great (x :: (l4 ++ body)) w) :
    Calls Tryz.prog 50 #[.pointer (some ⟨P, 0, none⟩), .int .i64 kind] w (GeomQ P B any great w fun g _ bad' => g = zeroG ∧ bad' = true) := by
  have hP := h.lt
  have hB := h.uses.2.2.2.2.2
  have HA := Lib.hid ((one_byte x ▸ c116_ok P B 1 false any great [x] (l4 ++ body) _ rfl (by omega) (by omega) (h.al (.cells #[.int .i64 0, .int .i64 0, .slice none 0 0, .slice none 0 0] 25)) : _))
  have HB := Lib.hid fun (w1 : World) hs => (hc ▸ c116_ok P B 4 (x == 0) any great l4 body w1 h4 (by omega) (by omega) hs : _)
  have L0 := Lib.hid (Lb.new w #[.int .i64 0, .int .i64 0, .slice none 0 0, .slice none 0 0] 25)
  have hx0 := order_big x
  have hcl := decB_lt (x == 0) l4
  rw [h4, hc] at hcl
  have hst := h.al (.cells #[.int .i64 0, .int .i64 0, .slice none 0 0, .slice none 0 0] 25)
  clear h
  go_enter Tryz.func50, Tryz.ntmps50
  go_wp2_with fail
  refine HA.out.mono ?_
  rintro _ w1 ⟨rfl, hs1, hg1⟩
  have HB1 := Lib.hid (HB.out w1 hs1)
  have L1 := Lib.hid (L0.out.grown hg1 (fun e => by have := Option.some.inj e; omega))
  have HG1 := Lib.hid (grown_more (gr_alloc (gr_refl w P) (.cells #[.int .i64 0, .int .i64 0, .slice none 0 0, .slice none 0 0] 25)) hg1 (fun q e => .inl (Option.some.inj e).symm))
  clear hs1 hg1 L0 HA HB hst
  go_wp2_with fail
  refine HB1.out.mono ?_
  rintro _ w2 ⟨rfl, hs2, hg2⟩
  have L2 := Lib.hid (L1.out.grown hg2 (fun e => by have := Option.some.inj e; omega))
  have HG2 := Lib.hid (grown_more HG1.out hg2 (fun q e => .inl (Option.some.inj e).symm))
  obtain ⟨k1, k2, k3, f2, lP, lB⟩ := hs2.uses
  obtain ⟨kr, fr, lr⟩ := L2.out.use
  have hsz := HG2.out.size
  have hPn : ¬ w.heap.size = P := by omega
  clear hg2 HB1 L1 HG1
  have hcv : IntKind.i64.wrap ((cc : Nat) : Int) = (cc : Int) := IntWalk.i64_in _ (by omega)
  have hb1 : decide ((1 : Int) < (x.toNat : Int)) = false := decide_eq_false (by omega)
  have hb2 : decide ((cc : Int) % 1000 < 1) = false := decide_eq_false (by omega)
  have hb3 : decide (7 < (cc : Int) % 1000) = false := decide_eq_false (by omega)
  have hb4 : decide (3 < (cc : Int) / 1000) = true := decide_eq_true (by omega)
  go_wp2_with fail
  all_goals (
    refine bodyPost_ret (v := .agg #[.int .i64 0, .int .i64 0, .slice none 0 0, .slice none 0 0]) ?_ rfl ⟨zeroG, .slice none 0 0, .slice none 0 0, body, true, great, rfl, zeroG_gd _ _, ?_, ?_, rfl, rfl⟩
    · simp [results, Tryz.results50, go_sem, cell_al, L2.out.use.1, lr] <;> omega
    · refine St.al ?_ _
      repeat (with_reducible first | exact hs2.mark | exact hs2 | apply St.mark | refine St.far ?_ (by omega) (by omega) _ _)
    · refine gr_alloc ?_ _
      repeat (with_reducible first | exact HG2.out | refine gr_set ?_ (by first | exact Or.inl rfl | (right; omega)) _ _))
end Go.Proofs.YtahnhhkbdgaidaaGreatDoor
