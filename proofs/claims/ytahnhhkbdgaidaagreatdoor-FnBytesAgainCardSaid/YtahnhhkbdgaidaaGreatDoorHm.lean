/-
  The reader of binary forms with bytes left behind; the reference's ReadWKB and AskedWKB.
-/
import Derived.Test.YtahnhhkbdgaidaaGreatDoorHj
import Derived.Test.YtahnhhkbdgaidaaGreatDoorHn
namespace Go.Proofs.YtahnhhkbdgaidaaGreatDoor
open Go.RowKit
set_option maxRecDepth 100000
set_option maxHeartbeats 2000000 in
theorem c51r (A : UInt8 → Prop) (hA : ∀ x, A x → x = 0 ∨ x = 1) (HL : ∀ x, A x → LineOk (x.toNat : Int) (x == 1)) (S : Nat → Prop) (m : G) (l r lr : List UInt8) (hlr : lr = l ++ r) (v : Value) (ao : Option Addr) (no co : Nat) (hno : ((no : Int) == 0) = false) (w : World) (hok : m.ok) (he : Enc A m l) (hS : ∀ k, w.heap.size ≤ k → S k) (hv : By w v lr) :
    Calls Tryz.prog 51 #[v, .slice ao no co] w fun e w' => ∃ b', e = .returned (.tuple #[.agg #[.int .i64 (geoOf m).kind, .iface (geoOf m).tid (.pointer (some ⟨b', 0, none⟩))], .nilIface]) ∧ GeoV S w' (geoOf m) (.iface (geoOf m).tid (.pointer (some ⟨b', 0, none⟩))) ∧ Below w.heap.size w w' := by
  obtain ⟨b, off, c, rfl, hc, hm, hl, hj⟩ := hv
  have hb1 := bl_a2 w (.cells #[.int .i64 0, .nilIface] 47) (.cells #[.slice (some ⟨b, off, none⟩) lr.length c, .int .u8 0, .bool false] 160)
  have hq : Pr (w.heap.size + 1) b 0 false (l ++ r) ((w.alloc (.cells #[.int .i64 0, .nilIface] 47)).alloc (.cells #[.slice (some ⟨b, off, none⟩) lr.length c, .int .u8 0, .bool false] 160)) := by
    rw [← hlr]
    exact ⟨off, c, Lb.new2 w _ _ 160, hc, hm, by omega, by simp; omega, fun j h => by rw [hb1.cell (p := ⟨b, off + j, none⟩) hl]; exact hj j h⟩
  have HC := Lib.hid (c119_enc A hA HL m.size m l r (Ex (Ex S (w.heap.size + 1)) w.heap.size) (w.heap.size + 1) b 0 false _ (Nat.le_refl _) hok he (fun k hk => by simp at hk; exact ⟨⟨hS k (by omega), by omega⟩, by omega⟩) hq)
  have l0 := Lib.hid (Lb.new' w #[.int .i64 0, .nilIface] 47 (.cells #[.slice (some ⟨b, off, none⟩) lr.length c, .int .u8 0, .bool false] 160))
  have HB := Lib.hid hb1
  clear hb1 hq hj hlr
  go_enter Tryz.func51, Tryz.ntmps51
  go_wp2_with fail
  refine HC.out.mono ?_
  rintro _ w2 ⟨bo2, no2, b', rfl, hr2, hp2, hg2⟩
  have hsz2 : w.heap.size + 2 ≤ w2.heap.size := by have := hg2.size; simpa using this
  have hb3 := bl_a1 w2 (.cells #[.int .i64 (geoOf m).kind, .iface (geoOf m).tid (.pointer (some ⟨b', 0, none⟩))] 47)
  have L2 := (l0.out.grown hg2 (fun e => by have := Option.some.inj e; omega)).blw hb3
  obtain ⟨kr, fr, lr⟩ := L2.use
  have hle := Lb.new w2 #[.int .i64 (geoOf m).kind, .iface (geoOf m).tid (.pointer (some ⟨b', 0, none⟩))] 47
  obtain ⟨ke, _, _⟩ := hle.use
  have HG : Below w.heap.size w (w2.alloc (.cells #[.int .i64 (geoOf m).kind, .iface (geoOf m).tid (.pointer (some ⟨b', 0, none⟩))] 47)) :=
    ⟨hb3.os.trans (hg2.os.trans HB.out.os), hb3.tape.trans (hg2.tape.trans HB.out.tape), hb3.output.trans (hg2.output.trans HB.out.output), by simp; omega, fun q hq => (hb3.block q (by omega)).trans ((hg2.block q (by simp; omega) (fun e => by have := Option.some.inj e; omega)).trans (HB.out.block q hq))⟩
  have HG := Lib.hid HG
  have HR3 := Lib.hid (hr2.blw hb3)
  clear hr2 hp2 hg2 hb3 L2 hle HC l0 HB
  go_wp2_with fail
  refine bodyPost_ret (v := .tuple #[.agg #[.int .i64 (geoOf m).kind, .iface (geoOf m).tid (.pointer (some ⟨b', 0, none⟩))], .nilIface]) (by simp [results, Tryz.results51, go_sem, kr]) rfl ⟨b', rfl, ?_, ?_⟩
  · refine Rd.unex (L := w.heap.size + 1) (Rd.unex (L := w.heap.size) ?_)
    exact (HR3.out.set _ _).set _ _
  · exact (HG.out.setCell (by simp) _).setCell (by simp) _
set_option maxHeartbeats 2000000 in
theorem c19r (A : UInt8 → Prop) (hA : ∀ x, A x → x = 0 ∨ x = 1) (HL : ∀ x, A x → LineOk (x.toNat : Int) (x == 1)) (S : Nat → Prop) (m : G) (l r lr : List UInt8) (hlr : lr = l ++ r) (v : Value) (w : World) (hok : m.ok) (he : Enc A m l) (hS : ∀ k, w.heap.size ≤ k → S k) (hv : By w v lr) :
    Calls Tryz.prog 19 #[v, .bool false] w fun e w' => ∃ x, e = .returned (.tuple #[x, .bool true]) ∧ NewR S w (geoOf m).toG (.returned x) w' := by
  have hb0 := bl_a1 w (.cells #[.int .i64 0, .int .i64 0, .slice none 0 0, .slice none 0 0] 25)
  have l0 := Lib.hid (Lb.new w #[.int .i64 0, .int .i64 0, .slice none 0 0, .slice none 0 0] 25)
  have H52 := Lib.hid (c52 (w.alloc (.cells #[.int .i64 0, .int .i64 0, .slice none 0 0, .slice none 0 0] 25)))
  have HV := Lib.hid (hv.blw hb0)
  have HB0 := Lib.hid hb0
  have HS := Lib.hid hS
  have H51 := Lib.hid fun (ao : Option Addr) (co : Nat) (w1 : World) (hw : w.heap.size + 1 ≤ w1.heap.size) (hv1 : By w1 v lr) => c51r A hA HL (Ex S w.heap.size) m l r lr hlr v ao 1 co rfl w1 hok he (fun k hk => ⟨hS k (by omega), by omega⟩) hv1
  have H47 := Lib.hid fun (w1 : World) (u : Value) (hw : w.heap.size + 1 ≤ w1.heap.size) (hx : GeoV (Ex S w.heap.size) w1 (geoOf m) u) => c47 (geoOf m).size (geoOf m) (Ex S w.heap.size) w1 u (Nat.le_refl _) (geoOf_ok m hok) (fun k hk => ⟨hS k (by omega), by omega⟩) hx
  obtain ⟨b, off, c, rfl, hc, hm, hl, hj⟩ := hv
  clear hb0 hj hS hlr
  go_enter Tryz.func19, Tryz.ntmps19
  go_wp2_with fail
  refine H52.out.mono ?_
  rintro _ w1 ⟨ao, co, rfl, hb1⟩
  have hsz1 : w.heap.size + 1 ≤ w1.heap.size := by have := hb1.size; simpa using this
  have HC := Lib.hid (H51.out ao co w1 hsz1 (HV.out.blw hb1))
  have L1 := Lib.hid (l0.out.blw hb1)
  have HB1 := Lib.hid (HB0.out.trans (hb1.mono (by simp)))
  clear hb1 H51 H52 HV l0 HB0
  go_wp2_with fail
  refine HC.out.mono ?_
  rintro _ w2 ⟨b', rfl, hx, hb2⟩
  have hsz2 : w.heap.size + 1 ≤ w2.heap.size := Nat.le_trans hsz1 hb2.size
  have hb3 := bl_a1 w2 (.cells #[.int .i64 (geoOf m).kind, .iface (geoOf m).tid (.pointer (some ⟨b', 0, none⟩))] 47)
  have HC2 := Lib.hid (H47.out _ _ (by simp; omega) (Rd.blw hx hb3))
  have L2 := Lib.hid ((L1.out.blw hb2).blw hb3)
  have HB2 := Lib.hid ((HB1.out.trans (hb2.mono (by omega))).trans (hb3.mono (by omega)))
  clear hx hb2 hb3 HC H47 L1 HB1
  go_wp2_with fail
  refine HC2.out.mono ?_
  rintro _ w3 ⟨a1, c1, a2, c2, rfl, hr1, hr2, hb3⟩
  obtain ⟨k3, f3, l3⟩ := (L2.out.blw hb3).use
  have HB3 := Lib.hid (HB2.out.trans (hb3.mono (by simp; omega)))
  have HR1 := Lib.hid hr1; have HR2 := Lib.hid hr2
  clear hr1 hr2 hb3 HC2 L2 HB2
  go_wp2_with fail
  refine bodyPost_ret (v := .tuple #[.agg #[.int .i64 (geoOf m).toG.kind, .int .i64 (geoOf m).toG.dim, .slice a1 (geoOf m).toG.nums.length c1, .slice a2 (geoOf m).toG.kids.length c2], .bool true]) (by simp [results, Tryz.results19, go_sem, k3]) rfl ⟨_, rfl, a1, c1, a2, c2, rfl, ?_, ?_, ?_⟩
  · exact Rd.unex (L := w.heap.size) ((((HR1.out.set _ _).set _ _).set _ _).set _ _)
  · exact Rd.unex (L := w.heap.size) ((((HR2.out.set _ _).set _ _).set _ _).set _ _)
  · repeat (with_reducible first | refine Below.setCell ?_ (by simp) _ | exact HB3.out)

/-- An argument of bytes, nil perhaps. -/
def Bz (w : World) (v : Value) (l : List UInt8) : Prop := ∃ a c, v = .slice a l.length c ∧ l.length ≤ c ∧ ∀ j (h : j < l.length), ∃ b off, a = some ⟨b, off, none⟩ ∧ b < w.heap.size ∧ w.cell? ⟨b, off + j, none⟩ = some (.int .u8 ((l[j]).toNat : Int))
theorem Bz.blw {w w' : World} {v : Value} {l : List UInt8} (h : Bz w v l) (hb : Below w.heap.size w w') : Bz w' v l := by
  obtain ⟨a, c, e, hc, hj⟩ := h
  refine ⟨a, c, e, hc, fun j hlt => ?_⟩
  obtain ⟨b, off, ea, hl, hcell⟩ := hj j hlt
  exact ⟨b, off, ea, Nat.lt_of_lt_of_le hl hb.size, by rw [hb.cell (p := ⟨b, off + j, none⟩) hl]; exact hcell⟩
theorem Bz.by {w : World} {v : Value} {l : List UInt8} (h : Bz w v l) (h0 : 0 < l.length) (hm : l.length ≤ 17592186044416) : By w v l := by
  obtain ⟨a, c, rfl, hc, hj⟩ := h
  obtain ⟨b, off, rfl, hl, _⟩ := hj 0 h0
  refine ⟨b, off, c, rfl, hc, hm, hl, fun j hlt => ?_⟩
  obtain ⟨b2, off2, e2, _, hcell⟩ := hj j hlt
  obtain ⟨rfl, rfl⟩ : b = b2 ∧ off = off2 := by simpa using e2
  exact hcell
theorem Bz.st {w : World} {v : Value} {l : List UInt8} (h : Bz w v l) (hm : l.length ≤ 1000000) (any : Bool) {P : Nat} {W : World} (hb : Below w.heap.size w W) (hP : w.heap.size ≤ P) (hL : Lb W P #[v, .bool any, .bool false, .bool false] 91) : St P w.heap.size any false false l W := by
  obtain ⟨a, c, rfl, hc, hj⟩ := h
  refine ⟨a, c, hL, hc, hm, hb.size, fun j hlt => ?_⟩
  obtain ⟨b, off, ea, hl, hcell⟩ := hj j hlt
  exact ⟨b, off, ea, by omega, hl, by rw [hb.cell (p := ⟨b, off + j, none⟩) hl]; exact hcell⟩
theorem below_of_grown {w w1 w2 : World} {P : Nat} (h1 : Below w.heap.size w w1) (h2 : w1.grownBy w2 (some P)) (hP : w.heap.size ≤ P) : Below w.heap.size w w2 :=
  ⟨h2.os.trans h1.os, h2.tape.trans h1.tape, h2.output.trans h1.output, Nat.le_trans h1.size h2.size, fun k hk => (h2.block k (Nat.lt_of_lt_of_le hk h1.size) (fun e => by have := Option.some.inj e; omega)).trans (h1.block k hk)⟩
set_option maxHeartbeats 2000000 in
theorem c16 (v : Value) (l : List UInt8) (w : World) (hm : l.length ≤ 1000000) (h : Bz w v l) :
    Calls Tryz.prog 16 #[v] w fun e w' => ∃ b : Bool, e = .returned (.bool b) ∧ Below w.heap.size w w' := by
  have hb := bl_a1 w (.cells #[v, .bool true, .bool false, .bool false] 91)
  have HC := Lib.hid (c50 l.length w.heap.size w.heap.size true false (-1) l (w.alloc (.cells #[v, .bool true, .bool false, .bool false] 91)) (Nat.le_refl _) (.inl (by omega)) (h.st hm true hb (Nat.le_refl _) (Lb.new w _ 91)))
  have HB := Lib.hid hb
  obtain ⟨a, c, rfl, _, _⟩ := h
  clear hb
  go_enter Tryz.func16, Tryz.ntmps16
  go_wp2_with fail
  refine HC.out.mono ?_
  rintro _ w2 ⟨g, vn, vk, r, bad', great', rfl, hgd, hs, hg, hq⟩
  obtain ⟨k1, k2, k3, f2, lP, lB⟩ := hs.uses
  have HB2 := Lib.hid (below_of_grown HB.out hg (Nat.le_refl _))
  clear hs hg hq hgd HC
  go_wp2_with fail
  go_ret
  exact ⟨!great', rfl, HB2.out⟩
/-- What the reference reads: nothing, or the geometry that the data at the head of the bytes make. -/
def ReadR (l : List UInt8) (w : World) : Ending → World → Prop := fun e w' => Below w.heap.size w w' ∧
  ((e = .returned (.tuple #[.agg #[.int .i64 0, .int .i64 0, .slice none 0 0, .slice none 0 0], .bool false])) ∨
   ∃ (m : G) (a r : List UInt8) (x : Value), e = .returned (.tuple #[x, .bool true]) ∧ NewR (fun _ => True) w (newG m) (.returned x) w' ∧ l = a ++ r ∧ Enc (fun x => x = 0 ∨ x = 1) m a ∧ m.every eightQ ∧ m.wt ≤ l.length + 1)
set_option maxHeartbeats 4000000 in
theorem c17 (v : Value) (l : List UInt8) (w : World) (hm : l.length ≤ 100000) (h : Bz w v l) :
    Calls Tryz.prog 17 #[v] w (ReadR l w) := by
  have hb := bl_a2 w (.cells #[.int .i64 0, .int .i64 0, .slice none 0 0, .slice none 0 0] 25) (.cells #[v, .bool false, .bool false, .bool false] 91)
  have HC := Lib.hid (c50 l.length (w.heap.size + 1) w.heap.size false false (-1) l ((w.alloc (.cells #[.int .i64 0, .int .i64 0, .slice none 0 0, .slice none 0 0] 25)).alloc (.cells #[v, .bool false, .bool false, .bool false] 91)) (Nat.le_refl _) (.inl (by omega)) (h.st (by omega) false hb (by omega) (Lb.new2 w _ _ 91)))
  have HL := Lib.hid (Lb.new' w #[.int .i64 0, .int .i64 0, .slice none 0 0, .slice none 0 0] 25 (.cells #[v, .bool false, .bool false, .bool false] 91))
  have HB := Lib.hid hb
  obtain ⟨a, c, rfl, _, _⟩ := h
  clear hb
  go_enter Tryz.func17, Tryz.ntmps17
  go_wp2_with fail
  refine HC.out.mono ?_
  rintro _ w2 ⟨g, vn, vk, r, bad', great', rfl, hgd, hs, hg, hq⟩
  have hwt : g.wt ≤ l.length + 1 := by
    cases bad'
    · have := (hq.2.2 rfl).1; omega
    · exact hq.2.1 rfl
  obtain ⟨hn, hk⟩ := hgd.rd
  have H13 := Lib.hid (c13 g.size g (fun b => b ≠ w.heap.size) vn vk w2 (Nat.le_refl _) (by omega) (fun b hb => by have := hg.size; simp at this; omega) (hn.mono fun b _ hb => by simp at hb; omega) (hk.mono fun b _ hb => by simp at hb; omega) (Gd.cap g vn vk hgd))
  have HB2 := Lib.hid (below_of_grown HB.out hg (by omega))
  have HL2 := Lib.hid (HL.out.grown hg (fun e => by have := Option.some.inj e; omega))
  have HS2 := Lib.hid hs
  have HQ := Lib.hid hq
  obtain ⟨an, cn, ak, ck, rfl, rfl⟩ := hgd.shape
  clear hs hg hq hgd HC HL HB hn hk
  go_wp2_with fail
  refine H13.out.mono ?_
  rintro _ w3 ⟨a1, c1, a2, c2, rfl, hr1, hr2, hb3⟩
  obtain ⟨k1, k2, k3, f2, lP, lB⟩ := (HS2.out.blw hb3).uses
  have HL3 := Lib.hid (HL2.out.blw hb3)
  obtain ⟨kr, fr, lr⟩ := HL3.out.use
  have HB3 := Lib.hid (HB2.out.trans (hb3.mono HB2.out.size))
  have HR1 := Lib.hid hr1; have HR2 := Lib.hid hr2
  clear hr1 hr2 hb3 H13 HL2 HS2 HB2
  cases bad'
  · go_wp2_with fail
    refine bodyPost_ret (v := .tuple #[.agg #[.int .i64 (newG g).kind, .int .i64 (newG g).dim, .slice a1 (newG g).nums.length c1, .slice a2 (newG g).kids.length c2], .bool true]) ?_ rfl ⟨?_, .inr ⟨g, ?_⟩⟩
    · have LF := ((((((((HL3.out.set 0 (.int .i64 (newG g).kind)).set 1 (.int .i64 (newG g).dim)).set 2 (.slice a1 (newG g).nums.length c1)).set 3 (.slice a2 (newG g).kids.length c2)).set 0 (.int .i64 (newG g).kind)).set 1 (.int .i64 (newG g).dim)).set 2 (.slice a1 (newG g).nums.length c1)).set 3 (.slice a2 (newG g).kids.length c2)).use.1
      simp [results, Tryz.results17, go_sem, LF]
    · repeat (with_reducible first | refine Below.setCell ?_ (by simp) _ | exact HB3.out)
    · obtain ⟨h1, _, h3⟩ := HQ.out
      obtain ⟨_, h4⟩ := h3 rfl
      obtain ⟨a', e1, e2, _⟩ := h4 rfl
      refine ⟨a', r, _, rfl, ⟨a1, c1, a2, c2, rfl, ?_, ?_, ?_⟩, e1, e2, h1, hwt⟩
      · refine Rd.mono (S := fun b => b ≠ w.heap.size) ?_ (fun _ _ _ => trivial)
        repeat (with_reducible first | exact HR1.out | refine Rd.setCell ?_ (by simp) _)
      · refine Rd.mono (S := fun b => b ≠ w.heap.size) ?_ (fun _ _ _ => trivial)
        repeat (with_reducible first | exact HR2.out | refine Rd.setCell ?_ (by simp) _)
      · repeat (with_reducible first | refine Below.setCell ?_ (by simp <;> omega) _ | exact HB3.out)
  · go_wp2_with fail
    refine bodyPost_ret (v := .tuple #[.agg #[.int .i64 0, .int .i64 0, .slice none 0 0, .slice none 0 0], .bool false]) ?_ rfl ⟨?_, .inl rfl⟩
    · have LF := ((((((((HL3.out.set 0 (.int .i64 (newG g).kind)).set 1 (.int .i64 (newG g).dim)).set 2 (.slice a1 (newG g).nums.length c1)).set 3 (.slice a2 (newG g).kids.length c2)).set 0 (.int .i64 0)).set 1 (.int .i64 0)).set 2 (.slice none 0 0)).set 3 (.slice none 0 0)).use.1
      simp [results, Tryz.results17, go_sem, LF]
    · repeat (with_reducible first | refine Below.setCell ?_ (by simp) _ | exact HB3.out)
end Go.Proofs.YtahnhhkbdgaidaaGreatDoor
