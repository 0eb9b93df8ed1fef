/-
  FnBytesBack: the law's own walk.
  FnBytesBack: the law's walk whole.
-/
import Derived.Test.YtahnhhkbdgaidaaGreatDoorKbf
import Derived.Test.YtahnhhkbdgaidaaGreatDoorKbi
import Derived.Test.YtahnhhkbdgaidaaGreatDoorKbj
namespace Go.Proofs.YtahnhhkbdgaidaaGreatDoor
open Go.RowKit
set_option maxRecDepth 100000
set_option maxHeartbeats 4000000 in
theorem c6_run (g m : G) (B : List UInt8) (an ak : Option Addr) (cn ck : Nat) (w : World) (hB0 : 0 < B.length) (hB : B.length ≤ 17592186044416) (hfin : numB g = true)
    (H7 : ∀ w', Below w.heap.size w w' → Calls Tryz.prog 7 #[.agg #[.int .i64 g.kind, .int .i64 g.dim, .slice an g.nums.length cn, .slice ak g.kids.length ck]] w' fun e w'' => e = .returned (.bool true) ∧ Below w'.heap.size w' w'')
    (H8 : ∀ (b : Nat) (w' : World), b < w'.heap.size → Lb w' b #[.int .i64 g.kind, .int .i64 g.dim, .slice an g.nums.length cn, .slice ak g.kids.length ck] 25 → Below w.heap.size w w' → Calls Tryz.prog 8 #[.slice (some ⟨b, 0, none⟩) 1 1] w' fun e w'' => e = .returned (.bool true) ∧ Below w'.heap.size w' w'')
    (H9 : ∀ w', Below w.heap.size w w' → Calls Tryz.prog 9 #[.agg #[.int .i64 g.kind, .int .i64 g.dim, .slice an g.nums.length cn, .slice ak g.kids.length ck], .func (.func 18) #[] #[]] w' fun e w'' => e = .returned (.bool (numB g)) ∧ Below w'.heap.size w' w'')
    (H13 : ∀ w', Below w.heap.size w w' → Calls Tryz.prog 13 #[.agg #[.int .i64 g.kind, .int .i64 g.dim, .slice an g.nums.length cn, .slice ak g.kids.length ck]] w' (NewR (fun _ => True) w' m))
    (H20 : ∀ w', Below w.heap.size w w' → Calls Tryz.prog 20 #[.agg #[.int .i64 g.kind, .int .i64 g.dim, .slice an g.nums.length cn, .slice ak g.kids.length ck]] w' fun e w'' => ∃ v', e = .returned v' ∧ Out w' v' B w'')
    (H19 : ∀ w' v, By w' v B → Calls Tryz.prog 19 #[v, .bool false] w' fun e w'' => ∃ x, e = .returned (.tuple #[x, .bool true]) ∧ NewR (fun _ => True) w' m (.returned x) w'')
    (H21 : ∀ w' vn vk un uk, Rd (fun _ => True) w' (fl m.nums) vn → Rd (fun _ => True) w' (.list (G.fsL m.kids)) vk → Rd (fun _ => True) w' (fl m.nums) un → Rd (fun _ => True) w' (.list (G.fsL m.kids)) uk →
      Calls Tryz.prog 21 #[.agg #[.int .i64 m.kind, .int .i64 m.dim, vn, vk], .agg #[.int .i64 m.kind, .int .i64 m.dim, un, uk]] w' fun e w'' => e = .returned (.bool true) ∧ Below w'.heap.size w' w'') :
    Calls Tryz.prog 6 #[.agg #[.int .i64 g.kind, .int .i64 g.dim, .slice an g.nums.length cn, .slice ak g.kids.length ck]] w fun e w' => e = .returned (.bool true) ∧ Below w.heap.size w w' := by
  rw [hfin] at H9
  clear hfin
  generalize hA : (#[.int .i64 g.kind, .int .i64 g.dim, .slice an g.nums.length cn, .slice ak g.kids.length ck] : Array Value) = A at *
  have hAs : A.size = 4 := by rw [← hA]; rfl
  have HB0 := Lib.hid (bl_a1 w (.cells A 25))
  have HL0 := Lib.hid (Lb.new w A 25)
  replace H7 := Lib.hid H7; replace H8 := Lib.hid H8; replace H9 := Lib.hid H9; replace H13 := Lib.hid H13; replace H20 := Lib.hid H20; replace H19 := Lib.hid H19; replace H21 := Lib.hid H21
  subst hA
  clear hAs
  go_enter Tryz.func6, Tryz.ntmps6
  go_wp2_with fail
  refine (H7.out _ HB0.out).mono ?_
  rintro _ w1 ⟨rfl, hb1⟩
  replace HL0 := Lib.hid (HL0.out.blw hb1)
  obtain ⟨k0, _, l0⟩ := HL0.out.use
  replace HB0 := Lib.hid (HB0.out.trans (hb1.mono (by simp)))
  have H8a := Lib.hid (H8.out w1.heap.size (w1.alloc (.cells #[.int .i64 g.kind, .int .i64 g.dim, .slice an g.nums.length cn, .slice ak g.kids.length ck] 25)) (by simp) (Lb.new w1 _ 25) (HB0.out.alloc (by omega) _))
  clear hb1
  go_wp2_with fail
  refine H8a.out.mono ?_
  rintro _ w2 ⟨rfl, hb2⟩
  replace HL0 := Lib.hid ((HL0.out.alloc _).blw hb2)
  obtain ⟨k1, _, l1⟩ := HL0.out.use
  replace HB0 := Lib.hid ((HB0.out.alloc (by omega) _).trans (hb2.mono (by simp; omega)))
  clear hb2 k0 H8a
  go_wp2_with fail
  refine (H9.out _ HB0.out).mono ?_
  rintro _ w3 ⟨rfl, hb3⟩
  replace HL0 := Lib.hid (HL0.out.blw hb3)
  obtain ⟨k2, _, l2⟩ := HL0.out.use
  replace HB0 := Lib.hid (HB0.out.trans (hb3.mono (by omega)))
  clear hb3 k1
  go_wp2_with fail
  refine (H20.out _ HB0.out).mono ?_
  rintro _ w4 ⟨v4, rfl, hO⟩
  have hb4 := hO.below
  have Hby := Lib.hid (hO.by hB0 hB)
  replace HL0 := Lib.hid (HL0.out.blw hb4)
  obtain ⟨k3, _, l3⟩ := HL0.out.use
  replace HB0 := Lib.hid (HB0.out.trans (hb4.mono (by omega)))
  obtain ⟨bb, ob, cb, hv4, _⟩ := Hby.out
  subst hv4
  have H19a := Lib.hid (H19.out _ _ Hby.out)
  clear hb4 k2 hO H19 H20 H7 H8 H9
  go_wp2_with fail
  refine H19a.out.mono ?_
  rintro _ w5 ⟨x, rfl, a1, c1, a2, c2, hx, hr1, hr2, hb5⟩
  obtain rfl := Ending.returned.inj hx
  have hbA := bl_a1 w5 (.cells #[.int .i64 m.kind, .int .i64 m.dim, .slice a1 m.nums.length c1, .slice a2 m.kids.length c2] 25)
  replace HL0 := Lib.hid ((HL0.out.blw hb5).blw hbA.drew)
  obtain ⟨k4, _, l4⟩ := HL0.out.use
  have hM : Lb ((w5.alloc (.cells #[.int .i64 m.kind, .int .i64 m.dim, .slice a1 m.nums.length c1, .slice a2 m.kids.length c2] 25)).drew) w5.heap.size #[.int .i64 m.kind, .int .i64 m.dim, .slice a1 m.nums.length c1, .slice a2 m.kids.length c2] 25 := (Lb.new w5 _ 25).drewN 1
  have HM := Lib.hid hM
  have hs45 := hb5.size
  clear hM
  obtain ⟨km, _, lm⟩ := HM.out.use
  have hbD : Below w.heap.size w ((w5.alloc (.cells #[.int .i64 m.kind, .int .i64 m.dim, .slice a1 m.nums.length c1, .slice a2 m.kids.length c2] 25)).drew) := ((HB0.out.trans (hb5.mono (by omega))).trans (hbA.mono (by omega))).drew
  have HBD := Lib.hid hbD
  have H13a := Lib.hid (H13.out _ hbD)
  have Hr1 := Lib.hid ((hr1.blw hbA)); have Hr2 := Lib.hid ((hr2.blw hbA))
  clear hb5 hbA hbD hr1 hr2 k3 H19a H13 HB0 hx
  go_wp2_with fail
  go_region_law (first
    | (go_simp; go_at_call 13; refine H13a.out.mono ?_; rintro _ w6 ⟨a3, c3, a4, c4, rfl, hs1, hs2, hb6⟩
       have H21a := Lib.hid (H21.out w6 _ _ _ _ ((Rd.drew Hr1.out).blw hb6) ((Rd.drew Hr2.out).blw hb6) hs1 hs2)
       have HB6 := Lib.hid (HBD.out.trans (hb6.mono HBD.out.size))
       obtain ⟨km6, _, lm6⟩ := (HM.out.blw hb6).use
       clear hs1 hs2 hb6)
    | (go_simp; go_at_call 21; refine H21a.out.mono ?_; rintro _ w7 ⟨rfl, hb7⟩
       have HB7 := Lib.hid (HB6.out.trans (hb7.mono HB6.out.size))
       clear hb7))
  all_goals go_wp2_with fail
  all_goals go_ret
  all_goals exact ⟨rfl, HB7.out⟩
end Go.Proofs.YtahnhhkbdgaidaaGreatDoor
namespace Go.Proofs.YtahnhhkbdgaidaaGreatDoor
open Go.RowKit
set_option maxRecDepth 100000
set_option maxHeartbeats 4000000 in
theorem c6_fin (g : G) (an ak : Option Addr) (cn ck : Nat) (w : World) (hfin : numB g = false)
    (H7 : ∀ w', Below w.heap.size w w' → Calls Tryz.prog 7 #[.agg #[.int .i64 g.kind, .int .i64 g.dim, .slice an g.nums.length cn, .slice ak g.kids.length ck]] w' fun e w'' => e = .returned (.bool true) ∧ Below w'.heap.size w' w'')
    (H8 : ∀ (b : Nat) (w' : World), b < w'.heap.size → Lb w' b #[.int .i64 g.kind, .int .i64 g.dim, .slice an g.nums.length cn, .slice ak g.kids.length ck] 25 → Below w.heap.size w w' → Calls Tryz.prog 8 #[.slice (some ⟨b, 0, none⟩) 1 1] w' fun e w'' => e = .returned (.bool true) ∧ Below w'.heap.size w' w'')
    (H9 : ∀ w', Below w.heap.size w w' → Calls Tryz.prog 9 #[.agg #[.int .i64 g.kind, .int .i64 g.dim, .slice an g.nums.length cn, .slice ak g.kids.length ck], .func (.func 18) #[] #[]] w' fun e w'' => e = .returned (.bool (numB g)) ∧ Below w'.heap.size w' w'') :
    Calls Tryz.prog 6 #[.agg #[.int .i64 g.kind, .int .i64 g.dim, .slice an g.nums.length cn, .slice ak g.kids.length ck]] w fun e w' => e = .returned (.bool true) ∧ Below w.heap.size w w' := by
  rw [hfin] at H9
  clear hfin
  generalize hA : (#[.int .i64 g.kind, .int .i64 g.dim, .slice an g.nums.length cn, .slice ak g.kids.length ck] : Array Value) = A at *
  have hAs : A.size = 4 := by rw [← hA]; rfl
  have HB0 := Lib.hid (bl_a1 w (.cells A 25))
  have HL0 := Lib.hid (Lb.new w A 25)
  replace H7 := Lib.hid H7; replace H8 := Lib.hid H8; replace H9 := Lib.hid H9
  subst hA
  clear hAs
  go_enter Tryz.func6, Tryz.ntmps6
  go_wp2_with fail
  refine (H7.out _ HB0.out).mono ?_
  rintro _ w1 ⟨rfl, hb1⟩
  replace HL0 := Lib.hid (HL0.out.blw hb1)
  obtain ⟨k0, _, l0⟩ := HL0.out.use
  replace HB0 := Lib.hid (HB0.out.trans (hb1.mono (by simp)))
  have H8a := Lib.hid (H8.out w1.heap.size (w1.alloc (.cells #[.int .i64 g.kind, .int .i64 g.dim, .slice an g.nums.length cn, .slice ak g.kids.length ck] 25)) (by simp) (Lb.new w1 _ 25) (HB0.out.alloc (by omega) _))
  clear hb1
  go_wp2_with fail
  refine H8a.out.mono ?_
  rintro _ w2 ⟨rfl, hb2⟩
  replace HL0 := Lib.hid ((HL0.out.alloc _).blw hb2)
  obtain ⟨k1, _, l1⟩ := HL0.out.use
  replace HB0 := Lib.hid ((HB0.out.alloc (by omega) _).trans (hb2.mono (by simp; omega)))
  clear hb2 k0 H8a
  go_wp2_with fail
  refine (H9.out _ HB0.out).mono ?_
  rintro _ w3 ⟨rfl, hb3⟩
  replace HL0 := Lib.hid (HL0.out.blw hb3)
  obtain ⟨k2, _, l2⟩ := HL0.out.use
  replace HB0 := Lib.hid (HB0.out.trans (hb3.mono (by omega)))
  clear hb3 k1
  go_wp2_with fail
  go_ret
  exact ⟨rfl, HB0.out⟩
set_option maxHeartbeats 1000000 in
theorem c6 (g : G) (vn vk : Value) (w : World) (hsl : g.small) (hn : Rd (fun _ => True) w (fl g.nums) vn) (hk : Rd (fun _ => True) w (.list (G.fsL g.kids)) vk) (hcap : CapG w g vn vk) :
    Calls Tryz.prog 6 #[.agg #[.int .i64 g.kind, .int .i64 g.dim, vn, vk]] w fun e w' => e = .returned (.bool true) ∧ Below w.heap.size w w' := by
  obtain ⟨an, cn, rfl⟩ := fl_shape hn
  obtain ⟨ak, ck, rfl⟩ := kids_shape hk
  have hS : ∀ b : Nat, True := fun _ => trivial
  have HB0 := Lib.hid (bl_a1 w (.cells #[.int .i64 g.kind, .int .i64 g.dim, .slice an g.nums.length cn, .slice ak g.kids.length ck] 25))
  have HL0 := Lib.hid (Lb.new w #[.int .i64 g.kind, .int .i64 g.dim, .slice an g.nums.length cn, .slice ak g.kids.length ck] 25)
  have H7 := fun (w' : World) (_ : Below w.heap.size w w') => c7 g.kind g.dim an ak g.nums.length g.kids.length cn ck w'
  by_cases hfits : g.nums.length ≤ 2147483647 ∧ g.kids.length ≤ 2147483647
  rotate_left
  · have hfb : decide (g.nums.length ≤ 2147483647 ∧ g.kids.length ≤ 2147483647) = false := by simpa using hfits
    rw [hfb] at H7
    replace H7 := Lib.hid (H7 _ HB0.out)
    clear hfb hfits hn hk hcap
    go_enter Tryz.func6, Tryz.ntmps6
    go_wp2_with fail
    refine H7.out.mono ?_
    rintro _ w1 ⟨rfl, hb1⟩
    have HB1 := Lib.hid (HB0.out.trans (hb1.mono (by simp)))
    clear hb1
    go_wp2_with fail
    go_ret
    exact ⟨rfl, HB1.out⟩
  have hfb : decide (g.nums.length ≤ 2147483647 ∧ g.kids.length ≤ 2147483647) = true := by simpa using hfits
  rw [hfb] at H7
  have H8 : ∀ (b : Nat) (w' : World), b < w'.heap.size → Lb w' b #[.int .i64 g.kind, .int .i64 g.dim, .slice an g.nums.length cn, .slice ak g.kids.length ck] 25 → Below w.heap.size w w' → Calls Tryz.prog 8 #[.slice (some ⟨b, 0, none⟩) 1 1] w' fun e w'' => e = .returned (.bool (decide (0 ≤ gw g 2000))) ∧ Below w'.heap.size w' w'' := fun b w' hb hL hbl =>
    c8 (fun _ => True) g _ _ b w' hb (hL.use.1 0) (hL.use.1 1) (hL.use.1 2) (hL.use.1 3) (hn.blw hbl) (hk.blw hbl)
  have H9 : ∀ w', Below w.heap.size w w' → Calls Tryz.prog 9 #[.agg #[.int .i64 g.kind, .int .i64 g.dim, .slice an g.nums.length cn, .slice ak g.kids.length ck], .func (.func 18) #[] #[]] w' fun e w'' => e = .returned (.bool (numB g)) ∧ Below w'.heap.size w' w'' := fun w' hbl =>
    d9n (fun _ => True) g.size g _ _ w' (Nat.le_refl _) (hn.blw hbl) (hk.blw hbl)
  by_cases hsm : 0 ≤ gw g 2000
  rotate_left
  · have hsb : decide (0 ≤ gw g 2000) = false := by simpa using hsm
    rw [hsb] at H8
    replace H7 := Lib.hid (H7 _ HB0.out)
    replace H8 := Lib.hid H8
    clear hfb hfits hn hk hcap hsm hsb H9
    go_enter Tryz.func6, Tryz.ntmps6
    go_wp2_with fail
    refine H7.out.mono ?_
    rintro _ w1 ⟨rfl, hb1⟩
    have HL1 := Lib.hid (HL0.out.blw hb1)
    obtain ⟨kb, _, ltb⟩ := HL1.out.use
    have HB1 := Lib.hid (HB0.out.trans (hb1.mono (by simp)))
    clear hb1
    have H8a := Lib.hid (H8.out w1.heap.size (w1.alloc (.cells #[.int .i64 g.kind, .int .i64 g.dim, .slice an g.nums.length cn, .slice ak g.kids.length ck] 25)) (by simp) (Lb.new w1 _ 25) (HB1.out.alloc (by omega) _))
    go_wp2_with fail
    refine H8a.out.mono ?_
    rintro _ w2 ⟨rfl, hb2⟩
    have HB2 := Lib.hid ((HB1.out.alloc (by omega) (.cells #[.int .i64 g.kind, .int .i64 g.dim, .slice an g.nums.length cn, .slice ak g.kids.length ck] 25)).trans (hb2.mono (by simp; omega)))
    clear hb2
    go_wp2_with fail
    go_ret
    exact ⟨rfl, HB2.out⟩
  have hsb : decide (0 ≤ gw g 2000) = true := by simpa using hsm
  rw [hsb] at H8
  by_cases hfin : numB g = true
  rotate_left
  · exact c6_fin g an ak cn ck w (by simpa using hfin) H7 H8 H9
  obtain ⟨hok, hok2, hfit, hlen, henc, hback⟩ := bytes_law g hsm hsl hfin
  have hwt : g.wt ≤ 2000 := by have := gw_wt g 2000 hsm; omega
  have H13 : ∀ w', Below w.heap.size w w' → Calls Tryz.prog 13 #[.agg #[.int .i64 g.kind, .int .i64 g.dim, .slice an g.nums.length cn, .slice ak g.kids.length ck]] w' (NewR (fun _ => True) w' (newG g)) := fun w' hbl =>
    c13 g.size g (fun _ => True) _ _ w' (Nat.le_refl _) (by omega) (fun _ _ => trivial) (hn.blw hbl) (hk.blw hbl) (CapG.blw hbl g _ _ hcap)
  exact c6_run g (newG g) (wkB (geoOf g)) an ak cn ck w henc.ne (by omega) hfin H7 H8 H9 H13
    (fun w' hbl => c20 g _ _ w' hok hfit (by omega) (hn.blw hbl) (hk.blw hbl))
    (fun w' v hv => by
      have := c19 (· = 1) (fun x hx => .inr hx) (fun x hx => by subst hx; exact lineOk1) (fun _ => True) (newG g) _ v w' hok2 henc (fun _ _ => trivial) hv
      rw [hback] at this
      exact this)
    (fun w' vn vk un uk h1 h2 h3 h4 => c21 (newG g).size (newG g) (fun _ => True) vn vk un uk w' (Nat.le_refl _) h1 h2 h3 h4)
end Go.Proofs.YtahnhhkbdgaidaaGreatDoor
