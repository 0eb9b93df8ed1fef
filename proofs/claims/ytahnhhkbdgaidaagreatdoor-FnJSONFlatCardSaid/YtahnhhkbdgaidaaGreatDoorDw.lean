/-
  FnJSONFlat: the law's walk whole.
-/
import Derived.Test.YtahnhhkbdgaidaaGreatDoorDv
namespace Go.Proofs.YtahnhhkbdgaidaaGreatDoor
open Go.RowKit
set_option maxRecDepth 100000
set_option maxHeartbeats 4000000 in
theorem c4_fin (g m : G) (an ak : Option Addr) (cn ck : Nat) (w : World) (hfin : allB g = false)
    (H7 : ∀ w', Below w.heap.size w w' → Calls Tryz.prog 7 #[.agg #[.int .i64 g.kind, .int .i64 g.dim, .slice an g.nums.length cn, .slice ak g.kids.length ck]] w' fun e w'' => e = .returned (.bool true) ∧ Below w'.heap.size w' w'')
    (H8 : ∀ (b : Nat) (w' : World), b < w'.heap.size → Lb w' b #[.int .i64 g.kind, .int .i64 g.dim, .slice an g.nums.length cn, .slice ak g.kids.length ck] 25 → Below w.heap.size w w' → Calls Tryz.prog 8 #[.slice (some ⟨b, 0, none⟩) 1 1] w' fun e w'' => e = .returned (.bool true) ∧ Below w'.heap.size w' w'')
    (H9 : ∀ w', Below w.heap.size w w' → Calls Tryz.prog 9 #[.agg #[.int .i64 g.kind, .int .i64 g.dim, .slice an g.nums.length cn, .slice ak g.kids.length ck], .func (.func 10) #[] #[]] w' fun e w'' => e = .returned (.bool (allB g)) ∧ Below w'.heap.size w' w'')
    (H13 : ∀ w', Below w.heap.size w w' → Calls Tryz.prog 13 #[.agg #[.int .i64 g.kind, .int .i64 g.dim, .slice an g.nums.length cn, .slice ak g.kids.length ck]] w' (NewR (fun _ => True) w' m))
    :
    Calls Tryz.prog 4 #[.agg #[.int .i64 g.kind, .int .i64 g.dim, .slice an g.nums.length cn, .slice ak g.kids.length ck]] w fun e w' => e = .returned (.bool true) ∧ Below w.heap.size w w' := by
  rw [hfin] at H9
  clear hfin
  generalize hA : (#[.int .i64 g.kind, .int .i64 g.dim, .slice an g.nums.length cn, .slice ak g.kids.length ck] : Array Value) = A at *
  have hAs : A.size = 4 := by rw [← hA]; rfl
  have HB0 := Lib.hid (bl_a1 w (.cells A 25))
  have HL0 := Lib.hid (Lb.new w A 25)
  replace H7 := Lib.hid H7; replace H8 := Lib.hid H8; replace H9 := Lib.hid H9; replace H13 := Lib.hid H13
  subst hA
  clear hAs
  go_enter Tryz.func4, Tryz.ntmps4
  go_wp2_with fail
  refine (H7.out _ HB0.out).mono ?_
  rintro _ w1 ⟨rfl, hb1⟩
  replace HL0 := Lib.hid (HL0.out.blw hb1)
  obtain ⟨k0, _, l0⟩ := HL0.out.use
  replace HB0 := Lib.hid (HB0.out.trans (hb1.mono (by simp)))
  have H8a := Lib.hid (H8.out w1.heap.size (w1.alloc (.cells #[.int .i64 g.kind, .int .i64 g.dim, .slice an g.nums.length cn, .slice ak g.kids.length ck] 25)) (by simp) (Lb.new w1 _ 25) (HB0.out.alloc (by omega) _))
  clear hb1
  go_wp2_with fail
  refine H8a.out.mono ?_
  rintro _ w2 ⟨rfl, hb2⟩
  replace HL0 := Lib.hid ((HL0.out.alloc _).blw hb2)
  obtain ⟨k1, _, l1⟩ := HL0.out.use
  replace HB0 := Lib.hid ((HB0.out.alloc (by omega) _).trans (hb2.mono (by simp; omega)))
  clear hb2 k0 H8a
  go_wp2_with fail
  refine (H13.out _ HB0.out).mono ?_
  rintro _ w3 ⟨a1, c1, a2, c2, rfl, hr1, hr2, hb3⟩
  have hl3 : w.heap.size < w3.heap.size := by have := hb3.size; omega
  replace HL0 := Lib.hid ((HL0.out.blw hb3).alloc (.cells #[.int .i64 m.kind, .int .i64 m.dim, .slice a1 m.nums.length c1, .slice a2 m.kids.length c2] 25))
  obtain ⟨k2, _, l2⟩ := HL0.out.use
  replace HB0 := Lib.hid ((HB0.out.trans (hb3.mono (by omega))).alloc (by omega) (.cells #[.int .i64 m.kind, .int .i64 m.dim, .slice a1 m.nums.length c1, .slice a2 m.kids.length c2] 25))
  have HM := Lib.hid ((Lb.new w3 #[.int .i64 m.kind, .int .i64 m.dim, .slice a1 m.nums.length c1, .slice a2 m.kids.length c2] 25).alloc (.cells #[.int .i64 g.kind, .int .i64 g.dim, .slice an g.nums.length cn, .slice ak g.kids.length ck] 25))
  have Hr1 := Lib.hid ((hr1.alloc (.cells #[.int .i64 m.kind, .int .i64 m.dim, .slice a1 m.nums.length c1, .slice a2 m.kids.length c2] 25)).alloc (.cells #[.int .i64 g.kind, .int .i64 g.dim, .slice an g.nums.length cn, .slice ak g.kids.length ck] 25))
  have Hr2 := Lib.hid ((hr2.alloc (.cells #[.int .i64 m.kind, .int .i64 m.dim, .slice a1 m.nums.length c1, .slice a2 m.kids.length c2] 25)).alloc (.cells #[.int .i64 g.kind, .int .i64 g.dim, .slice an g.nums.length cn, .slice ak g.kids.length ck] 25))
  have HBa := Lib.hid (HB0.out.alloc (by simp; omega) (.cells #[.int .i64 g.kind, .int .i64 g.dim, .slice an g.nums.length cn, .slice ak g.kids.length ck] 25))
  have H8a := Lib.hid (H8.out (w3.heap.size + 1) ((w3.alloc (.cells #[.int .i64 m.kind, .int .i64 m.dim, .slice a1 m.nums.length c1, .slice a2 m.kids.length c2] 25)).alloc (.cells #[.int .i64 g.kind, .int .i64 g.dim, .slice an g.nums.length cn, .slice ak g.kids.length ck] 25)) (by simp) (Lb.new2 w3 _ _ 25) HBa.out)
  clear hb3 hr1 hr2 k1
  go_wp2_with fail
  refine H8a.out.mono ?_
  rintro _ w4 ⟨rfl, hb4⟩
  replace HL0 := Lib.hid ((HL0.out.alloc _).blw hb4)
  obtain ⟨k3, _, l3⟩ := HL0.out.use
  replace HM := Lib.hid (HM.out.blw hb4)
  replace Hr1 := Lib.hid (Hr1.out.blw hb4); replace Hr2 := Lib.hid (Hr2.out.blw hb4)
  replace HBa := Lib.hid (HBa.out.trans (hb4.mono (by simp; omega)))
  obtain ⟨km, _, lm⟩ := HM.out.use
  clear hb4 H8a k2 HB0
  go_wp2_with fail
  refine (H9.out _ HBa.out).mono ?_
  rintro _ w5 ⟨rfl, hb5⟩
  replace HL0 := Lib.hid (HL0.out.blw hb5)
  replace HM := Lib.hid (HM.out.blw hb5)
  replace Hr1 := Lib.hid (Hr1.out.blw hb5); replace Hr2 := Lib.hid (Hr2.out.blw hb5)
  replace HBa := Lib.hid (HBa.out.trans (hb5.mono (by omega)))
  obtain ⟨k4, _, l4⟩ := HL0.out.use
  obtain ⟨km4, _, lm4⟩ := HM.out.use
  clear hb5 k3 km
  go_wp2_with fail
  go_ret
  exact ⟨rfl, HBa.out⟩
set_option maxHeartbeats 4000000 in
theorem c4_zero (g m : G) (an ak : Option Addr) (cn ck : Nat) (w : World) (hfin : allB g = true) (hk0 : m.kind = 0)
    (H7 : ∀ w', Below w.heap.size w w' → Calls Tryz.prog 7 #[.agg #[.int .i64 g.kind, .int .i64 g.dim, .slice an g.nums.length cn, .slice ak g.kids.length ck]] w' fun e w'' => e = .returned (.bool true) ∧ Below w'.heap.size w' w'')
    (H8 : ∀ (b : Nat) (w' : World), b < w'.heap.size → Lb w' b #[.int .i64 g.kind, .int .i64 g.dim, .slice an g.nums.length cn, .slice ak g.kids.length ck] 25 → Below w.heap.size w w' → Calls Tryz.prog 8 #[.slice (some ⟨b, 0, none⟩) 1 1] w' fun e w'' => e = .returned (.bool true) ∧ Below w'.heap.size w' w'')
    (H9 : ∀ w', Below w.heap.size w w' → Calls Tryz.prog 9 #[.agg #[.int .i64 g.kind, .int .i64 g.dim, .slice an g.nums.length cn, .slice ak g.kids.length ck], .func (.func 10) #[] #[]] w' fun e w'' => e = .returned (.bool (allB g)) ∧ Below w'.heap.size w' w'')
    (H13 : ∀ w', Below w.heap.size w w' → Calls Tryz.prog 13 #[.agg #[.int .i64 g.kind, .int .i64 g.dim, .slice an g.nums.length cn, .slice ak g.kids.length ck]] w' (NewR (fun _ => True) w' m))
    :
    Calls Tryz.prog 4 #[.agg #[.int .i64 g.kind, .int .i64 g.dim, .slice an g.nums.length cn, .slice ak g.kids.length ck]] w fun e w' => e = .returned (.bool true) ∧ Below w.heap.size w w' := by
  rw [hfin] at H9
  unfold NewR at H13; simp only [hk0] at H13
  clear hfin hk0
  generalize hA : (#[.int .i64 g.kind, .int .i64 g.dim, .slice an g.nums.length cn, .slice ak g.kids.length ck] : Array Value) = A at *
  have hAs : A.size = 4 := by rw [← hA]; rfl
  have HB0 := Lib.hid (bl_a1 w (.cells A 25))
  have HL0 := Lib.hid (Lb.new w A 25)
  replace H7 := Lib.hid H7; replace H8 := Lib.hid H8; replace H9 := Lib.hid H9; replace H13 := Lib.hid H13
  subst hA
  clear hAs
  go_enter Tryz.func4, Tryz.ntmps4
  go_wp2_with fail
  refine (H7.out _ HB0.out).mono ?_
  rintro _ w1 ⟨rfl, hb1⟩
  replace HL0 := Lib.hid (HL0.out.blw hb1)
  obtain ⟨k0, _, l0⟩ := HL0.out.use
  replace HB0 := Lib.hid (HB0.out.trans (hb1.mono (by simp)))
  have H8a := Lib.hid (H8.out w1.heap.size (w1.alloc (.cells #[.int .i64 g.kind, .int .i64 g.dim, .slice an g.nums.length cn, .slice ak g.kids.length ck] 25)) (by simp) (Lb.new w1 _ 25) (HB0.out.alloc (by omega) _))
  clear hb1
  go_wp2_with fail
  refine H8a.out.mono ?_
  rintro _ w2 ⟨rfl, hb2⟩
  replace HL0 := Lib.hid ((HL0.out.alloc _).blw hb2)
  obtain ⟨k1, _, l1⟩ := HL0.out.use
  replace HB0 := Lib.hid ((HB0.out.alloc (by omega) _).trans (hb2.mono (by simp; omega)))
  clear hb2 k0 H8a
  go_wp2_with fail
  refine (H13.out _ HB0.out).mono ?_
  rintro _ w3 ⟨a1, c1, a2, c2, rfl, hr1, hr2, hb3⟩
  have hl3 : w.heap.size < w3.heap.size := by have := hb3.size; omega
  replace HL0 := Lib.hid ((HL0.out.blw hb3).alloc (.cells #[.int .i64 0, .int .i64 m.dim, .slice a1 m.nums.length c1, .slice a2 m.kids.length c2] 25))
  obtain ⟨k2, _, l2⟩ := HL0.out.use
  replace HB0 := Lib.hid ((HB0.out.trans (hb3.mono (by omega))).alloc (by omega) (.cells #[.int .i64 0, .int .i64 m.dim, .slice a1 m.nums.length c1, .slice a2 m.kids.length c2] 25))
  have HM := Lib.hid ((Lb.new w3 #[.int .i64 0, .int .i64 m.dim, .slice a1 m.nums.length c1, .slice a2 m.kids.length c2] 25).alloc (.cells #[.int .i64 g.kind, .int .i64 g.dim, .slice an g.nums.length cn, .slice ak g.kids.length ck] 25))
  have Hr1 := Lib.hid ((hr1.alloc (.cells #[.int .i64 0, .int .i64 m.dim, .slice a1 m.nums.length c1, .slice a2 m.kids.length c2] 25)).alloc (.cells #[.int .i64 g.kind, .int .i64 g.dim, .slice an g.nums.length cn, .slice ak g.kids.length ck] 25))
  have Hr2 := Lib.hid ((hr2.alloc (.cells #[.int .i64 0, .int .i64 m.dim, .slice a1 m.nums.length c1, .slice a2 m.kids.length c2] 25)).alloc (.cells #[.int .i64 g.kind, .int .i64 g.dim, .slice an g.nums.length cn, .slice ak g.kids.length ck] 25))
  have HBa := Lib.hid (HB0.out.alloc (by simp; omega) (.cells #[.int .i64 g.kind, .int .i64 g.dim, .slice an g.nums.length cn, .slice ak g.kids.length ck] 25))
  have H8a := Lib.hid (H8.out (w3.heap.size + 1) ((w3.alloc (.cells #[.int .i64 0, .int .i64 m.dim, .slice a1 m.nums.length c1, .slice a2 m.kids.length c2] 25)).alloc (.cells #[.int .i64 g.kind, .int .i64 g.dim, .slice an g.nums.length cn, .slice ak g.kids.length ck] 25)) (by simp) (Lb.new2 w3 _ _ 25) HBa.out)
  clear hb3 hr1 hr2 k1
  go_wp2_with fail
  refine H8a.out.mono ?_
  rintro _ w4 ⟨rfl, hb4⟩
  replace HL0 := Lib.hid ((HL0.out.alloc _).blw hb4)
  obtain ⟨k3, _, l3⟩ := HL0.out.use
  replace HM := Lib.hid (HM.out.blw hb4)
  replace Hr1 := Lib.hid (Hr1.out.blw hb4); replace Hr2 := Lib.hid (Hr2.out.blw hb4)
  replace HBa := Lib.hid (HBa.out.trans (hb4.mono (by simp; omega)))
  obtain ⟨km, _, lm⟩ := HM.out.use
  clear hb4 H8a k2 HB0
  go_wp2_with fail
  refine (H9.out _ HBa.out).mono ?_
  rintro _ w5 ⟨rfl, hb5⟩
  replace HL0 := Lib.hid (HL0.out.blw hb5)
  replace HM := Lib.hid (HM.out.blw hb5)
  replace Hr1 := Lib.hid (Hr1.out.blw hb5); replace Hr2 := Lib.hid (Hr2.out.blw hb5)
  replace HBa := Lib.hid (HBa.out.trans (hb5.mono (by omega)))
  obtain ⟨k4, _, l4⟩ := HL0.out.use
  obtain ⟨km4, _, lm4⟩ := HM.out.use
  clear hb5 k3 km
  go_wp2_with fail
  go_ret
  exact ⟨rfl, HBa.out⟩

set_option maxHeartbeats 1000000 in
theorem c4 (tab : Nat → Int) (g : G) (vn vk : Value) (w : World) (hT : Tabs tab w) (hn : Rd (fun _ => True) w (fl g.nums) vn) (hk : Rd (fun _ => True) w (.list (G.fsL g.kids)) vk) (hcap : CapG w g vn vk) :
    Calls Tryz.prog 4 #[.agg #[.int .i64 g.kind, .int .i64 g.dim, vn, vk]] w fun e w' => e = .returned (.bool true) ∧ Below w.heap.size w w' := by
  obtain ⟨an, cn, rfl⟩ := fl_shape hn
  obtain ⟨ak, ck, rfl⟩ := kids_shape hk
  have hS : ∀ b : Nat, True := fun _ => trivial
  have HB0 := Lib.hid (bl_a1 w (.cells #[.int .i64 g.kind, .int .i64 g.dim, .slice an g.nums.length cn, .slice ak g.kids.length ck] 25))
  have HL0 := Lib.hid (Lb.new w #[.int .i64 g.kind, .int .i64 g.dim, .slice an g.nums.length cn, .slice ak g.kids.length ck] 25)
  have H7 := fun (w' : World) (_ : Below w.heap.size w w') => c7 g.kind g.dim an ak g.nums.length g.kids.length cn ck w'
  by_cases hfits : g.nums.length ≤ 2147483647 ∧ g.kids.length ≤ 2147483647
  rotate_left
  · have hfb : decide (g.nums.length ≤ 2147483647 ∧ g.kids.length ≤ 2147483647) = false := by simpa using hfits
    rw [hfb] at H7
    replace H7 := Lib.hid (H7 _ HB0.out)
    clear hfb hfits hn hk hcap hT
    go_enter Tryz.func4, Tryz.ntmps4
    go_wp2_with fail
    refine H7.out.mono ?_
    rintro _ w1 ⟨rfl, hb1⟩
    have HB1 := Lib.hid (HB0.out.trans (hb1.mono (by simp)))
    clear hb1
    go_wp2_with fail
    go_ret
    exact ⟨rfl, HB1.out⟩
  have hfb : decide (g.nums.length ≤ 2147483647 ∧ g.kids.length ≤ 2147483647) = true := by simpa using hfits
  rw [hfb] at H7
  have H8 : ∀ (b : Nat) (w' : World), b < w'.heap.size → Lb w' b #[.int .i64 g.kind, .int .i64 g.dim, .slice an g.nums.length cn, .slice ak g.kids.length ck] 25 → Below w.heap.size w w' → Calls Tryz.prog 8 #[.slice (some ⟨b, 0, none⟩) 1 1] w' fun e w'' => e = .returned (.bool (decide (0 ≤ gw g 2000))) ∧ Below w'.heap.size w' w'' := fun b w' hb hL hbl =>
    c8 (fun _ => True) g _ _ b w' hb (hL.use.1 0) (hL.use.1 1) (hL.use.1 2) (hL.use.1 3) (hn.blw hbl) (hk.blw hbl)
  have H9 : ∀ w', Below w.heap.size w w' → Calls Tryz.prog 9 #[.agg #[.int .i64 g.kind, .int .i64 g.dim, .slice an g.nums.length cn, .slice ak g.kids.length ck], .func (.func 10) #[] #[]] w' fun e w'' => e = .returned (.bool (allB g)) ∧ Below w'.heap.size w' w'' := fun w' hbl =>
    d9 (fun _ => True) g.size g _ _ w' (Nat.le_refl _) (hn.blw hbl) (hk.blw hbl)
  by_cases hsm : 0 ≤ gw g 2000
  rotate_left
  · have hsb : decide (0 ≤ gw g 2000) = false := by simpa using hsm
    rw [hsb] at H8
    replace H7 := Lib.hid (H7 _ HB0.out)
    replace H8 := Lib.hid H8
    clear hfb hfits hn hk hcap hT hsm hsb H9
    go_enter Tryz.func4, Tryz.ntmps4
    go_wp2_with fail
    refine H7.out.mono ?_
    rintro _ w1 ⟨rfl, hb1⟩
    have HL1 := Lib.hid (HL0.out.blw hb1)
    obtain ⟨kb, _, ltb⟩ := HL1.out.use
    have HB1 := Lib.hid (HB0.out.trans (hb1.mono (by simp)))
    clear hb1
    have H8a := Lib.hid (H8.out w1.heap.size (w1.alloc (.cells #[.int .i64 g.kind, .int .i64 g.dim, .slice an g.nums.length cn, .slice ak g.kids.length ck] 25)) (by simp) (Lb.new w1 _ 25) (HB1.out.alloc (by omega) _))
    go_wp2_with fail
    refine H8a.out.mono ?_
    rintro _ w2 ⟨rfl, hb2⟩
    have HB2 := Lib.hid ((HB1.out.alloc (by omega) (.cells #[.int .i64 g.kind, .int .i64 g.dim, .slice an g.nums.length cn, .slice ak g.kids.length ck] 25)).trans (hb2.mono (by simp; omega)))
    clear hb2
    go_wp2_with fail
    go_ret
    exact ⟨rfl, HB2.out⟩
  have hsb : decide (0 ≤ gw g 2000) = true := by simpa using hsm
  rw [hsb] at H8
  obtain ⟨hok, hfine, hlen, hfok, eF, hFok, eK, ej, d0, d1⟩ := json_law (ftxt tab) (ftxt_len tab) g hsm
  have hwt : g.wt ≤ 2000 := by have := gw_wt g 2000 hsm; omega
  have H13 : ∀ w', Below w.heap.size w w' → Calls Tryz.prog 13 #[.agg #[.int .i64 g.kind, .int .i64 g.dim, .slice an g.nums.length cn, .slice ak g.kids.length ck]] w' (NewR (fun _ => True) w' (newG g)) := fun w' hbl =>
    c13 g.size g (fun _ => True) _ _ w' (Nat.le_refl _) (by omega) (fun _ _ => trivial) (hn.blw hbl) (hk.blw hbl) (CapG.blw hbl g _ _ hcap)
  by_cases hfin : allB g = true
  rotate_left
  · exact c4_fin g (newG g) an ak cn ck w (by simpa using hfin) H7 H8 H9 H13
  by_cases hk0 : (newG g).kind = 0
  · exact c4_zero g (newG g) an ak cn ck w hfin hk0 H7 H8 H9 H13
  have hkk := newG_kind g
  have hkb : 1 ≤ g.kind ∧ g.kind ≤ 6 := by
    have h2 := hk0; rw [hkk] at h2; unfold kindOf at h2; split at h2 <;> omega
  have hkf : (newG g).kind = g.kind := by rw [hkk]; unfold kindOf; split <;> omega
  have h6 : ∀ w', Below w.heap.size w w' → 6 < w'.heap.size := fun w' hb => Nat.lt_of_lt_of_le hT.lt hb.size
  have hand : bits .and .i64 (newG g).dim 1 = (newG g).dim % 2 := by rcases four _ d0 d1 with e | e | e | e <;> rw [e] <;> decide
  have hm4 : (newG g).dim % 2 % 4 = (newG g).dim % 2 := by omega
  have hkl : (newG g).kids.length ≤ 1000000 := by
    generalize newG g = m at hfine; cases m; simp only [G.fine] at hfine; exact hfine.2.2.2.1
  refine c4_run g (newG g) (flatF g) (jgeoB (ftxt tab) (geoOf g)) ((newG g).dim % 2) an ak cn ck w (by omega) hkl hand hk0 hfin H7 H8 H9 H13
    (fun w' hbl => c14 tab (ftxt tab) (printsJ tab) (fun _ => True) g hok hkb.1 hkb.2 _ _ w' (hT.blw hbl) (h6 w' hbl) (by omega) (hn.blw hbl) (hk.blw hbl))
    (fun w' vn vk h1 h2 => by
      have := c15 (fun _ => True) (flatG (newG g)) ((newG g).dim % 2) vn vk w' hfok (fun _ _ => trivial) h1 (by rw [G.fsL_map]; exact h2)
      rw [hm4, eF] at this
      exact this)
    (fun w' vn vk hbl h1 h2 => by
      have := c14 tab (ftxt tab) (printsJ tab) (fun _ => True) (flatF g) hFok (by rw [eK, hkf]; exact hkb.1) (by rw [eK, hkf]; exact hkb.2) vn vk w' (hT.blw hbl) (h6 w' hbl) (by rw [ej]; omega) h1 h2
      rw [ej] at this
      exact this)
end Go.Proofs.YtahnhhkbdgaidaaGreatDoor
