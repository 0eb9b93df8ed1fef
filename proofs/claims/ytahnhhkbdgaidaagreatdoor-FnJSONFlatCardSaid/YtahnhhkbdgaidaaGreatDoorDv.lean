/-
  FnJSONFlat: the law's own walk.
-/
import Derived.Test.YtahnhhkbdgaidaaGreatDoorDu
import Derived.Test.YtahnhhkbdgaidaaGreatDoorDy
import Derived.Test.YtahnhhkbdgaidaaGreatDoorCz
namespace Go.Proofs.YtahnhhkbdgaidaaGreatDoor
open Go.RowKit
set_option maxRecDepth 100000
/-- What WriteJSON answers. -/
def JsonR (w : World) (T : List UInt8) : Ending → World → Prop := fun e w' => ∃ v', e = .returned (.tuple #[v', .bool true]) ∧ Out w v' T w'
theorem kept_next (ks : List G) (j : Nat) (h : j < ks.length) : ((ks.take (j + 1)).filter fullG).map G.fs = ((ks.take j).filter fullG).map G.fs ++ (if fullG ks[j] then [(ks[j]).fs] else []) := by
  rw [List.take_succ_eq_append_getElem h, List.filter_append, List.map_append]
  congr 1
  simp only [List.filter_cons, List.filter_nil]
  split <;> simp
theorem kept_len (ks : List G) (j : Nat) (hj : j ≤ ks.length) : (((ks.take j).filter fullG).map G.fs).length ≤ j := by
  rw [List.length_map]
  exact Nat.le_trans (List.length_filter_le _ _) (by rw [List.length_take]; omega)
set_option maxHeartbeats 8000000 in
theorem c4_run (g m q : G) (T : List UInt8) (d2 : Int) (an ak : Option Addr) (cn ck : Nat) (w : World) (hT : T.length ≤ 17592186044416) (hkl : m.kids.length ≤ 1000000) (hand : bits .and .i64 m.dim 1 = d2) (hk0 : m.kind ≠ 0) (hfin : allB g = true)
    (H7 : ∀ w', Below w.heap.size w w' → Calls Tryz.prog 7 #[.agg #[.int .i64 g.kind, .int .i64 g.dim, .slice an g.nums.length cn, .slice ak g.kids.length ck]] w' fun e w'' => e = .returned (.bool true) ∧ Below w'.heap.size w' w'')
    (H8 : ∀ (b : Nat) (w' : World), b < w'.heap.size → Lb w' b #[.int .i64 g.kind, .int .i64 g.dim, .slice an g.nums.length cn, .slice ak g.kids.length ck] 25 → Below w.heap.size w w' → Calls Tryz.prog 8 #[.slice (some ⟨b, 0, none⟩) 1 1] w' fun e w'' => e = .returned (.bool true) ∧ Below w'.heap.size w' w'')
    (H9 : ∀ w', Below w.heap.size w w' → Calls Tryz.prog 9 #[.agg #[.int .i64 g.kind, .int .i64 g.dim, .slice an g.nums.length cn, .slice ak g.kids.length ck], .func (.func 10) #[] #[]] w' fun e w'' => e = .returned (.bool (allB g)) ∧ Below w'.heap.size w' w'')
    (H13 : ∀ w', Below w.heap.size w w' → Calls Tryz.prog 13 #[.agg #[.int .i64 g.kind, .int .i64 g.dim, .slice an g.nums.length cn, .slice ak g.kids.length ck]] w' (NewR (fun _ => True) w' m))
    (H14 : ∀ w', Below w.heap.size w w' → Calls Tryz.prog 14 #[.agg #[.int .i64 g.kind, .int .i64 g.dim, .slice an g.nums.length cn, .slice ak g.kids.length ck]] w' (JsonR w' T))
    (H15 : ∀ w' vn vk, Rd (fun _ => True) w' (fl m.nums) vn → Rd (fun _ => True) w' (.list ((m.kids.filter fullG).map G.fs)) vk → Calls Tryz.prog 15 #[.agg #[.int .i64 m.kind, .int .i64 m.dim, vn, vk], .int .i64 d2] w' (NewR (fun _ => True) w' q))
    (H14b : ∀ w' vn vk, Below w.heap.size w w' → Rd (fun _ => True) w' (fl q.nums) vn → Rd (fun _ => True) w' (.list (G.fsL q.kids)) vk → Calls Tryz.prog 14 #[.agg #[.int .i64 q.kind, .int .i64 q.dim, vn, vk]] w' (JsonR w' T)) :
    Calls Tryz.prog 4 #[.agg #[.int .i64 g.kind, .int .i64 g.dim, .slice an g.nums.length cn, .slice ak g.kids.length ck]] w fun e w' => e = .returned (.bool true) ∧ Below w.heap.size w w' := by
  rw [hfin] at H9
  generalize hA : (#[.int .i64 g.kind, .int .i64 g.dim, .slice an g.nums.length cn, .slice ak g.kids.length ck] : Array Value) = A at *
  have hAs : A.size = 4 := by rw [← hA]; rfl
  have HB0 := Lib.hid (bl_a1 w (.cells A 25))
  have HL0 := Lib.hid (Lb.new w A 25)
  replace H7 := Lib.hid H7; replace H8 := Lib.hid H8; replace H9 := Lib.hid H9; replace H13 := Lib.hid H13; replace H14 := Lib.hid H14; replace H15 := Lib.hid H15; replace H14b := Lib.hid H14b
  subst hA
  clear hAs hfin
  go_enter Tryz.func4, Tryz.ntmps4
  go_wp2_with fail
  refine (H7.out _ HB0.out).mono ?_
  rintro _ w1 ⟨rfl, hb1⟩
  replace HL0 := Lib.hid (HL0.out.blw hb1)
  obtain ⟨k0, _, l0⟩ := HL0.out.use
  replace HB0 := Lib.hid (HB0.out.trans (hb1.mono (by simp)))
  have H8a := Lib.hid (H8.out w1.heap.size (w1.alloc (.cells #[.int .i64 g.kind, .int .i64 g.dim, .slice an g.nums.length cn, .slice ak g.kids.length ck] 25)) (by simp) (Lb.new w1 _ 25) (HB0.out.alloc (by omega) _))
  clear hb1
  go_wp2_with fail
  refine H8a.out.mono ?_
  rintro _ w2 ⟨rfl, hb2⟩
  replace HL0 := Lib.hid ((HL0.out.alloc _).blw hb2)
  obtain ⟨k1, _, l1⟩ := HL0.out.use
  replace HB0 := Lib.hid ((HB0.out.alloc (by omega) _).trans (hb2.mono (by simp; omega)))
  clear hb2 k0 H8a
  go_wp2_with fail
  refine (H13.out _ HB0.out).mono ?_
  rintro _ w3 ⟨a1, c1, a2, c2, rfl, hr1, hr2, hb3⟩
  have hl3 : w.heap.size < w3.heap.size := by have := hb3.size; omega
  replace HL0 := Lib.hid ((HL0.out.blw hb3).alloc (.cells #[.int .i64 m.kind, .int .i64 m.dim, .slice a1 m.nums.length c1, .slice a2 m.kids.length c2] 25))
  obtain ⟨k2, _, l2⟩ := HL0.out.use
  replace HB0 := Lib.hid ((HB0.out.trans (hb3.mono (by omega))).alloc (by omega) (.cells #[.int .i64 m.kind, .int .i64 m.dim, .slice a1 m.nums.length c1, .slice a2 m.kids.length c2] 25))
  have HM := Lib.hid ((Lb.new w3 #[.int .i64 m.kind, .int .i64 m.dim, .slice a1 m.nums.length c1, .slice a2 m.kids.length c2] 25).alloc (.cells #[.int .i64 g.kind, .int .i64 g.dim, .slice an g.nums.length cn, .slice ak g.kids.length ck] 25))
  have Hr1 := Lib.hid ((hr1.alloc (.cells #[.int .i64 m.kind, .int .i64 m.dim, .slice a1 m.nums.length c1, .slice a2 m.kids.length c2] 25)).alloc (.cells #[.int .i64 g.kind, .int .i64 g.dim, .slice an g.nums.length cn, .slice ak g.kids.length ck] 25))
  have Hr2 := Lib.hid ((hr2.alloc (.cells #[.int .i64 m.kind, .int .i64 m.dim, .slice a1 m.nums.length c1, .slice a2 m.kids.length c2] 25)).alloc (.cells #[.int .i64 g.kind, .int .i64 g.dim, .slice an g.nums.length cn, .slice ak g.kids.length ck] 25))
  have HBa := Lib.hid (HB0.out.alloc (by simp; omega) (.cells #[.int .i64 g.kind, .int .i64 g.dim, .slice an g.nums.length cn, .slice ak g.kids.length ck] 25))
  have H8a := Lib.hid (H8.out (w3.heap.size + 1) ((w3.alloc (.cells #[.int .i64 m.kind, .int .i64 m.dim, .slice a1 m.nums.length c1, .slice a2 m.kids.length c2] 25)).alloc (.cells #[.int .i64 g.kind, .int .i64 g.dim, .slice an g.nums.length cn, .slice ak g.kids.length ck] 25)) (by simp) (Lb.new2 w3 _ _ 25) HBa.out)
  clear hb3 hr1 hr2 k1
  go_wp2_with fail
  refine H8a.out.mono ?_
  rintro _ w4 ⟨rfl, hb4⟩
  replace HL0 := Lib.hid ((HL0.out.alloc _).blw hb4)
  obtain ⟨k3, _, l3⟩ := HL0.out.use
  replace HM := Lib.hid (HM.out.blw hb4)
  replace Hr1 := Lib.hid (Hr1.out.blw hb4); replace Hr2 := Lib.hid (Hr2.out.blw hb4)
  replace HBa := Lib.hid (HBa.out.trans (hb4.mono (by simp; omega)))
  obtain ⟨km, _, lm⟩ := HM.out.use
  clear hb4 H8a k2 HB0
  go_wp2_with fail
  refine (H9.out _ HBa.out).mono ?_
  rintro _ w5 ⟨rfl, hb5⟩
  replace HL0 := Lib.hid (HL0.out.blw hb5)
  replace HM := Lib.hid (HM.out.blw hb5)
  replace Hr1 := Lib.hid (Hr1.out.blw hb5); replace Hr2 := Lib.hid (Hr2.out.blw hb5)
  replace HBa := Lib.hid (HBa.out.trans (hb5.mono (by omega)))
  obtain ⟨k4, _, l4⟩ := HL0.out.use
  obtain ⟨km4, _, lm4⟩ := HM.out.use
  clear hb5 k3 km
  go_wp2_with fail
  refine (H14.out _ HBa.out).mono ?_
  rintro _ w6 ⟨v6, rfl, hO⟩
  have hb6 := hO.below
  have Ho := Lib.hid (hO.rd hT)
  replace HM := Lib.hid (HM.out.blw hb6)
  replace Hr1 := Lib.hid (Hr1.out.blw hb6); replace Hr2 := Lib.hid (Hr2.out.blw hb6)
  replace HBa := Lib.hid (HBa.out.trans (hb6.mono (by omega)))
  obtain ⟨km5, _, lm5⟩ := HM.out.use
  have hl6 : w3.heap.size < w6.heap.size := lm5
  clear hb6 hO k4 km4 HL0 H7 H8 H9 H13 H14
  go_wp2_with fail
  go_loopw [49] (fun i wr => ∃ j : Nat, ∃ v, j ≤ m.kids.length ∧ i = .int .i64 j ∧ Row (Ex (fun _ => True) w6.heap.size) (w6.heap.size + 1) wr 25 4 v (((m.kids.take j).filter fullG).map G.fs) ∧ Lb wr w6.heap.size #[.int .i64 m.kind, .int .i64 m.dim, .slice a1 m.nums.length c1, v] 25 ∧ Below w6.heap.size w6 wr) (fun i _ => m.kids.length - (intOf i).toNat)
  case atStart => exact ⟨0, .slice none 0 0, Nat.zero_le _, rfl, Row.nil _ _ _ _ _, Lb.new w6 _ _, bl_a1 w6 _⟩
  case round =>
    obtain ⟨j, v, hj, rfl, hR, hL, hB⟩ := hrel
    obtain ⟨av, cv, hv⟩ := hR.shape
    have hel := kept_len m.kids j hj
    have hrk : Rd (fun b => b < w6.heap.size) wr (.list (G.fsL m.kids)) (.slice a2 m.kids.length c2) := (Hr2.out.mono fun b hb _ => hb).blw hB
    by_cases hlt : j < m.kids.length
    · obtain ⟨a0, c0, e0, hmx, hat⟩ := kids_inv hrk
      obtain ⟨rfl, _, rfl⟩ := Value.slice.inj e0
      obtain ⟨b, off, vn0, vk0, rfl, hSb, hbl, q0, q1, q2, q3, r2, r3⟩ := hat j hlt
      obtain ⟨an0, cn0, rfl⟩ := fl_shape r2
      obtain ⟨ak0, ck0, rfl⟩ := kids_shape r3
      have hnx := kept_next m.kids j hlt
      generalize m.kids[j] = kk at *
      have hfs := G.fs_eq kk
      have hfl : fullG kk = (decide (kk.kind ≠ 1) || decide (0 < kk.nums.length)) := rfl
      generalize kk.kind = kd at *
      generalize kk.fs = kfs at *
      generalize fullG kk = ful at *
      generalize ((m.kids.take j).filter fullG).map G.fs = es at *
      generalize hes' : ((m.kids.take (j + 1)).filter fullG).map G.fs = es' at *
      have Hes' := Lib.hid hes'; have Hnx := Lib.hid hnx; have Hel := Lib.hid hel
      subst hv
      have hgw : w6.heap.size + 1 ≤ wr.heap.size := hL.use.2.2
      have hdn : ∀ b, b < wr.heap.size → b < w6.heap.size → Sm (Ex (fun _ => True) w6.heap.size) (.slice av es.length cv) b := fun b _ hb => ⟨⟨trivial, by omega⟩, fun e => by have := (hR.lt b e.symm).1; omega⟩
      have hRA := hR.alloc (.cells #[.int .i64 kd, .int .i64 kk.dim, .slice an0 kk.nums.length cn0, .slice ak0 kk.kids.length ck0] 25)
      have hLA := hL.alloc (.cells #[.int .i64 kd, .int .i64 kk.dim, .slice an0 kk.nums.length cn0, .slice ak0 kk.kids.length ck0] 25)
      have hBA := hB.alloc (by omega) (.cells #[.int .i64 kd, .int .i64 kk.dim, .slice an0 kk.nums.length cn0, .slice ak0 kk.kids.length ck0] 25)
      obtain ⟨kg, _, _⟩ := hLA.use
      obtain ⟨v2, w7, hap, ⟨a3, c3, rfl⟩, hR4, hg⟩ := app_one (P := Tryz.prog) 23 25 4 64 _ Tryz.underlying23 info25 rfl (by omega) (by omega) hRA kfs (by rw [hfs]; rfl) #[.int .i64 kd, .int .i64 kk.dim, .slice an0 kk.nums.length cn0, .slice ak0 kk.kids.length ck0] rfl (by simp [Value.oneCell']) (by
         intro jj hjj
         simp only [hfs] at hjj ⊢
         have hjc : jj = 0 ∨ jj = 1 ∨ jj = 2 ∨ jj = 3 := by have : jj < 4 := hjj; omega
         rcases hjc with rfl | rfl | rfl | rfl
         · exact ⟨_, rfl, .atom _⟩
         · exact ⟨_, rfl, .atom _⟩
         · exact ⟨_, rfl, (r2.mono hdn).alloc _⟩
         · exact ⟨_, rfl, (r3.mono hdn).alloc _⟩) (by omega) (by simp; omega)
      rw [World.size_alloc] at hap
      have hown : ∀ qq, (Value.slice av es.length cv).ownBlock = some qq → w6.heap.size + 1 ≤ qq := fun qq hq => (hR.lt qq hq).1
      have hL7 := hLA.grown hg (fun e => by have := hown _ e.symm; omega)
      have hB7 := hBA.grown hg (by simp; omega) (fun qq hq => by have := hown qq hq; omega)
      obtain ⟨kg7, fg7, lg7⟩ := hL7.use
      have Hap := Lib.hid hap; have HR4 := Lib.hid hR4; have HL7 := Lib.hid hL7; have HB7 := Lib.hid hB7
      have HRA := Lib.hid hRA; have HLA := Lib.hid hLA; have HBA := Lib.hid hBA; have Hfs := Lib.hid hfs
      clear hap hR4 hL7 hB7 hR hRA hL hLA hB hBA hat e0 r2 r3 hdn hrk hg hown hel hnx hes' hfs
      by_cases hk1 : kd = 1
      · subst hk1
        by_cases hnn : 0 < kk.nums.length
        · have hd1 : decide ((0 : Int) < (kk.nums.length : Int)) = true := by simpa using hnn
          obtain rfl : ful = true := by rw [hfl]; simpa using hnn
          clear hfl
          go_wp2_with (first | (at_builtin; refine wpList_append_eq rfl _ _ 23 rfl rfl rfl rfl Hap.out ?_))
          go_roundw
          case rel => exact ⟨j + 1, _, by omega, by go_num, by rw [Hes'.out, Hnx.out]; exact HR4.out.far (by simp) (fun h => h.2 rfl) _, HL7.out.set 3 _, HB7.out.setCell (by simp) _⟩
          case measure => simp [intOf]; omega
        · have hd1 : decide ((0 : Int) < (kk.nums.length : Int)) = false := by simpa using hnn
          obtain rfl : ful = false := by rw [hfl]; simpa using hnn
          clear hfl
          go_wp2_with fail
          go_roundw
          case rel => exact ⟨j + 1, _, by omega, by go_num, by rw [Hes'.out, Hnx.out]; simpa using HRA.out, HLA.out, HBA.out⟩
          case measure => simp [intOf]; omega
      · obtain rfl : ful = true := by rw [hfl]; simp [hk1]
        clear hfl
        go_wp2_with (first | (at_builtin; refine wpList_append_eq rfl _ _ 23 rfl rfl rfl rfl Hap.out ?_))
        go_roundw
        case rel => exact ⟨j + 1, _, by omega, by go_num, by rw [Hes'.out, Hnx.out]; exact HR4.out.far (by simp) (fun h => h.2 rfl) _, HL7.out.set 3 _, HB7.out.setCell (by simp) _⟩
        case measure => simp [intOf]; omega
    · obtain rfl : j = m.kids.length := by omega
      have hdl : decide (((m.kids.length : Nat) : Int) < m.kids.length) = false := by simp
      obtain ⟨kg, _, lg⟩ := hL.use
      obtain ⟨kh, _, _⟩ := (HM.out.blw hB).use
      have hgw : w6.heap.size + 1 ≤ wr.heap.size := lg
      have hrd : Rd (fun _ => True) wr (.list ((m.kids.filter fullG).map G.fs)) v := by
        have := hR.rd (by omega) (fun b hb => ⟨trivial, by omega⟩) (by omega)
        rw [List.take_length] at this
        exact this.mono fun _ _ _ => trivial
      rw [List.take_length, List.length_map] at hv
      have H15a := Lib.hid (H15.out wr _ _ (Hr1.out.blw hB) hrd)
      have Hor := Lib.hid (Ho.out.blw hB)
      have HBr := Lib.hid (HBa.out.trans (hB.mono (by omega)))
      subst hv
      clear hR hL hB hrd hrk H15 Ho Hr1 Hr2 HBa HM
      go_wp2_with fail
      refine H15a.out.mono ?_
      rintro _ w8 ⟨a4, c4, a5, c5, rfl, hq1, hq2, hb8⟩
      have HB8 := Lib.hid (HBr.out.trans (hb8.mono (by have := HBr.out.size; omega)))
      have H14c := Lib.hid (H14b.out w8 _ _ HB8.out hq1 hq2)
      replace Hor := Lib.hid (Hor.out.blw hb8)
      clear hq1 hq2 hb8 H15a H14b HBr
      go_wp2_with fail
      refine H14c.out.mono ?_
      rintro _ w9 ⟨v9, rfl, hO9⟩
      have hb9 := hO9.below
      have hs1 := byt_str (Hor.out.blw hb9)
      have hs2 := byt_str (hO9.rd hT)
      have HB9 := Lib.hid (HB8.out.trans (hb9.mono HB8.out.size))
      clear hO9 hb9 H14c Hor HB8
      go_wp2_with fail
      go_ret
      exact ⟨rfl, HB9.out⟩
end Go.Proofs.YtahnhhkbdgaidaaGreatDoor
