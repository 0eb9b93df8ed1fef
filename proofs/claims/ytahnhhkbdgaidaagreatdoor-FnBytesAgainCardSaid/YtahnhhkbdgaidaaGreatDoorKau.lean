/-
  Plain data of a geometry of any kind.
-/
import Derived.Test.YtahnhhkbdgaidaaGreatDoorKas
import Derived.Test.YtahnhhkbdgaidaaGreatDoorKat
namespace Go.Proofs.YtahnhhkbdgaidaaGreatDoor
open Go.RowKit
set_option maxRecDepth 100000
theorem c105 (k : Int) (T b : Nat) (w : World) : Calls Tryz.prog 105 #[.agg #[.int .i64 k, .iface T (.pointer (some ⟨b, 0, none⟩))]] w fun e w' => e = .returned (.int .i64 k) ∧ Below w.heap.size w w' := by
  go_enter Tryz.func105, Tryz.ntmps105
  go_wp2
  go_ret
  exact ⟨rfl, by repeat (with_reducible first | exact Below.refl _ _ | refine Below.alloc ?_ (by simp) _)⟩
theorem c157 (t : Int) (a : Option Addr) (n c : Nat) (w : World) : Calls Tryz.prog 157 #[.agg #[.slice a n c, .int .u8 t]] w fun e w' => e = .returned (.int .i64 (n : Int)) ∧ Below w.heap.size w w' := by
  go_enter Tryz.func157, Tryz.ntmps157
  go_wp2
  go_ret
  exact ⟨rfl, by repeat (with_reducible first | exact Below.refl _ _ | refine Below.alloc ?_ (by simp) _)⟩
set_option maxHeartbeats 1000000 in
theorem c158 (S : Nat → Prop) (ls : List Geo) (j : Nat) (hj : j < ls.length) (t : Int) (a : Option Addr) (c : Nat) (w : World) (h : Rd S w (.list (ls.map Geo.fs)) (.slice a ls.length c)) :
    Calls Tryz.prog 158 #[.agg #[.slice a ls.length c, .int .u8 t], .int .i64 j] w fun e w' => ∃ b', e = .returned (.agg #[.int .i64 (ls[j]).kind, .iface (ls[j]).tid (.pointer (some ⟨b', 0, none⟩))]) ∧ GeoV S w' ls[j] (.iface (ls[j]).tid (.pointer (some ⟨b', 0, none⟩))) ∧ Below w.heap.size w w' := by
  obtain ⟨a0, c0, e0, hm, hat⟩ := geos_at h
  obtain ⟨rfl, _, rfl⟩ := Value.slice.inj e0
  obtain ⟨b, off, b', rfl, hSb, hb, q0, q1, hr⟩ := hat j hj
  have Hr := Lib.hid (Rd.ex (S := S) (L := w.heap.size + 1) hr (by omega))
  clear hr hat e0 h
  go_enter Tryz.func158, Tryz.ntmps158
  go_wp2
  refine bodyPost_ret (v := .agg #[.int .i64 (ls[j]).kind, .iface (ls[j]).tid (.pointer (some ⟨b', 0, none⟩))]) (by simp [results, Tryz.results158, go_sem]) rfl ⟨b', rfl, ?_, ?_⟩
  · refine Rd.unex (L := w.heap.size + 1) ?_
    repeat (with_reducible first | refine Rd.set ?_ _ _ | exact (Hr.out.alloc _).alloc _)
  · repeat (with_reducible first | refine Below.setCell ?_ (by simp) _ | exact ((Below.refl _ _).alloc (Nat.le_refl _) _).alloc (by simp) _)
set_option maxHeartbeats 4000000 in
theorem c112_g (S : Nat → Prop) (P : Nat → (Nat → Prop) → Value → World → Prop) (gs : List G) (f : F) (n : Nat) (hn : gs.length = n) (hlen : n ≤ 1000000) (t : Int) (a : Option Addr) (c : Nat) (w : World) (t0 : 0 ≤ t) (t1 : t ≤ 3) (hS : ∀ b, w.heap.size ≤ b → S b)
    (H1 : ∀ j, j < n → ∀ (S' : Nat → Prop) (w' : World), Rd S' w' f (.slice a n c) → Calls Tryz.prog 158 #[.agg #[.slice a n c, .int .u8 t], .int .i64 j] w' fun e w'' => ∃ u, e = .returned u ∧ P j S' u w'' ∧ Below w'.heap.size w' w'')
    (H2 : ∀ j (hj : j < gs.length) (S' : Nat → Prop) (u : Value) (w' : World), (∀ b, w'.heap.size ≤ b → S' b) → P j S' u w' → Calls Tryz.prog 47 #[u] w' fun e w'' => ∃ a1 c1 a2 c2, e = .returned (.agg #[.int .i64 (gs[j]).kind, .int .i64 (gs[j]).dim, .slice a1 (gs[j]).nums.length c1, .slice a2 (gs[j]).kids.length c2]) ∧
      Rd S' w'' (fl (gs[j]).nums) (.slice a1 (gs[j]).nums.length c1) ∧ Rd S' w'' (.list (G.fsL (gs[j]).kids)) (.slice a2 (gs[j]).kids.length c2) ∧ Below w'.heap.size w' w'')
    (h : Rd S w f (.slice a n c)) :
    Calls Tryz.prog 112 #[.agg #[.slice a n c, .int .u8 t]] w fun e w' => ∃ a' c', e = .returned (.agg #[.int .i64 0, .int .i64 t, .slice none 0 0, .slice a' n c']) ∧ Rd S w' (.list (G.fsL gs)) (.slice a' n c') ∧ Below w.heap.size w w' := by
  have l0 := Lib.hid (Lb.new' w #[.slice a n c, .int .u8 t] 104 (.cells #[.int .i64 0, .int .i64 0, .slice none 0 0, .slice none 0 0] 25))
  have l1 := Lib.hid (Lb.new2 w (.cells #[.slice a n c, .int .u8 t] 104) #[.int .i64 0, .int .i64 0, .slice none 0 0, .slice none 0 0] 25)
  have HB := Lib.hid (bl_a2 w (.cells #[.slice a n c, .int .u8 t] 104) (.cells #[.int .i64 0, .int .i64 0, .slice none 0 0, .slice none 0 0] 25))
  have HR := Lib.hid ((h.old.alloc (.cells #[.slice a n c, .int .u8 t] 104)).alloc (.cells #[.int .i64 0, .int .i64 0, .slice none 0 0, .slice none 0 0] 25))
  have H1 := Lib.hid H1; have H2 := Lib.hid H2
  clear h
  go_enter Tryz.func112, Tryz.ntmps112
  go_wp2_with fail
  refine (c156 _ _ _ _ _).mono ?_
  rintro _ w1 ⟨rfl, hb1⟩
  have hge : w.heap.size + 2 ≤ w1.heap.size := by have := hb1.size; simpa using this
  have hP : Kl w S w1.heap.size (w1.heap.size + 1) 0 t #[.slice a n c, .int .u8 t] 104 f (.slice a n c) ((gs.take 0).map G.fs) (.slice none 0 0) (w1.alloc (.cells #[.int .i64 0, .int .i64 t, .slice none 0 0, .slice none 0 0] 25)) :=
    ⟨(l0.out.blw hb1).alloc _, (l1.out.blw hb1).alloc _, Lb.new w1 _ _, Row.nil _ _ _ _ _, ((HR.out.blw hb1).alloc _).mono fun b _ hb => ⟨⟨⟨hb.1, by have := hb.2; omega⟩, by have := hb.2; omega⟩, by have := hb.2; omega⟩,
      (HB.out.trans (hb1.mono (by simp <;> omega))).alloc (by omega) _, hge, Nat.le_refl _, by simp⟩
  have HP := Lib.hid hP
  clear hP hb1 l0 l1 HB HR
  go_wp2_with fail
  go_loopw [4] (fun i wr => ∃ j : Nat, ∃ v, j ≤ n ∧ i = .int .i64 j ∧ Kl w S w1.heap.size (w1.heap.size + 1) 0 t #[.slice a n c, .int .u8 t] 104 f (.slice a n c) ((gs.take j).map G.fs) v wr) (fun i _ => n - (intOf i).toNat)
  case atStart => exact ⟨0, _, Nat.zero_le _, rfl, HP.out⟩
  case round =>
    clear HP
    obtain ⟨j, v, hj, rfl, hP⟩ := hrel
    obtain ⟨av, cv, hv⟩ := hP.own.shape
    have hel : ((gs.take j).map G.fs).length = j := by rw [List.length_map, List.length_take, Nat.min_eq_left (by omega)]
    rw [hel] at hv
    subst hv
    obtain ⟨kp, _, _⟩ := hP.lb0.use
    have HP := Lib.hid hP; have Hel := Lib.hid hel
    clear hP hel
    go_wp2_with fail
    refine (c157 _ _ _ _ _).mono ?_
    rintro _ wa ⟨rfl, hba⟩
    have hP := HP.out.step hba
    clear hba HP kp
    by_cases hlt : j < n
    · have hj' : j < gs.length := by omega
      have hbA : Below wa.heap.size wa wa.drew := (Below.refl _ _).drew
      have hPA := hP.step hbA
      have H1a := Lib.hid (H1.out j hlt (Sm (Ex (Ex S (w.heap.size + 1)) w1.heap.size) (.slice av j cv)) wa.drew ((hP.rd.mono (Sm_old hP)).blw hbA))
      have H2a := Lib.hid (fun (u : Value) (w' : World) (hsz : wa.heap.size ≤ w'.heap.size) hp => H2.out j hj' (Sm (Ex (Ex S (w.heap.size + 1)) w1.heap.size) (.slice av j cv)) u w' (Sm_new hP hS hsz) hp)
      have hfs : (gs.take (j + 1)).map G.fs = (gs.take j).map G.fs ++ [(gs[j]).fs] := by rw [take_map_succ gs G.fs j hj']
      rw [G.fs_eq] at hfs
      generalize (gs.take j).map G.fs = es at *
      generalize hes' : (gs.take (j + 1)).map G.fs = es' at *
      have Hes' := Lib.hid hes'
      clear hes'
      generalize gs[j] = q at *
      have Hfs := Lib.hid hfs
      obtain ⟨kg, _, _⟩ := hPA.lbg.use
      obtain ⟨kp, _, _⟩ := hPA.lb0.use
      have HP := Lib.hid hPA
      clear hP hPA hbA hfs hj' H1 H2
      go_wp2_with fail
      go_region_law (first
        | (refine step_append_eq rfl _ _ 23 rfl rfl rfl rfl Hap.out ?_)
        | (go_simp; go_at_call 158; refine H1a.out.mono ?_; rintro _ w3 ⟨u, rfl, hp3, hb3⟩
           have hP3 := HP.out.step hb3
           obtain ⟨kg3, _, _⟩ := hP3.lbg.use
           have H2b := Lib.hid (H2a.out u w3 hb3.size hp3)
           have HP3 := Lib.hid hP3
           clear hp3 hb3 hP3)
        | (go_simp; go_at_call 47; refine H2b.out.mono ?_; rintro _ w4 ⟨a1, c1, a2, c2, rfl, hr1, hr2, hb4⟩
           have hP4 := HP3.out.step hb4
           obtain ⟨kg4, _, _⟩ := hP4.lbg.use
           obtain ⟨a3, c3, w5, hap, hlg, hP5, hsz5⟩ := hP4.app q.kind q.dim (fl q.nums) (.list (G.fsL q.kids)) a1 a2 q.nums.length q.kids.length c1 c2 hr1 hr2 (by have := Hel.out; omega)
           rw [Hel.out] at hap hP5
           rw [← Hfs.out] at hP5
           obtain ⟨kg5, fg5, lg5⟩ := hlg.use
           have Hap := Lib.hid hap; have HP5 := Lib.hid hP5
           clear hr1 hr2 hb4 hP4 hap hlg hP5 hsz5))
      all_goals go_wp2_with fail
      all_goals go_roundw
      all_goals first
        | (simp [intOf]; omega; done)
        | exact ⟨j + 1, .slice a3 (j + 1) c3, by omega, by go_num, by rw [Hes'.out]; exact HP5.out⟩
    · obtain rfl : n = j := by omega
      have hdl : decide (((n : Nat) : Int) < n) = false := by simp
      obtain ⟨kr, fr, lr⟩ := hP.lb1.use
      obtain ⟨kg, _, lg⟩ := hP.lbg.use
      have hge' := hP.ge; have hgb := hP.gB; have hlt' := hP.lt
      have hrd := hP.own.rd (by omega) (fun b hb => ⟨⟨hS b (by omega), by omega⟩, by omega⟩) (by rw [Hel.out]; omega)
      have htk : (gs.take n).map G.fs = G.fsL gs := by rw [← hn, List.take_length, G.fsL_map]
      rw [htk] at hrd
      have HR := Lib.hid hrd; have HB := Lib.hid hP.bl
      clear hP hrd htk Hel H1 H2
      go_wp2_with fail
      refine bodyPost_ret (v := .agg #[.int .i64 0, .int .i64 t, .slice none 0 0, .slice av n cv]) (by simp [results, Tryz.results112, go_sem, *]) rfl ⟨av, cv, rfl, ?_, ?_⟩
      · refine Rd.unex (L := w.heap.size + 1) ?_
        have hd := HR.out.unex
        repeat (with_reducible first | refine Rd.set ?_ _ _ | exact hd)
      · repeat (with_reducible first | refine Below.setCell ?_ (by simp) _ | exact HB.out)
set_option maxHeartbeats 1000000 in
theorem c47_1 (S : Nat → Prop) (q : G) (x y z m : Nat) (t : Int) (f : Bool) (b : Nat) (w : World) (hb : b < w.heap.size) (q0 : w.cell? ⟨b, 0, none⟩ = some (.float .f64 x)) (q1 : w.cell? ⟨b, 1, none⟩ = some (.float .f64 y)) (q2 : w.cell? ⟨b, 2, none⟩ = some (.float .f64 z)) (q3 : w.cell? ⟨b, 3, none⟩ = some (.float .f64 m)) (q4 : w.cell? ⟨b, 4, none⟩ = some (.int .u8 t)) (q5 : w.cell? ⟨b, 5, none⟩ = some (.bool f))
    (HF : ∀ w1, Below w.heap.size w w1 → w.heap.size + 2 ≤ w1.heap.size → Calls Tryz.prog 106 #[.agg #[.float .f64 x, .float .f64 y, .float .f64 z, .float .f64 m, .int .u8 t, .bool f]] w1 (NewR (Ex S (w.heap.size + 1)) w1 q)) :
    Calls Tryz.prog 47 #[.agg #[.int .i64 1, .iface 168 (.pointer (some ⟨b, 0, none⟩))]] w (NewR S w q) := by
  have hsf := st_float
  have l0 := Lib.hid (Lb.new' w #[.int .i64 1, .iface 168 (.pointer (some ⟨b, 0, none⟩))] 47 (.cells #[.int .i64 0, .int .i64 0, .slice none 0 0, .slice none 0 0] 25))
  have l1 := Lib.hid (Lb.new2 w (.cells #[.int .i64 1, .iface 168 (.pointer (some ⟨b, 0, none⟩))] 47) #[.int .i64 0, .int .i64 0, .slice none 0 0, .slice none 0 0] 25)
  have HB := Lib.hid (bl_a2 w (.cells #[.int .i64 1, .iface 168 (.pointer (some ⟨b, 0, none⟩))] 47) (.cells #[.int .i64 0, .int .i64 0, .slice none 0 0, .slice none 0 0] 25))
  have HF := Lib.hid HF
  go_enter Tryz.func47, Tryz.ntmps47
  go_wp2_with fail
  refine (c105 _ _ _ _).mono ?_
  rintro _ w1 ⟨rfl, hb1⟩
  have hsz1 : w.heap.size + 2 ≤ w1.heap.size := by have := hb1.size; simpa using this
  have hB1 := HB.out.trans (hb1.mono (by simp <;> omega))
  obtain ⟨k0, _, _⟩ := (l0.out.blw hb1).use
  have Q0 := (hB1.cell (p := ⟨b, 0, none⟩) hb).trans q0
  have Q1 := (hB1.cell (p := ⟨b, 1, none⟩) hb).trans q1
  have Q2 := (hB1.cell (p := ⟨b, 2, none⟩) hb).trans q2
  have Q3 := (hB1.cell (p := ⟨b, 3, none⟩) hb).trans q3
  have Q4 := (hB1.cell (p := ⟨b, 4, none⟩) hb).trans q4
  have Q5 := (hB1.cell (p := ⟨b, 5, none⟩) hb).trans q5
  have l1a := Lib.hid (l1.out.blw hb1)
  have HB1 := Lib.hid hB1
  clear hB1 hb1 l0 l1 HB
  go_wp2_with fail
  refine (d67 x y z m t f b _ (by omega) Q0 Q1 Q2 Q3 Q4 Q5).mono ?_
  rintro _ w2 ⟨rfl, hb2⟩
  have l1b := Lib.hid (l1a.out.blw hb2)
  have HB2 := Lib.hid (HB1.out.trans (hb2.mono (by omega)))
  have HG := Lib.hid (HF.out w2 HB2.out (by have := hb2.size; omega))
  clear l1a HB1 HF hb2 q0 Q0 q1 Q1 q2 Q2 q3 Q3 q4 Q4 q5 Q5 k0
  go_wp2_with fail
  refine HG.out.mono ?_
  rintro _ w3 ⟨a1, c1, a2, c2, rfl, hr1, hr2, hb3⟩
  obtain ⟨kr, fr, lr⟩ := (l1b.out.blw hb3).use
  have HB3 := Lib.hid (HB2.out.trans (hb3.mono (by have := HB2.out.size; omega)))
  have Hr1 := Lib.hid hr1; have Hr2 := Lib.hid hr2
  clear hr1 hr2 hb3 HG HB2 l1b
  go_wp2_with fail
  refine bodyPost_ret (v := .agg #[.int .i64 q.kind, .int .i64 q.dim, .slice a1 q.nums.length c1, .slice a2 q.kids.length c2]) (by simp [results, Tryz.results47, go_sem, *]) rfl ⟨a1, c1, a2, c2, rfl, ?_, ?_, ?_⟩
  · refine Rd.unex (L := w.heap.size + 1) ?_
    repeat (with_reducible first | exact Hr1.out | refine Rd.set ?_ _ _)
  · refine Rd.unex (L := w.heap.size + 1) ?_
    repeat (with_reducible first | exact Hr2.out | refine Rd.set ?_ _ _)
  · repeat (with_reducible first | exact HB3.out | refine Below.setCell ?_ (by simp <;> omega) _)
set_option maxHeartbeats 1000000 in
theorem c47_2 (S : Nat → Prop) (q : G) (t : Int) (a : Option Addr) (n c : Nat) (b : Nat) (w : World) (hb : b < w.heap.size) (q0 : w.cell? ⟨b, 0, none⟩ = some (.int .u8 t)) (q1 : w.cell? ⟨b, 1, none⟩ = some (.slice a n c))
    (HF : ∀ w1, Below w.heap.size w w1 → w.heap.size + 2 ≤ w1.heap.size → Calls Tryz.prog 107 #[.agg #[.int .u8 t, .slice a n c]] w1 (NewR (Ex S (w.heap.size + 1)) w1 q)) :
    Calls Tryz.prog 47 #[.agg #[.int .i64 2, .iface 169 (.pointer (some ⟨b, 0, none⟩))]] w (NewR S w q) := by
  have hsf := st_float
  have l0 := Lib.hid (Lb.new' w #[.int .i64 2, .iface 169 (.pointer (some ⟨b, 0, none⟩))] 47 (.cells #[.int .i64 0, .int .i64 0, .slice none 0 0, .slice none 0 0] 25))
  have l1 := Lib.hid (Lb.new2 w (.cells #[.int .i64 2, .iface 169 (.pointer (some ⟨b, 0, none⟩))] 47) #[.int .i64 0, .int .i64 0, .slice none 0 0, .slice none 0 0] 25)
  have HB := Lib.hid (bl_a2 w (.cells #[.int .i64 2, .iface 169 (.pointer (some ⟨b, 0, none⟩))] 47) (.cells #[.int .i64 0, .int .i64 0, .slice none 0 0, .slice none 0 0] 25))
  have HF := Lib.hid HF
  go_enter Tryz.func47, Tryz.ntmps47
  go_wp2_with fail
  refine (c105 _ _ _ _).mono ?_
  rintro _ w1 ⟨rfl, hb1⟩
  have hsz1 : w.heap.size + 2 ≤ w1.heap.size := by have := hb1.size; simpa using this
  have hB1 := HB.out.trans (hb1.mono (by simp <;> omega))
  obtain ⟨k0, _, _⟩ := (l0.out.blw hb1).use
  have Q0 := (hB1.cell (p := ⟨b, 0, none⟩) hb).trans q0
  have Q1 := (hB1.cell (p := ⟨b, 1, none⟩) hb).trans q1
  have l1a := Lib.hid (l1.out.blw hb1)
  have HB1 := Lib.hid hB1
  clear hB1 hb1 l0 l1 HB
  go_wp2_with fail
  refine (d69 t a n c b _ (by omega) Q0 Q1).mono ?_
  rintro _ w2 ⟨rfl, hb2⟩
  have l1b := Lib.hid (l1a.out.blw hb2)
  have HB2 := Lib.hid (HB1.out.trans (hb2.mono (by omega)))
  have HG := Lib.hid (HF.out w2 HB2.out (by have := hb2.size; omega))
  clear l1a HB1 HF hb2 q0 Q0 q1 Q1 k0
  go_wp2_with fail
  refine HG.out.mono ?_
  rintro _ w3 ⟨a1, c1, a2, c2, rfl, hr1, hr2, hb3⟩
  obtain ⟨kr, fr, lr⟩ := (l1b.out.blw hb3).use
  have HB3 := Lib.hid (HB2.out.trans (hb3.mono (by have := HB2.out.size; omega)))
  have Hr1 := Lib.hid hr1; have Hr2 := Lib.hid hr2
  clear hr1 hr2 hb3 HG HB2 l1b
  go_wp2_with fail
  refine bodyPost_ret (v := .agg #[.int .i64 q.kind, .int .i64 q.dim, .slice a1 q.nums.length c1, .slice a2 q.kids.length c2]) (by simp [results, Tryz.results47, go_sem, *]) rfl ⟨a1, c1, a2, c2, rfl, ?_, ?_, ?_⟩
  · refine Rd.unex (L := w.heap.size + 1) ?_
    repeat (with_reducible first | exact Hr1.out | refine Rd.set ?_ _ _)
  · refine Rd.unex (L := w.heap.size + 1) ?_
    repeat (with_reducible first | exact Hr2.out | refine Rd.set ?_ _ _)
  · repeat (with_reducible first | exact HB3.out | refine Below.setCell ?_ (by simp <;> omega) _)
set_option maxHeartbeats 1000000 in
theorem c47_3 (S : Nat → Prop) (q : G) (t : Int) (a : Option Addr) (n c : Nat) (b : Nat) (w : World) (hb : b < w.heap.size) (q0 : w.cell? ⟨b, 0, none⟩ = some (.slice a n c)) (q1 : w.cell? ⟨b, 1, none⟩ = some (.int .u8 t))
    (HF : ∀ w1, Below w.heap.size w w1 → w.heap.size + 2 ≤ w1.heap.size → Calls Tryz.prog 108 #[.agg #[.slice a n c, .int .u8 t]] w1 (NewR (Ex S (w.heap.size + 1)) w1 q)) :
    Calls Tryz.prog 47 #[.agg #[.int .i64 3, .iface 170 (.pointer (some ⟨b, 0, none⟩))]] w (NewR S w q) := by
  have hsf := st_float
  have l0 := Lib.hid (Lb.new' w #[.int .i64 3, .iface 170 (.pointer (some ⟨b, 0, none⟩))] 47 (.cells #[.int .i64 0, .int .i64 0, .slice none 0 0, .slice none 0 0] 25))
  have l1 := Lib.hid (Lb.new2 w (.cells #[.int .i64 3, .iface 170 (.pointer (some ⟨b, 0, none⟩))] 47) #[.int .i64 0, .int .i64 0, .slice none 0 0, .slice none 0 0] 25)
  have HB := Lib.hid (bl_a2 w (.cells #[.int .i64 3, .iface 170 (.pointer (some ⟨b, 0, none⟩))] 47) (.cells #[.int .i64 0, .int .i64 0, .slice none 0 0, .slice none 0 0] 25))
  have HF := Lib.hid HF
  go_enter Tryz.func47, Tryz.ntmps47
  go_wp2_with fail
  refine (c105 _ _ _ _).mono ?_
  rintro _ w1 ⟨rfl, hb1⟩
  have hsz1 : w.heap.size + 2 ≤ w1.heap.size := by have := hb1.size; simpa using this
  have hB1 := HB.out.trans (hb1.mono (by simp <;> omega))
  obtain ⟨k0, _, _⟩ := (l0.out.blw hb1).use
  have Q0 := (hB1.cell (p := ⟨b, 0, none⟩) hb).trans q0
  have Q1 := (hB1.cell (p := ⟨b, 1, none⟩) hb).trans q1
  have l1a := Lib.hid (l1.out.blw hb1)
  have HB1 := Lib.hid hB1
  clear hB1 hb1 l0 l1 HB
  go_wp2_with fail
  refine (d71 t a n c b _ (by omega) Q0 Q1).mono ?_
  rintro _ w2 ⟨rfl, hb2⟩
  have l1b := Lib.hid (l1a.out.blw hb2)
  have HB2 := Lib.hid (HB1.out.trans (hb2.mono (by omega)))
  have HG := Lib.hid (HF.out w2 HB2.out (by have := hb2.size; omega))
  clear l1a HB1 HF hb2 q0 Q0 q1 Q1 k0
  go_wp2_with fail
  refine HG.out.mono ?_
  rintro _ w3 ⟨a1, c1, a2, c2, rfl, hr1, hr2, hb3⟩
  obtain ⟨kr, fr, lr⟩ := (l1b.out.blw hb3).use
  have HB3 := Lib.hid (HB2.out.trans (hb3.mono (by have := HB2.out.size; omega)))
  have Hr1 := Lib.hid hr1; have Hr2 := Lib.hid hr2
  clear hr1 hr2 hb3 HG HB2 l1b
  go_wp2_with fail
  refine bodyPost_ret (v := .agg #[.int .i64 q.kind, .int .i64 q.dim, .slice a1 q.nums.length c1, .slice a2 q.kids.length c2]) (by simp [results, Tryz.results47, go_sem, *]) rfl ⟨a1, c1, a2, c2, rfl, ?_, ?_, ?_⟩
  · refine Rd.unex (L := w.heap.size + 1) ?_
    repeat (with_reducible first | exact Hr1.out | refine Rd.set ?_ _ _)
  · refine Rd.unex (L := w.heap.size + 1) ?_
    repeat (with_reducible first | exact Hr2.out | refine Rd.set ?_ _ _)
  · repeat (with_reducible first | exact HB3.out | refine Below.setCell ?_ (by simp <;> omega) _)
set_option maxHeartbeats 1000000 in
theorem c47_4 (S : Nat → Prop) (q : G) (t : Int) (a : Option Addr) (n c : Nat) (b : Nat) (w : World) (hb : b < w.heap.size) (q0 : w.cell? ⟨b, 0, none⟩ = some (.slice a n c)) (q1 : w.cell? ⟨b, 1, none⟩ = some (.int .u8 t))
    (HF : ∀ w1, Below w.heap.size w w1 → w.heap.size + 2 ≤ w1.heap.size → Calls Tryz.prog 109 #[.agg #[.slice a n c, .int .u8 t]] w1 (NewR (Ex S (w.heap.size + 1)) w1 q)) :
    Calls Tryz.prog 47 #[.agg #[.int .i64 4, .iface 171 (.pointer (some ⟨b, 0, none⟩))]] w (NewR S w q) := by
  have hsf := st_float
  have l0 := Lib.hid (Lb.new' w #[.int .i64 4, .iface 171 (.pointer (some ⟨b, 0, none⟩))] 47 (.cells #[.int .i64 0, .int .i64 0, .slice none 0 0, .slice none 0 0] 25))
  have l1 := Lib.hid (Lb.new2 w (.cells #[.int .i64 4, .iface 171 (.pointer (some ⟨b, 0, none⟩))] 47) #[.int .i64 0, .int .i64 0, .slice none 0 0, .slice none 0 0] 25)
  have HB := Lib.hid (bl_a2 w (.cells #[.int .i64 4, .iface 171 (.pointer (some ⟨b, 0, none⟩))] 47) (.cells #[.int .i64 0, .int .i64 0, .slice none 0 0, .slice none 0 0] 25))
  have HF := Lib.hid HF
  go_enter Tryz.func47, Tryz.ntmps47
  go_wp2_with fail
  refine (c105 _ _ _ _).mono ?_
  rintro _ w1 ⟨rfl, hb1⟩
  have hsz1 : w.heap.size + 2 ≤ w1.heap.size := by have := hb1.size; simpa using this
  have hB1 := HB.out.trans (hb1.mono (by simp <;> omega))
  obtain ⟨k0, _, _⟩ := (l0.out.blw hb1).use
  have Q0 := (hB1.cell (p := ⟨b, 0, none⟩) hb).trans q0
  have Q1 := (hB1.cell (p := ⟨b, 1, none⟩) hb).trans q1
  have l1a := Lib.hid (l1.out.blw hb1)
  have HB1 := Lib.hid hB1
  clear hB1 hb1 l0 l1 HB
  go_wp2_with fail
  refine (d73 t a n c b _ (by omega) Q0 Q1).mono ?_
  rintro _ w2 ⟨rfl, hb2⟩
  have l1b := Lib.hid (l1a.out.blw hb2)
  have HB2 := Lib.hid (HB1.out.trans (hb2.mono (by omega)))
  have HG := Lib.hid (HF.out w2 HB2.out (by have := hb2.size; omega))
  clear l1a HB1 HF hb2 q0 Q0 q1 Q1 k0
  go_wp2_with fail
  refine HG.out.mono ?_
  rintro _ w3 ⟨a1, c1, a2, c2, rfl, hr1, hr2, hb3⟩
  obtain ⟨kr, fr, lr⟩ := (l1b.out.blw hb3).use
  have HB3 := Lib.hid (HB2.out.trans (hb3.mono (by have := HB2.out.size; omega)))
  have Hr1 := Lib.hid hr1; have Hr2 := Lib.hid hr2
  clear hr1 hr2 hb3 HG HB2 l1b
  go_wp2_with fail
  refine bodyPost_ret (v := .agg #[.int .i64 q.kind, .int .i64 q.dim, .slice a1 q.nums.length c1, .slice a2 q.kids.length c2]) (by simp [results, Tryz.results47, go_sem, *]) rfl ⟨a1, c1, a2, c2, rfl, ?_, ?_, ?_⟩
  · refine Rd.unex (L := w.heap.size + 1) ?_
    repeat (with_reducible first | exact Hr1.out | refine Rd.set ?_ _ _)
  · refine Rd.unex (L := w.heap.size + 1) ?_
    repeat (with_reducible first | exact Hr2.out | refine Rd.set ?_ _ _)
  · repeat (with_reducible first | exact HB3.out | refine Below.setCell ?_ (by simp <;> omega) _)
set_option maxHeartbeats 1000000 in
theorem c47_5 (S : Nat → Prop) (q : G) (t : Int) (a : Option Addr) (n c : Nat) (b : Nat) (w : World) (hb : b < w.heap.size) (q0 : w.cell? ⟨b, 0, none⟩ = some (.slice a n c)) (q1 : w.cell? ⟨b, 1, none⟩ = some (.int .u8 t))
    (HF : ∀ w1, Below w.heap.size w w1 → w.heap.size + 2 ≤ w1.heap.size → Calls Tryz.prog 110 #[.agg #[.slice a n c, .int .u8 t]] w1 (NewR (Ex S (w.heap.size + 1)) w1 q)) :
    Calls Tryz.prog 47 #[.agg #[.int .i64 5, .iface 172 (.pointer (some ⟨b, 0, none⟩))]] w (NewR S w q) := by
  have hsf := st_float
  have l0 := Lib.hid (Lb.new' w #[.int .i64 5, .iface 172 (.pointer (some ⟨b, 0, none⟩))] 47 (.cells #[.int .i64 0, .int .i64 0, .slice none 0 0, .slice none 0 0] 25))
  have l1 := Lib.hid (Lb.new2 w (.cells #[.int .i64 5, .iface 172 (.pointer (some ⟨b, 0, none⟩))] 47) #[.int .i64 0, .int .i64 0, .slice none 0 0, .slice none 0 0] 25)
  have HB := Lib.hid (bl_a2 w (.cells #[.int .i64 5, .iface 172 (.pointer (some ⟨b, 0, none⟩))] 47) (.cells #[.int .i64 0, .int .i64 0, .slice none 0 0, .slice none 0 0] 25))
  have HF := Lib.hid HF
  go_enter Tryz.func47, Tryz.ntmps47
  go_wp2_with fail
  refine (c105 _ _ _ _).mono ?_
  rintro _ w1 ⟨rfl, hb1⟩
  have hsz1 : w.heap.size + 2 ≤ w1.heap.size := by have := hb1.size; simpa using this
  have hB1 := HB.out.trans (hb1.mono (by simp <;> omega))
  obtain ⟨k0, _, _⟩ := (l0.out.blw hb1).use
  have Q0 := (hB1.cell (p := ⟨b, 0, none⟩) hb).trans q0
  have Q1 := (hB1.cell (p := ⟨b, 1, none⟩) hb).trans q1
  have l1a := Lib.hid (l1.out.blw hb1)
  have HB1 := Lib.hid hB1
  clear hB1 hb1 l0 l1 HB
  go_wp2_with fail
  refine (d75 t a n c b _ (by omega) Q0 Q1).mono ?_
  rintro _ w2 ⟨rfl, hb2⟩
  have l1b := Lib.hid (l1a.out.blw hb2)
  have HB2 := Lib.hid (HB1.out.trans (hb2.mono (by omega)))
  have HG := Lib.hid (HF.out w2 HB2.out (by have := hb2.size; omega))
  clear l1a HB1 HF hb2 q0 Q0 q1 Q1 k0
  go_wp2_with fail
  refine HG.out.mono ?_
  rintro _ w3 ⟨a1, c1, a2, c2, rfl, hr1, hr2, hb3⟩
  obtain ⟨kr, fr, lr⟩ := (l1b.out.blw hb3).use
  have HB3 := Lib.hid (HB2.out.trans (hb3.mono (by have := HB2.out.size; omega)))
  have Hr1 := Lib.hid hr1; have Hr2 := Lib.hid hr2
  clear hr1 hr2 hb3 HG HB2 l1b
  go_wp2_with fail
  refine bodyPost_ret (v := .agg #[.int .i64 q.kind, .int .i64 q.dim, .slice a1 q.nums.length c1, .slice a2 q.kids.length c2]) (by simp [results, Tryz.results47, go_sem, *]) rfl ⟨a1, c1, a2, c2, rfl, ?_, ?_, ?_⟩
  · refine Rd.unex (L := w.heap.size + 1) ?_
    repeat (with_reducible first | exact Hr1.out | refine Rd.set ?_ _ _)
  · refine Rd.unex (L := w.heap.size + 1) ?_
    repeat (with_reducible first | exact Hr2.out | refine Rd.set ?_ _ _)
  · repeat (with_reducible first | exact HB3.out | refine Below.setCell ?_ (by simp <;> omega) _)
set_option maxHeartbeats 1000000 in
theorem c47_6 (S : Nat → Prop) (q : G) (t : Int) (a : Option Addr) (n c : Nat) (b : Nat) (w : World) (hb : b < w.heap.size) (q0 : w.cell? ⟨b, 0, none⟩ = some (.slice a n c)) (q1 : w.cell? ⟨b, 1, none⟩ = some (.int .u8 t))
    (HF : ∀ w1, Below w.heap.size w w1 → w.heap.size + 2 ≤ w1.heap.size → Calls Tryz.prog 111 #[.agg #[.slice a n c, .int .u8 t]] w1 (NewR (Ex S (w.heap.size + 1)) w1 q)) :
    Calls Tryz.prog 47 #[.agg #[.int .i64 6, .iface 173 (.pointer (some ⟨b, 0, none⟩))]] w (NewR S w q) := by
  have hsf := st_float
  have l0 := Lib.hid (Lb.new' w #[.int .i64 6, .iface 173 (.pointer (some ⟨b, 0, none⟩))] 47 (.cells #[.int .i64 0, .int .i64 0, .slice none 0 0, .slice none 0 0] 25))
  have l1 := Lib.hid (Lb.new2 w (.cells #[.int .i64 6, .iface 173 (.pointer (some ⟨b, 0, none⟩))] 47) #[.int .i64 0, .int .i64 0, .slice none 0 0, .slice none 0 0] 25)
  have HB := Lib.hid (bl_a2 w (.cells #[.int .i64 6, .iface 173 (.pointer (some ⟨b, 0, none⟩))] 47) (.cells #[.int .i64 0, .int .i64 0, .slice none 0 0, .slice none 0 0] 25))
  have HF := Lib.hid HF
  go_enter Tryz.func47, Tryz.ntmps47
  go_wp2_with fail
  refine (c105 _ _ _ _).mono ?_
  rintro _ w1 ⟨rfl, hb1⟩
  have hsz1 : w.heap.size + 2 ≤ w1.heap.size := by have := hb1.size; simpa using this
  have hB1 := HB.out.trans (hb1.mono (by simp <;> omega))
  obtain ⟨k0, _, _⟩ := (l0.out.blw hb1).use
  have Q0 := (hB1.cell (p := ⟨b, 0, none⟩) hb).trans q0
  have Q1 := (hB1.cell (p := ⟨b, 1, none⟩) hb).trans q1
  have l1a := Lib.hid (l1.out.blw hb1)
  have HB1 := Lib.hid hB1
  clear hB1 hb1 l0 l1 HB
  go_wp2_with fail
  refine (d77 t a n c b _ (by omega) Q0 Q1).mono ?_
  rintro _ w2 ⟨rfl, hb2⟩
  have l1b := Lib.hid (l1a.out.blw hb2)
  have HB2 := Lib.hid (HB1.out.trans (hb2.mono (by omega)))
  have HG := Lib.hid (HF.out w2 HB2.out (by have := hb2.size; omega))
  clear l1a HB1 HF hb2 q0 Q0 q1 Q1 k0
  go_wp2_with fail
  refine HG.out.mono ?_
  rintro _ w3 ⟨a1, c1, a2, c2, rfl, hr1, hr2, hb3⟩
  obtain ⟨kr, fr, lr⟩ := (l1b.out.blw hb3).use
  have HB3 := Lib.hid (HB2.out.trans (hb3.mono (by have := HB2.out.size; omega)))
  have Hr1 := Lib.hid hr1; have Hr2 := Lib.hid hr2
  clear hr1 hr2 hb3 HG HB2 l1b
  go_wp2_with fail
  refine bodyPost_ret (v := .agg #[.int .i64 q.kind, .int .i64 q.dim, .slice a1 q.nums.length c1, .slice a2 q.kids.length c2]) (by simp [results, Tryz.results47, go_sem, *]) rfl ⟨a1, c1, a2, c2, rfl, ?_, ?_, ?_⟩
  · refine Rd.unex (L := w.heap.size + 1) ?_
    repeat (with_reducible first | exact Hr1.out | refine Rd.set ?_ _ _)
  · refine Rd.unex (L := w.heap.size + 1) ?_
    repeat (with_reducible first | exact Hr2.out | refine Rd.set ?_ _ _)
  · repeat (with_reducible first | exact HB3.out | refine Below.setCell ?_ (by simp <;> omega) _)
set_option maxHeartbeats 1000000 in
theorem c47_0 (S : Nat → Prop) (q : G) (t : Int) (a : Option Addr) (n c : Nat) (b : Nat) (w : World) (hb : b < w.heap.size) (q0 : w.cell? ⟨b, 0, none⟩ = some (.slice a n c)) (q1 : w.cell? ⟨b, 1, none⟩ = some (.int .u8 t))
    (HF : ∀ w1, Below w.heap.size w w1 → w.heap.size + 2 ≤ w1.heap.size → Calls Tryz.prog 112 #[.agg #[.slice a n c, .int .u8 t]] w1 (NewR (Ex S (w.heap.size + 1)) w1 q)) :
    Calls Tryz.prog 47 #[.agg #[.int .i64 0, .iface 176 (.pointer (some ⟨b, 0, none⟩))]] w (NewR S w q) := by
  have hsf := st_float
  have l0 := Lib.hid (Lb.new' w #[.int .i64 0, .iface 176 (.pointer (some ⟨b, 0, none⟩))] 47 (.cells #[.int .i64 0, .int .i64 0, .slice none 0 0, .slice none 0 0] 25))
  have l1 := Lib.hid (Lb.new2 w (.cells #[.int .i64 0, .iface 176 (.pointer (some ⟨b, 0, none⟩))] 47) #[.int .i64 0, .int .i64 0, .slice none 0 0, .slice none 0 0] 25)
  have HB := Lib.hid (bl_a2 w (.cells #[.int .i64 0, .iface 176 (.pointer (some ⟨b, 0, none⟩))] 47) (.cells #[.int .i64 0, .int .i64 0, .slice none 0 0, .slice none 0 0] 25))
  have HF := Lib.hid HF
  go_enter Tryz.func47, Tryz.ntmps47
  go_wp2_with fail
  refine (c105 _ _ _ _).mono ?_
  rintro _ w1 ⟨rfl, hb1⟩
  have hsz1 : w.heap.size + 2 ≤ w1.heap.size := by have := hb1.size; simpa using this
  have hB1 := HB.out.trans (hb1.mono (by simp <;> omega))
  obtain ⟨k0, _, _⟩ := (l0.out.blw hb1).use
  have Q0 := (hB1.cell (p := ⟨b, 0, none⟩) hb).trans q0
  have Q1 := (hB1.cell (p := ⟨b, 1, none⟩) hb).trans q1
  have l1a := Lib.hid (l1.out.blw hb1)
  have HB1 := Lib.hid hB1
  clear hB1 hb1 l0 l1 HB
  go_wp2_with fail
  refine (d65 t a n c b _ (by omega) Q0 Q1).mono ?_
  rintro _ w2 ⟨rfl, hb2⟩
  have l1b := Lib.hid (l1a.out.blw hb2)
  have HB2 := Lib.hid (HB1.out.trans (hb2.mono (by omega)))
  have HG := Lib.hid (HF.out w2 HB2.out (by have := hb2.size; omega))
  clear l1a HB1 HF hb2 q0 Q0 q1 Q1 k0
  go_wp2_with fail
  refine HG.out.mono ?_
  rintro _ w3 ⟨a1, c1, a2, c2, rfl, hr1, hr2, hb3⟩
  obtain ⟨kr, fr, lr⟩ := (l1b.out.blw hb3).use
  have HB3 := Lib.hid (HB2.out.trans (hb3.mono (by have := HB2.out.size; omega)))
  have Hr1 := Lib.hid hr1; have Hr2 := Lib.hid hr2
  clear hr1 hr2 hb3 HG HB2 l1b
  go_wp2_with fail
  refine bodyPost_ret (v := .agg #[.int .i64 q.kind, .int .i64 q.dim, .slice a1 q.nums.length c1, .slice a2 q.kids.length c2]) (by simp [results, Tryz.results47, go_sem, *]) rfl ⟨a1, c1, a2, c2, rfl, ?_, ?_, ?_⟩
  · refine Rd.unex (L := w.heap.size + 1) ?_
    repeat (with_reducible first | exact Hr1.out | refine Rd.set ?_ _ _)
  · refine Rd.unex (L := w.heap.size + 1) ?_
    repeat (with_reducible first | exact Hr2.out | refine Rd.set ?_ _ _)
  · repeat (with_reducible first | exact HB3.out | refine Below.setCell ?_ (by simp <;> omega) _)
theorem c106' (S : Nat → Prop) (p : Pt) (w : World) (hok : p.ok) (hS : ∀ b, w.heap.size ≤ b → S b) : Calls Tryz.prog 106 #[.agg p.cells] w (NewR S w (ptG p)) :=
  (c106 S p w hok hS).mono fun e w' ⟨vn, he, hr, hb⟩ => by
    obtain ⟨an, cn, rfl⟩ := fl_shape hr
    exact ⟨an, cn, none, 0, he, hr, .nil _ _, hb⟩
theorem c107' (S : Nat → Prop) (l : Ln) (a : Option Addr) (c : Nat) (w : World) (hok : l.ok) (hS : ∀ b, w.heap.size ≤ b → S b) (h : Rd S w (fl l.xs) (.slice a l.xs.length c)) : Calls Tryz.prog 107 #[.agg #[.int .u8 l.t, .slice a l.xs.length c]] w (NewR S w (lnG l)) :=
  (c107 S l.t l.xs a c w hok.1 hok.2.1 hS hok.2.2.2 h).mono fun e w' ⟨vn, he, hr, hb⟩ => by
    rw [nums_back l.t l.xs hok.1 hok.2.1 hok.2.2.1] at hr
    obtain ⟨an, cn, rfl⟩ := fl_shape hr
    exact ⟨an, cn, none, 0, he, hr, .nil _ _, hb⟩
theorem c108' (S : Nat → Prop) (p : Pg) (a : Option Addr) (c : Nat) (w : World) (hok : p.ok) (hS : ∀ b, w.heap.size ≤ b → S b) (h : Rd S w (.list (p.rings.map Ln.fs)) (.slice a p.rings.length c)) : Calls Tryz.prog 108 #[.agg #[.slice a p.rings.length c, .int .u8 p.t]] w (NewR S w (pgG p)) :=
  (c108 S p.rings p.t a c w hok.2.1 hok.1 hok.2.2.1 hok.2.2.2 hS h).mono fun e w' ⟨a', c', he, hr, hb⟩ =>
    ⟨none, 0, a', c', by rw [he]; simp [pgG, G.kids, G.kind, G.dim, G.nums], .nil _ _, by simpa [pgG, G.kids] using hr, hb⟩
theorem c109 (S : Nat → Prop) (ls : List Pt) (t : Int) (a : Option Addr) (c : Nat) (w : World) (hlen : ls.length ≤ 1000000) (hok : ∀ l ∈ ls, l.ok) (t0 : 0 ≤ t) (t1 : t ≤ 3) (hS : ∀ b, w.heap.size ≤ b → S b) (h : Rd S w (.list (ls.map Pt.fs)) (.slice a ls.length c)) :
    Calls Tryz.prog 109 #[.agg #[.slice a ls.length c, .int .u8 t]] w (NewR S w (.mk 4 t [] (ls.map ptG))) :=
  (c109_g S (fun j _ u _ => ∃ h : j < ls.length, u = .agg (ls[j]).cells) (ls.map ptG) (.list (ls.map Pt.fs)) ls.length (by simp) hlen t a c w t0 t1 hS
    (fun j hj S' w' hr => (c153 S' ls j hj t a c w' hr).mono fun e w'' ⟨he, hb⟩ => ⟨_, he, ⟨hj, rfl⟩, hb⟩)
    (fun j hj S' u w' hS' ⟨hj', hu⟩ => by
      subst hu
      have e : (ls.map ptG)[j] = ptG ls[j] := by simp
      rw [e]; exact c106' S' ls[j] w' (hok _ (List.getElem_mem hj')) hS') h).mono fun e w' ⟨a', c', he, hr, hb⟩ => ⟨none, 0, a', c', by rw [he]; simp [G.kids, G.kind, G.dim, G.nums], .nil _ _, by simpa [G.kids] using hr, hb⟩
theorem c110 (S : Nat → Prop) (ls : List Ln) (t : Int) (a : Option Addr) (c : Nat) (w : World) (hlen : ls.length ≤ 1000000) (hok : ∀ l ∈ ls, l.ok) (t0 : 0 ≤ t) (t1 : t ≤ 3) (hS : ∀ b, w.heap.size ≤ b → S b) (h : Rd S w (.list (ls.map Ln.fs)) (.slice a ls.length c)) :
    Calls Tryz.prog 110 #[.agg #[.slice a ls.length c, .int .u8 t]] w (NewR S w (.mk 5 t [] (ls.map lnG))) :=
  (c110_g S (fun j S' u w' => ∃ h : j < ls.length, ∃ a' c', u = .agg #[.int .u8 (ls[j]).t, .slice a' (ls[j]).xs.length c'] ∧ Rd S' w' (fl (ls[j]).xs) (.slice a' (ls[j]).xs.length c')) (ls.map lnG) (.list (ls.map Ln.fs)) ls.length (by simp) hlen t a c w t0 t1 hS
    (fun j hj S' w' hr => (c144 S' ls j hj t a c w' hr).mono fun e w'' ⟨a', c', he, hr', hb⟩ => ⟨_, he, ⟨hj, a', c', rfl, hr'⟩, hb⟩)
    (fun j hj S' u w' hS' ⟨hj', a', c', hu, hr'⟩ => by
      subst hu
      have e : (ls.map lnG)[j] = lnG ls[j] := by simp
      rw [e]; exact c107' S' ls[j] a' c' w' (hok _ (List.getElem_mem hj')) hS' hr') h).mono fun e w' ⟨a', c', he, hr, hb⟩ => ⟨none, 0, a', c', by rw [he]; simp [G.kids, G.kind, G.dim, G.nums], .nil _ _, by simpa [G.kids] using hr, hb⟩
theorem c111 (S : Nat → Prop) (ls : List Pg) (t : Int) (a : Option Addr) (c : Nat) (w : World) (hlen : ls.length ≤ 1000000) (hok : ∀ l ∈ ls, l.ok) (t0 : 0 ≤ t) (t1 : t ≤ 3) (hS : ∀ b, w.heap.size ≤ b → S b) (h : Rd S w (.list (ls.map Pg.fs)) (.slice a ls.length c)) :
    Calls Tryz.prog 111 #[.agg #[.slice a ls.length c, .int .u8 t]] w (NewR S w (.mk 6 t [] (ls.map pgG))) :=
  (c111_g S (fun j S' u w' => ∃ h : j < ls.length, ∃ a' c', u = .agg #[.slice a' (ls[j]).rings.length c', .int .u8 (ls[j]).t] ∧ Rd S' w' (.list ((ls[j]).rings.map Ln.fs)) (.slice a' (ls[j]).rings.length c')) (ls.map pgG) (.list (ls.map Pg.fs)) ls.length (by simp) hlen t a c w t0 t1 hS
    (fun j hj S' w' hr => (c147 S' ls j hj t a c w' hr).mono fun e w'' ⟨a', c', he, hr', hb⟩ => ⟨_, he, ⟨hj, a', c', rfl, hr'⟩, hb⟩)
    (fun j hj S' u w' hS' ⟨hj', a', c', hu, hr'⟩ => by
      subst hu
      have e : (ls.map pgG)[j] = pgG ls[j] := by simp
      rw [e]; exact c108' S' ls[j] a' c' w' (hok _ (List.getElem_mem hj')) hS' hr') h).mono fun e w' ⟨a', c', he, hr, hb⟩ => ⟨none, 0, a', c', by rw [he]; simp [G.kids, G.kind, G.dim, G.nums], .nil _ _, by simpa [G.kids] using hr, hb⟩
theorem c47 : ∀ (m : Nat) (g : Geo) (S : Nat → Prop) (w : World) (v : Value), g.size ≤ m → g.ok → (∀ b, w.heap.size ≤ b → S b) → GeoV S w g v →
    Calls Tryz.prog 47 #[.agg #[.int .i64 g.kind, v]] w (NewR S w g.toG) := by
  intro m
  induction m with
  | zero => intro g _ _ _ h; cases g <;> simp [Geo.size] at h
  | succ m ih =>
    intro g S w v hm hok hS h
    obtain ⟨b, rfl⟩ := h.shape
    have hup : ∀ w1 : World, w.heap.size + 2 ≤ w1.heap.size → ∀ b, w1.heap.size ≤ b → Ex S (w.heap.size + 1) b := fun w1 h1 b hb => ⟨hS b (by omega), by omega⟩
    cases g with
    | pt p =>
      obtain ⟨hb, q0, q1, q2, q3, q4, q5⟩ := box_pt h
      exact c47_1 S (ptG p) _ _ _ _ _ _ b w hb q0 q1 q2 q3 q4 q5 (fun w1 hB hs => c106' _ p w1 hok (hup w1 hs))
    | ln l =>
      obtain ⟨hb, a, c, q0, q1, hr⟩ := box_ln h
      exact c47_2 S (lnG l) _ _ _ _ b w hb q0 q1 (fun w1 hB hs => c107' _ l a c w1 hok (hup w1 hs) ((Rd.ex (L := w.heap.size + 1) hr (by omega)).blw hB))
    | pg p =>
      obtain ⟨hb, a, c, q0, q1, hr⟩ := box_list h
      have hl : (p.rings.map Ln.fs).length = p.rings.length := by simp
      rw [hl] at q0 hr
      exact c47_3 S (pgG p) _ _ _ _ b w hb q0 q1 (fun w1 hB hs => c108' _ p a c w1 hok (hup w1 hs) ((Rd.ex (L := w.heap.size + 1) hr (by omega)).blw hB))
    | mp ps t =>
      obtain ⟨hb, a, c, q0, q1, hr⟩ := box_list (h : Rd S w (.box 171 [.list (ps.map Pt.fs), .atom (.int .u8 t)]) _)
      have hl : (ps.map Pt.fs).length = ps.length := by simp
      rw [hl] at q0 hr
      exact c47_4 S (.mk 4 t [] (ps.map ptG)) _ _ _ _ b w hb q0 q1 (fun w1 hB hs => c109 _ ps t a c w1 hok.2.1 hok.1 hok.2.2.1 hok.2.2.2 (hup w1 hs) ((Rd.ex (L := w.heap.size + 1) hr (by omega)).blw hB))
    | ml ps t =>
      obtain ⟨hb, a, c, q0, q1, hr⟩ := box_list (h : Rd S w (.box 172 [.list (ps.map Ln.fs), .atom (.int .u8 t)]) _)
      have hl : (ps.map Ln.fs).length = ps.length := by simp
      rw [hl] at q0 hr
      exact c47_5 S (.mk 5 t [] (ps.map lnG)) _ _ _ _ b w hb q0 q1 (fun w1 hB hs => c110 _ ps t a c w1 hok.2.1 hok.1 hok.2.2.1 hok.2.2.2 (hup w1 hs) ((Rd.ex (L := w.heap.size + 1) hr (by omega)).blw hB))
    | mg ps t =>
      obtain ⟨hb, a, c, q0, q1, hr⟩ := box_list (h : Rd S w (.box 173 [.list (ps.map Pg.fs), .atom (.int .u8 t)]) _)
      have hl : (ps.map Pg.fs).length = ps.length := by simp
      rw [hl] at q0 hr
      exact c47_6 S (.mk 6 t [] (ps.map pgG)) _ _ _ _ b w hb q0 q1 (fun w1 hB hs => c111 _ ps t a c w1 hok.2.1 hok.1 hok.2.2.1 hok.2.2.2 (hup w1 hs) ((Rd.ex (L := w.heap.size + 1) hr (by omega)).blw hB))
    | gc gs t =>
      obtain ⟨hb, a, c, q0, q1, hr⟩ := box_list (h : Rd S w (.box 176 [.list (Geo.fsL gs), .atom (.int .u8 t)]) _)
      have hl : (Geo.fsL gs).length = gs.length := by rw [Geo.fsL_map, List.length_map]
      rw [hl] at q0 hr
      rw [Geo.fsL_map] at hr
      simp only [Geo.ok] at hok
      simp only [Geo.size] at hm
      have e0 : (Geo.gc gs t).toG = .mk 0 t [] (gs.map Geo.toG) := by simp only [Geo.toG, Geo.toGL_map]
      rw [e0]
      refine c47_0 S (.mk 0 t [] (gs.map Geo.toG)) _ _ _ _ b w hb q0 q1 (fun w1 hB hs => ?_)
      refine (c112_g (Ex S (w.heap.size + 1)) (fun j S' u w' => ∃ h : j < gs.length, ∃ b', u = .agg #[.int .i64 (gs[j]).kind, .iface (gs[j]).tid (.pointer (some ⟨b', 0, none⟩))] ∧ GeoV S' w' gs[j] (.iface (gs[j]).tid (.pointer (some ⟨b', 0, none⟩)))) (gs.map Geo.toG) (.list (gs.map Geo.fs)) gs.length (by simp) hok.2.1 t a c w1 hok.2.2.1 hok.2.2.2 (hup w1 hs)
        (fun j hj S' w' hr => (c158 S' gs j hj t a c w' hr).mono fun e w'' ⟨b', he, hr', hb⟩ => ⟨_, he, ⟨hj, b', rfl, hr'⟩, hb⟩)
        (fun j hj S' u w' hS' ⟨hj', b', hu, hr'⟩ => by
          subst hu
          have e : (gs.map Geo.toG)[j] = (gs[j]).toG := by simp
          rw [e]
          exact ih gs[j] S' w' _ (by have := Geo.size_kid gs j hj'; omega) (Geo.okL_mem hok.1 _ (List.getElem_mem hj')) hS' hr') ((Rd.ex (L := w.heap.size + 1) hr (by omega)).blw hB)).mono fun e w' ⟨a', c', he, hr, hb⟩ => ⟨none, 0, a', c', by rw [he]; simp [G.kids, G.kind, G.dim, G.nums], .nil _ _, by simpa [G.kids] using hr, hb⟩
end Go.Proofs.YtahnhhkbdgaidaaGreatDoor
