/-
  Plain data of a geometry: polygons; several points, lines, polygons.
  The reference's geometry of plain data: room in slices, appends of numbers.
-/
import Derived.Test.YtahnhhkbdgaidaaGreatDoorKar
namespace Go.Proofs.YtahnhhkbdgaidaaGreatDoor
open Go.RowKit
set_option maxRecDepth 100000
theorem Sm_new {S : Nat → Prop} {w0 w w' : World} {g B : Nat} {k t : Int} {A : Array Value} {TA : TypeId} {f : F} {fv : Value} {es : List (List F)} {v : Value} (h : Kl w0 S g B k t A TA f fv es v w) (hS : ∀ b, w0.heap.size ≤ b → S b) (hb : w.heap.size ≤ w'.heap.size) : ∀ b, w'.heap.size ≤ b → Sm (Ex (Ex S (w0.heap.size + 1)) g) v b := fun b hb' => by
  have h1 := h.ge; have h2 := h.gB; have h3 := h.lt
  exact ⟨⟨⟨hS b (by omega), by omega⟩, by omega⟩, fun e => by have := (h.own.lt b e.symm).2; omega⟩
theorem Sm_old {S : Nat → Prop} {w0 w : World} {g B : Nat} {k t : Int} {A : Array Value} {TA : TypeId} {f : F} {fv : Value} {es : List (List F)} {v : Value} (h : Kl w0 S g B k t A TA f fv es v w) : ∀ b, b < w.heap.size → Old (Ex (Ex S (w0.heap.size + 1)) g) B b → Sm (Ex (Ex S (w0.heap.size + 1)) g) v b := fun b _ hb =>
  ⟨hb.1, fun e => by have := (h.own.lt b e.symm).1; have := hb.2; omega⟩
theorem lnG_fs (l : Ln) : (lnG l).fs = [.atom (.int .i64 2), .atom (.int .i64 l.t), fl l.xs, .list []] := rfl
theorem maps_len {α β γ : Type} (l : List α) (f : α → β) (h : β → γ) (j : Nat) (hj : j ≤ l.length) : (((l.take j).map f).map h).length = j := by
  rw [List.length_map, List.length_map, List.length_take, Nat.min_eq_left hj]
theorem maps_next {α β γ : Type} (l : List α) (f : α → β) (h : β → γ) (j : Nat) (hj : j < l.length) : ((l.take (j + 1)).map f).map h = ((l.take j).map f).map h ++ [h (f l[j])] := by
  rw [take_map_succ l f j hj, List.map_append]; rfl
set_option maxHeartbeats 4000000 in
theorem c108 (S : Nat → Prop) (ls : List Ln) (t : Int) (a : Option Addr) (c : Nat) (w : World) (hlen : ls.length ≤ 1000000) (hok : ∀ l ∈ ls, l.ok) (t0 : 0 ≤ t) (t1 : t ≤ 3) (hS : ∀ b, w.heap.size ≤ b → S b) (h : Rd S w (.list (ls.map Ln.fs)) (.slice a ls.length c)) :
    Calls Tryz.prog 108 #[.agg #[.slice a ls.length c, .int .u8 t]] w fun e w' => ∃ a' c', e = .returned (.agg #[.int .i64 3, .int .i64 t, .slice none 0 0, .slice a' ls.length c']) ∧ Rd S w' (.list (G.fsL (ls.map lnG))) (.slice a' ls.length c') ∧ Below w.heap.size w w' := by
  have l0 := Lib.hid (Lb.new' w #[.slice a ls.length c, .int .u8 t] 73 (.cells #[.int .i64 0, .int .i64 0, .slice none 0 0, .slice none 0 0] 25))
  have l1 := Lib.hid (Lb.new2 w (.cells #[.slice a ls.length c, .int .u8 t] 73) #[.int .i64 0, .int .i64 0, .slice none 0 0, .slice none 0 0] 25)
  have HB := Lib.hid (bl_a2 w (.cells #[.slice a ls.length c, .int .u8 t] 73) (.cells #[.int .i64 0, .int .i64 0, .slice none 0 0, .slice none 0 0] 25))
  have HR := Lib.hid ((h.old.alloc (.cells #[.slice a ls.length c, .int .u8 t] 73)).alloc (.cells #[.int .i64 0, .int .i64 0, .slice none 0 0, .slice none 0 0] 25))
  clear h
  go_enter Tryz.func108, Tryz.ntmps108
  go_wp2_with fail
  refine (c145 _ _ _ _ _).mono ?_
  rintro _ w1 ⟨rfl, hb1⟩
  have hge : w.heap.size + 2 ≤ w1.heap.size := by have := hb1.size; simpa using this
  have hB1 : Below w.heap.size w (w1.alloc (.cells #[.int .i64 3, .int .i64 t, .slice none 0 0, .slice none 0 0] 25)) := (HB.out.trans (hb1.mono (by simp <;> omega))).alloc (by omega) _
  have H150 := Lib.hid (c150 (Ex (Ex S (w.heap.size + 1)) w1.heap.size) ls t a c (w1.alloc (.cells #[.int .i64 3, .int .i64 t, .slice none 0 0, .slice none 0 0] 25)) hlen (fun b hb => by simp at hb; exact ⟨⟨hS b (by omega), by omega⟩, by omega⟩)
    (((HR.out.blw hb1).alloc _).mono fun b _ hb => ⟨⟨hb.1, by have := hb.2; omega⟩, by have := hb.2; omega⟩))
  have HB1 := Lib.hid hB1
  obtain ⟨k0, _, _⟩ := ((l0.out.blw hb1).alloc (.cells #[.int .i64 3, .int .i64 t, .slice none 0 0, .slice none 0 0] 25)).use
  obtain ⟨k1, _, _⟩ := (l0.out.blw hb1).use
  replace l0 := Lib.hid ((l0.out.blw hb1).alloc (.cells #[.int .i64 3, .int .i64 t, .slice none 0 0, .slice none 0 0] 25))
  replace l1 := Lib.hid ((l1.out.blw hb1).alloc (.cells #[.int .i64 3, .int .i64 t, .slice none 0 0, .slice none 0 0] 25))
  clear hb1 hB1 HR HB
  go_wp2_with fail
  refine H150.out.mono ?_
  rintro _ w2 ⟨a2, c2, rfl, hr2, hb2⟩
  have hsz2 : w1.heap.size + 1 ≤ w2.heap.size := by have := hb2.size; simpa using this
  have hP : Kl w S w1.heap.size w2.heap.size 3 t #[.slice a ls.length c, .int .u8 t] 73 (.list (ls.map Ln.fs)) (.slice a2 ls.length c2) (((ls.take 0).map lnG).map G.fs) (.slice none 0 0) w2 :=
    ⟨l0.out.blw hb2, l1.out.blw hb2, (Lb.new w1 _ _).blw hb2, Row.nil _ _ _ _ _, hr2.old, HB1.out.trans (hb2.mono (by simp; omega)), hge, hsz2, Nat.le_refl _⟩
  have HP := Lib.hid hP
  clear hP hr2 hb2 l0 l1 HB1 H150 k0 k1
  go_wp2_with fail
  go_loopw [13] (fun i wr => ∃ j : Nat, ∃ v, j ≤ ls.length ∧ i = .int .i64 j ∧ Kl w S w1.heap.size w2.heap.size 3 t #[.slice a ls.length c, .int .u8 t] 73 (.list (ls.map Ln.fs)) (.slice a2 ls.length c2) (((ls.take j).map lnG).map G.fs) v wr) (fun i _ => ls.length - (intOf i).toNat)
  case atStart => exact ⟨0, _, Nat.zero_le _, rfl, HP.out⟩
  case round =>
    clear HP
    obtain ⟨j, v, hj, rfl, hP⟩ := hrel
    obtain ⟨av, cv, hv⟩ := hP.own.shape
    rw [maps_len ls lnG G.fs j hj] at hv
    subst hv
    by_cases hlt : j < ls.length
    · obtain ⟨a0, c0, e0, hm, hat⟩ := lines_at hP.rd
      obtain ⟨rfl, _, rfl⟩ := Value.slice.inj e0
      obtain ⟨b, off, a', c', rfl, hSb, hbl, q0, q1, hr⟩ := hat j hlt
      obtain ⟨z0, z1, zm, zq⟩ := hok _ (List.getElem_mem hlt)
      have hfs := maps_next ls lnG G.fs j hlt
      have hel := maps_len ls lnG G.fs j hj
      rw [lnG_fs] at hfs
      generalize ((ls.take j).map lnG).map G.fs = es at *
      generalize hes' : ((ls.take (j + 1)).map lnG).map G.fs = es' at *
      have Hes' := Lib.hid hes'
      clear hes'
      generalize ls[j] = l at *
      obtain ⟨lt, lx⟩ := l
      simp only at z0 z1 zm zq hfs q0 q1 hr
      have hbA : Below wr.heap.size wr ((wr.alloc (.cells #[.int .u8 lt, .slice a' lx.length c'] 69)).drew) := (bl_a1 wr _).drew
      have hPA := hP.step hbA
      have H107 := c107 (Sm (Ex (Ex S (w.heap.size + 1)) w1.heap.size) (.slice av j cv)) lt lx a' c' ((wr.alloc (.cells #[.int .u8 lt, .slice a' lx.length c'] 69)).drew) z0 z1 (Sm_new hP hS hbA.size) zq ((hr.mono (Sm_old hP)).blw hbA)
      rw [nums_back lt lx z0 z1 zm] at H107
      replace H107 := Lib.hid H107
      have Hfs := Lib.hid hfs; have Hel := Lib.hid hel
      obtain ⟨kg, _, _⟩ := hPA.lbg.use
      obtain ⟨kg0, _, _⟩ := hP.lbg.use
      have HP := Lib.hid hPA
      clear hP hPA hbA hat hr hfs hel z0 z1 zm zq e0
      go_wp2_with fail
      go_region_law (first
        | (refine step_append_eq rfl _ _ 23 rfl rfl rfl rfl Hap.out ?_)
        | (go_simp; go_at_call 107; refine H107.out.mono ?_; rintro _ w3 ⟨vn, rfl, hr1, hb3⟩
           obtain ⟨an, cn, rfl⟩ := fl_shape hr1
           have hP3 := HP.out.step hb3
           obtain ⟨kg3, _, _⟩ := hP3.lbg.use
           obtain ⟨a3, c3, w4, hap, hlg, hP4, hsz4⟩ := hP3.app 2 lt (fl lx) (.list []) an none lx.length 0 cn 0 hr1 (.nil _ _) (by have := Hel.out; omega)
           rw [Hel.out] at hap hP4
           rw [← Hfs.out] at hP4
           obtain ⟨kg4, fg4, lg4⟩ := hlg.use
           have Hap := Lib.hid hap; have HP4 := Lib.hid hP4
           clear hr1 hb3 hP3 hap hlg hP4 hsz4))
      all_goals go_wp2_with fail
      all_goals go_roundw
      all_goals first
        | (simp [intOf]; omega; done)
        | exact ⟨j + 1, .slice a3 (j + 1) c3, by omega, by go_num, by rw [Hes'.out]; exact HP4.out⟩
    · obtain rfl : j = ls.length := by omega
      have hdl : decide (((ls.length : Nat) : Int) < ls.length) = false := by simp
      obtain ⟨kr, fr, lr⟩ := hP.lb1.use
      obtain ⟨kg, _, lg⟩ := hP.lbg.use
      have hrd := hP.own.rd (by omega) (fun b hb => ⟨⟨hS b (by omega), by omega⟩, by omega⟩) (by rw [maps_len ls lnG G.fs _ (Nat.le_refl _)]; omega)
      rw [List.take_length, ← G.fsL_map] at hrd
      have HR := Lib.hid hrd; have HB := Lib.hid hP.bl
      clear hP hrd
      go_wp2_with fail
      refine bodyPost_ret (v := .agg #[.int .i64 3, .int .i64 t, .slice none 0 0, .slice av ls.length cv]) (by simp [results, Tryz.results108, go_sem, *]) rfl ⟨av, cv, rfl, ?_, ?_⟩
      · refine Rd.unex (L := w.heap.size + 1) ?_
        have hd := HR.out.unex
        repeat (with_reducible first | refine Rd.set ?_ _ _ | exact hd)
      · repeat (with_reducible first | refine Below.setCell ?_ (by simp) _ | exact HB.out)
set_option maxHeartbeats 4000000 in
theorem c109_g (S : Nat → Prop) (P : Nat → (Nat → Prop) → Value → World → Prop) (gs : List G) (f : F) (n : Nat) (hn : gs.length = n) (hlen : n ≤ 1000000) (t : Int) (a : Option Addr) (c : Nat) (w : World) (t0 : 0 ≤ t) (t1 : t ≤ 3) (hS : ∀ b, w.heap.size ≤ b → S b)
    (H1 : ∀ j, j < n → ∀ (S' : Nat → Prop) (w' : World), Rd S' w' f (.slice a n c) → Calls Tryz.prog 153 #[.agg #[.slice a n c, .int .u8 t], .int .i64 j] w' fun e w'' => ∃ u, e = .returned u ∧ P j S' u w'' ∧ Below w'.heap.size w' w'')
    (H2 : ∀ j (hj : j < gs.length) (S' : Nat → Prop) (u : Value) (w' : World), (∀ b, w'.heap.size ≤ b → S' b) → P j S' u w' → Calls Tryz.prog 106 #[u] w' fun e w'' => ∃ a1 c1 a2 c2, e = .returned (.agg #[.int .i64 (gs[j]).kind, .int .i64 (gs[j]).dim, .slice a1 (gs[j]).nums.length c1, .slice a2 (gs[j]).kids.length c2]) ∧
      Rd S' w'' (fl (gs[j]).nums) (.slice a1 (gs[j]).nums.length c1) ∧ Rd S' w'' (.list (G.fsL (gs[j]).kids)) (.slice a2 (gs[j]).kids.length c2) ∧ Below w'.heap.size w' w'')
    (h : Rd S w f (.slice a n c)) :
    Calls Tryz.prog 109 #[.agg #[.slice a n c, .int .u8 t]] w fun e w' => ∃ a' c', e = .returned (.agg #[.int .i64 4, .int .i64 t, .slice none 0 0, .slice a' n c']) ∧ Rd S w' (.list (G.fsL gs)) (.slice a' n c') ∧ Below w.heap.size w w' := by
  have l0 := Lib.hid (Lb.new' w #[.slice a n c, .int .u8 t] 77 (.cells #[.int .i64 0, .int .i64 0, .slice none 0 0, .slice none 0 0] 25))
  have l1 := Lib.hid (Lb.new2 w (.cells #[.slice a n c, .int .u8 t] 77) #[.int .i64 0, .int .i64 0, .slice none 0 0, .slice none 0 0] 25)
  have HB := Lib.hid (bl_a2 w (.cells #[.slice a n c, .int .u8 t] 77) (.cells #[.int .i64 0, .int .i64 0, .slice none 0 0, .slice none 0 0] 25))
  have HR := Lib.hid ((h.old.alloc (.cells #[.slice a n c, .int .u8 t] 77)).alloc (.cells #[.int .i64 0, .int .i64 0, .slice none 0 0, .slice none 0 0] 25))
  have H1 := Lib.hid H1; have H2 := Lib.hid H2
  clear h
  go_enter Tryz.func109, Tryz.ntmps109
  go_wp2_with fail
  refine (c151 _ _ _ _ _).mono ?_
  rintro _ w1 ⟨rfl, hb1⟩
  have hge : w.heap.size + 2 ≤ w1.heap.size := by have := hb1.size; simpa using this
  have hP : Kl w S w1.heap.size (w1.heap.size + 1) 4 t #[.slice a n c, .int .u8 t] 77 f (.slice a n c) ((gs.take 0).map G.fs) (.slice none 0 0) (w1.alloc (.cells #[.int .i64 4, .int .i64 t, .slice none 0 0, .slice none 0 0] 25)) :=
    ⟨(l0.out.blw hb1).alloc _, (l1.out.blw hb1).alloc _, Lb.new w1 _ _, Row.nil _ _ _ _ _, ((HR.out.blw hb1).alloc _).mono fun b _ hb => ⟨⟨⟨hb.1, by have := hb.2; omega⟩, by have := hb.2; omega⟩, by have := hb.2; omega⟩,
      (HB.out.trans (hb1.mono (by simp <;> omega))).alloc (by omega) _, hge, Nat.le_refl _, by simp⟩
  have HP := Lib.hid hP
  clear hP hb1 l0 l1 HB HR
  go_wp2_with fail
  go_loopw [4] (fun i wr => ∃ j : Nat, ∃ v, j ≤ n ∧ i = .int .i64 j ∧ Kl w S w1.heap.size (w1.heap.size + 1) 4 t #[.slice a n c, .int .u8 t] 77 f (.slice a n c) ((gs.take j).map G.fs) v wr) (fun i _ => n - (intOf i).toNat)
  case atStart => exact ⟨0, _, Nat.zero_le _, rfl, HP.out⟩
  case round =>
    clear HP
    obtain ⟨j, v, hj, rfl, hP⟩ := hrel
    obtain ⟨av, cv, hv⟩ := hP.own.shape
    have hel : ((gs.take j).map G.fs).length = j := by rw [List.length_map, List.length_take, Nat.min_eq_left (by omega)]
    rw [hel] at hv
    subst hv
    obtain ⟨kp, _, _⟩ := hP.lb0.use
    have HP := Lib.hid hP; have Hel := Lib.hid hel
    clear hP hel
    go_wp2_with fail
    refine (c152 _ _ _ _ _).mono ?_
    rintro _ wa ⟨rfl, hba⟩
    have hP := HP.out.step hba
    clear hba HP kp
    by_cases hlt : j < n
    · have hj' : j < gs.length := by omega
      have hbA : Below wa.heap.size wa wa.drew := (Below.refl _ _).drew
      have hPA := hP.step hbA
      have H1a := Lib.hid (H1.out j hlt (Sm (Ex (Ex S (w.heap.size + 1)) w1.heap.size) (.slice av j cv)) wa.drew ((hP.rd.mono (Sm_old hP)).blw hbA))
      have H2a := Lib.hid (fun (u : Value) (w' : World) (hsz : wa.heap.size ≤ w'.heap.size) hp => H2.out j hj' (Sm (Ex (Ex S (w.heap.size + 1)) w1.heap.size) (.slice av j cv)) u w' (Sm_new hP hS hsz) hp)
      have hfs : (gs.take (j + 1)).map G.fs = (gs.take j).map G.fs ++ [(gs[j]).fs] := by rw [take_map_succ gs G.fs j hj']
      rw [G.fs_eq] at hfs
      generalize (gs.take j).map G.fs = es at *
      generalize hes' : (gs.take (j + 1)).map G.fs = es' at *
      have Hes' := Lib.hid hes'
      clear hes'
      generalize gs[j] = q at *
      have Hfs := Lib.hid hfs
      obtain ⟨kg, _, _⟩ := hPA.lbg.use
      obtain ⟨kp, _, _⟩ := hPA.lb0.use
      have HP := Lib.hid hPA
      clear hP hPA hbA hfs hj' H1 H2
      go_wp2_with fail
      go_region_law (first
        | (refine step_append_eq rfl _ _ 23 rfl rfl rfl rfl Hap.out ?_)
        | (go_simp; go_at_call 153; refine H1a.out.mono ?_; rintro _ w3 ⟨u, rfl, hp3, hb3⟩
           have hP3 := HP.out.step hb3
           obtain ⟨kg3, _, _⟩ := hP3.lbg.use
           have H2b := Lib.hid (H2a.out u w3 hb3.size hp3)
           have HP3 := Lib.hid hP3
           clear hp3 hb3 hP3)
        | (go_simp; go_at_call 106; refine H2b.out.mono ?_; rintro _ w4 ⟨a1, c1, a2, c2, rfl, hr1, hr2, hb4⟩
           have hP4 := HP3.out.step hb4
           obtain ⟨kg4, _, _⟩ := hP4.lbg.use
           obtain ⟨a3, c3, w5, hap, hlg, hP5, hsz5⟩ := hP4.app q.kind q.dim (fl q.nums) (.list (G.fsL q.kids)) a1 a2 q.nums.length q.kids.length c1 c2 hr1 hr2 (by have := Hel.out; omega)
           rw [Hel.out] at hap hP5
           rw [← Hfs.out] at hP5
           obtain ⟨kg5, fg5, lg5⟩ := hlg.use
           have Hap := Lib.hid hap; have HP5 := Lib.hid hP5
           clear hr1 hr2 hb4 hP4 hap hlg hP5 hsz5))
      all_goals go_wp2_with fail
      all_goals go_roundw
      all_goals first
        | (simp [intOf]; omega; done)
        | exact ⟨j + 1, .slice a3 (j + 1) c3, by omega, by go_num, by rw [Hes'.out]; exact HP5.out⟩
    · obtain rfl : n = j := by omega
      have hdl : decide (((n : Nat) : Int) < n) = false := by simp
      obtain ⟨kr, fr, lr⟩ := hP.lb1.use
      obtain ⟨kg, _, lg⟩ := hP.lbg.use
      have hge' := hP.ge; have hgb := hP.gB; have hlt' := hP.lt
      have hrd := hP.own.rd (by omega) (fun b hb => ⟨⟨hS b (by omega), by omega⟩, by omega⟩) (by rw [Hel.out]; omega)
      have htk : (gs.take n).map G.fs = G.fsL gs := by rw [← hn, List.take_length, G.fsL_map]
      rw [htk] at hrd
      have HR := Lib.hid hrd; have HB := Lib.hid hP.bl
      clear hP hrd htk Hel H1 H2
      go_wp2_with fail
      refine bodyPost_ret (v := .agg #[.int .i64 4, .int .i64 t, .slice none 0 0, .slice av n cv]) (by simp [results, Tryz.results109, go_sem, *]) rfl ⟨av, cv, rfl, ?_, ?_⟩
      · refine Rd.unex (L := w.heap.size + 1) ?_
        have hd := HR.out.unex
        repeat (with_reducible first | refine Rd.set ?_ _ _ | exact hd)
      · repeat (with_reducible first | refine Below.setCell ?_ (by simp) _ | exact HB.out)
set_option maxHeartbeats 4000000 in
theorem c110_g (S : Nat → Prop) (P : Nat → (Nat → Prop) → Value → World → Prop) (gs : List G) (f : F) (n : Nat) (hn : gs.length = n) (hlen : n ≤ 1000000) (t : Int) (a : Option Addr) (c : Nat) (w : World) (t0 : 0 ≤ t) (t1 : t ≤ 3) (hS : ∀ b, w.heap.size ≤ b → S b)
    (H1 : ∀ j, j < n → ∀ (S' : Nat → Prop) (w' : World), Rd S' w' f (.slice a n c) → Calls Tryz.prog 144 #[.agg #[.slice a n c, .int .u8 t], .int .i64 j] w' fun e w'' => ∃ u, e = .returned u ∧ P j S' u w'' ∧ Below w'.heap.size w' w'')
    (H2 : ∀ j (hj : j < gs.length) (S' : Nat → Prop) (u : Value) (w' : World), (∀ b, w'.heap.size ≤ b → S' b) → P j S' u w' → Calls Tryz.prog 107 #[u] w' fun e w'' => ∃ a1 c1 a2 c2, e = .returned (.agg #[.int .i64 (gs[j]).kind, .int .i64 (gs[j]).dim, .slice a1 (gs[j]).nums.length c1, .slice a2 (gs[j]).kids.length c2]) ∧
      Rd S' w'' (fl (gs[j]).nums) (.slice a1 (gs[j]).nums.length c1) ∧ Rd S' w'' (.list (G.fsL (gs[j]).kids)) (.slice a2 (gs[j]).kids.length c2) ∧ Below w'.heap.size w' w'')
    (h : Rd S w f (.slice a n c)) :
    Calls Tryz.prog 110 #[.agg #[.slice a n c, .int .u8 t]] w fun e w' => ∃ a' c', e = .returned (.agg #[.int .i64 5, .int .i64 t, .slice none 0 0, .slice a' n c']) ∧ Rd S w' (.list (G.fsL gs)) (.slice a' n c') ∧ Below w.heap.size w w' := by
  have l0 := Lib.hid (Lb.new' w #[.slice a n c, .int .u8 t] 80 (.cells #[.int .i64 0, .int .i64 0, .slice none 0 0, .slice none 0 0] 25))
  have l1 := Lib.hid (Lb.new2 w (.cells #[.slice a n c, .int .u8 t] 80) #[.int .i64 0, .int .i64 0, .slice none 0 0, .slice none 0 0] 25)
  have HB := Lib.hid (bl_a2 w (.cells #[.slice a n c, .int .u8 t] 80) (.cells #[.int .i64 0, .int .i64 0, .slice none 0 0, .slice none 0 0] 25))
  have HR := Lib.hid ((h.old.alloc (.cells #[.slice a n c, .int .u8 t] 80)).alloc (.cells #[.int .i64 0, .int .i64 0, .slice none 0 0, .slice none 0 0] 25))
  have H1 := Lib.hid H1; have H2 := Lib.hid H2
  clear h
  go_enter Tryz.func110, Tryz.ntmps110
  go_wp2_with fail
  refine (c154 _ _ _ _ _).mono ?_
  rintro _ w1 ⟨rfl, hb1⟩
  have hge : w.heap.size + 2 ≤ w1.heap.size := by have := hb1.size; simpa using this
  have hP : Kl w S w1.heap.size (w1.heap.size + 1) 5 t #[.slice a n c, .int .u8 t] 80 f (.slice a n c) ((gs.take 0).map G.fs) (.slice none 0 0) (w1.alloc (.cells #[.int .i64 5, .int .i64 t, .slice none 0 0, .slice none 0 0] 25)) :=
    ⟨(l0.out.blw hb1).alloc _, (l1.out.blw hb1).alloc _, Lb.new w1 _ _, Row.nil _ _ _ _ _, ((HR.out.blw hb1).alloc _).mono fun b _ hb => ⟨⟨⟨hb.1, by have := hb.2; omega⟩, by have := hb.2; omega⟩, by have := hb.2; omega⟩,
      (HB.out.trans (hb1.mono (by simp <;> omega))).alloc (by omega) _, hge, Nat.le_refl _, by simp⟩
  have HP := Lib.hid hP
  clear hP hb1 l0 l1 HB HR
  go_wp2_with fail
  go_loopw [4] (fun i wr => ∃ j : Nat, ∃ v, j ≤ n ∧ i = .int .i64 j ∧ Kl w S w1.heap.size (w1.heap.size + 1) 5 t #[.slice a n c, .int .u8 t] 80 f (.slice a n c) ((gs.take j).map G.fs) v wr) (fun i _ => n - (intOf i).toNat)
  case atStart => exact ⟨0, _, Nat.zero_le _, rfl, HP.out⟩
  case round =>
    clear HP
    obtain ⟨j, v, hj, rfl, hP⟩ := hrel
    obtain ⟨av, cv, hv⟩ := hP.own.shape
    have hel : ((gs.take j).map G.fs).length = j := by rw [List.length_map, List.length_take, Nat.min_eq_left (by omega)]
    rw [hel] at hv
    subst hv
    obtain ⟨kp, _, _⟩ := hP.lb0.use
    have HP := Lib.hid hP; have Hel := Lib.hid hel
    clear hP hel
    go_wp2_with fail
    refine (c143 _ _ _ _ _).mono ?_
    rintro _ wa ⟨rfl, hba⟩
    have hP := HP.out.step hba
    clear hba HP kp
    by_cases hlt : j < n
    · have hj' : j < gs.length := by omega
      have hbA : Below wa.heap.size wa wa.drew := (Below.refl _ _).drew
      have hPA := hP.step hbA
      have H1a := Lib.hid (H1.out j hlt (Sm (Ex (Ex S (w.heap.size + 1)) w1.heap.size) (.slice av j cv)) wa.drew ((hP.rd.mono (Sm_old hP)).blw hbA))
      have H2a := Lib.hid (fun (u : Value) (w' : World) (hsz : wa.heap.size ≤ w'.heap.size) hp => H2.out j hj' (Sm (Ex (Ex S (w.heap.size + 1)) w1.heap.size) (.slice av j cv)) u w' (Sm_new hP hS hsz) hp)
      have hfs : (gs.take (j + 1)).map G.fs = (gs.take j).map G.fs ++ [(gs[j]).fs] := by rw [take_map_succ gs G.fs j hj']
      rw [G.fs_eq] at hfs
      generalize (gs.take j).map G.fs = es at *
      generalize hes' : (gs.take (j + 1)).map G.fs = es' at *
      have Hes' := Lib.hid hes'
      clear hes'
      generalize gs[j] = q at *
      have Hfs := Lib.hid hfs
      obtain ⟨kg, _, _⟩ := hPA.lbg.use
      obtain ⟨kp, _, _⟩ := hPA.lb0.use
      have HP := Lib.hid hPA
      clear hP hPA hbA hfs hj' H1 H2
      go_wp2_with fail
      go_region_law (first
        | (refine step_append_eq rfl _ _ 23 rfl rfl rfl rfl Hap.out ?_)
        | (go_simp; go_at_call 144; refine H1a.out.mono ?_; rintro _ w3 ⟨u, rfl, hp3, hb3⟩
           have hP3 := HP.out.step hb3
           obtain ⟨kg3, _, _⟩ := hP3.lbg.use
           have H2b := Lib.hid (H2a.out u w3 hb3.size hp3)
           have HP3 := Lib.hid hP3
           clear hp3 hb3 hP3)
        | (go_simp; go_at_call 107; refine H2b.out.mono ?_; rintro _ w4 ⟨a1, c1, a2, c2, rfl, hr1, hr2, hb4⟩
           have hP4 := HP3.out.step hb4
           obtain ⟨kg4, _, _⟩ := hP4.lbg.use
           obtain ⟨a3, c3, w5, hap, hlg, hP5, hsz5⟩ := hP4.app q.kind q.dim (fl q.nums) (.list (G.fsL q.kids)) a1 a2 q.nums.length q.kids.length c1 c2 hr1 hr2 (by have := Hel.out; omega)
           rw [Hel.out] at hap hP5
           rw [← Hfs.out] at hP5
           obtain ⟨kg5, fg5, lg5⟩ := hlg.use
           have Hap := Lib.hid hap; have HP5 := Lib.hid hP5
           clear hr1 hr2 hb4 hP4 hap hlg hP5 hsz5))
      all_goals go_wp2_with fail
      all_goals go_roundw
      all_goals first
        | (simp [intOf]; omega; done)
        | exact ⟨j + 1, .slice a3 (j + 1) c3, by omega, by go_num, by rw [Hes'.out]; exact HP5.out⟩
    · obtain rfl : n = j := by omega
      have hdl : decide (((n : Nat) : Int) < n) = false := by simp
      obtain ⟨kr, fr, lr⟩ := hP.lb1.use
      obtain ⟨kg, _, lg⟩ := hP.lbg.use
      have hge' := hP.ge; have hgb := hP.gB; have hlt' := hP.lt
      have hrd := hP.own.rd (by omega) (fun b hb => ⟨⟨hS b (by omega), by omega⟩, by omega⟩) (by rw [Hel.out]; omega)
      have htk : (gs.take n).map G.fs = G.fsL gs := by rw [← hn, List.take_length, G.fsL_map]
      rw [htk] at hrd
      have HR := Lib.hid hrd; have HB := Lib.hid hP.bl
      clear hP hrd htk Hel H1 H2
      go_wp2_with fail
      refine bodyPost_ret (v := .agg #[.int .i64 5, .int .i64 t, .slice none 0 0, .slice av n cv]) (by simp [results, Tryz.results110, go_sem, *]) rfl ⟨av, cv, rfl, ?_, ?_⟩
      · refine Rd.unex (L := w.heap.size + 1) ?_
        have hd := HR.out.unex
        repeat (with_reducible first | refine Rd.set ?_ _ _ | exact hd)
      · repeat (with_reducible first | refine Below.setCell ?_ (by simp) _ | exact HB.out)
set_option maxHeartbeats 4000000 in
theorem c111_g (S : Nat → Prop) (P : Nat → (Nat → Prop) → Value → World → Prop) (gs : List G) (f : F) (n : Nat) (hn : gs.length = n) (hlen : n ≤ 1000000) (t : Int) (a : Option Addr) (c : Nat) (w : World) (t0 : 0 ≤ t) (t1 : t ≤ 3) (hS : ∀ b, w.heap.size ≤ b → S b)
    (H1 : ∀ j, j < n → ∀ (S' : Nat → Prop) (w' : World), Rd S' w' f (.slice a n c) → Calls Tryz.prog 147 #[.agg #[.slice a n c, .int .u8 t], .int .i64 j] w' fun e w'' => ∃ u, e = .returned u ∧ P j S' u w'' ∧ Below w'.heap.size w' w'')
    (H2 : ∀ j (hj : j < gs.length) (S' : Nat → Prop) (u : Value) (w' : World), (∀ b, w'.heap.size ≤ b → S' b) → P j S' u w' → Calls Tryz.prog 108 #[u] w' fun e w'' => ∃ a1 c1 a2 c2, e = .returned (.agg #[.int .i64 (gs[j]).kind, .int .i64 (gs[j]).dim, .slice a1 (gs[j]).nums.length c1, .slice a2 (gs[j]).kids.length c2]) ∧
      Rd S' w'' (fl (gs[j]).nums) (.slice a1 (gs[j]).nums.length c1) ∧ Rd S' w'' (.list (G.fsL (gs[j]).kids)) (.slice a2 (gs[j]).kids.length c2) ∧ Below w'.heap.size w' w'')
    (h : Rd S w f (.slice a n c)) :
    Calls Tryz.prog 111 #[.agg #[.slice a n c, .int .u8 t]] w fun e w' => ∃ a' c', e = .returned (.agg #[.int .i64 6, .int .i64 t, .slice none 0 0, .slice a' n c']) ∧ Rd S w' (.list (G.fsL gs)) (.slice a' n c') ∧ Below w.heap.size w w' := by
  have l0 := Lib.hid (Lb.new' w #[.slice a n c, .int .u8 t] 84 (.cells #[.int .i64 0, .int .i64 0, .slice none 0 0, .slice none 0 0] 25))
  have l1 := Lib.hid (Lb.new2 w (.cells #[.slice a n c, .int .u8 t] 84) #[.int .i64 0, .int .i64 0, .slice none 0 0, .slice none 0 0] 25)
  have HB := Lib.hid (bl_a2 w (.cells #[.slice a n c, .int .u8 t] 84) (.cells #[.int .i64 0, .int .i64 0, .slice none 0 0, .slice none 0 0] 25))
  have HR := Lib.hid ((h.old.alloc (.cells #[.slice a n c, .int .u8 t] 84)).alloc (.cells #[.int .i64 0, .int .i64 0, .slice none 0 0, .slice none 0 0] 25))
  have H1 := Lib.hid H1; have H2 := Lib.hid H2
  clear h
  go_enter Tryz.func111, Tryz.ntmps111
  go_wp2_with fail
  refine (c155 _ _ _ _ _).mono ?_
  rintro _ w1 ⟨rfl, hb1⟩
  have hge : w.heap.size + 2 ≤ w1.heap.size := by have := hb1.size; simpa using this
  have hP : Kl w S w1.heap.size (w1.heap.size + 1) 6 t #[.slice a n c, .int .u8 t] 84 f (.slice a n c) ((gs.take 0).map G.fs) (.slice none 0 0) (w1.alloc (.cells #[.int .i64 6, .int .i64 t, .slice none 0 0, .slice none 0 0] 25)) :=
    ⟨(l0.out.blw hb1).alloc _, (l1.out.blw hb1).alloc _, Lb.new w1 _ _, Row.nil _ _ _ _ _, ((HR.out.blw hb1).alloc _).mono fun b _ hb => ⟨⟨⟨hb.1, by have := hb.2; omega⟩, by have := hb.2; omega⟩, by have := hb.2; omega⟩,
      (HB.out.trans (hb1.mono (by simp <;> omega))).alloc (by omega) _, hge, Nat.le_refl _, by simp⟩
  have HP := Lib.hid hP
  clear hP hb1 l0 l1 HB HR
  go_wp2_with fail
  go_loopw [4] (fun i wr => ∃ j : Nat, ∃ v, j ≤ n ∧ i = .int .i64 j ∧ Kl w S w1.heap.size (w1.heap.size + 1) 6 t #[.slice a n c, .int .u8 t] 84 f (.slice a n c) ((gs.take j).map G.fs) v wr) (fun i _ => n - (intOf i).toNat)
  case atStart => exact ⟨0, _, Nat.zero_le _, rfl, HP.out⟩
  case round =>
    clear HP
    obtain ⟨j, v, hj, rfl, hP⟩ := hrel
    obtain ⟨av, cv, hv⟩ := hP.own.shape
    have hel : ((gs.take j).map G.fs).length = j := by rw [List.length_map, List.length_take, Nat.min_eq_left (by omega)]
    rw [hel] at hv
    subst hv
    obtain ⟨kp, _, _⟩ := hP.lb0.use
    have HP := Lib.hid hP; have Hel := Lib.hid hel
    clear hP hel
    go_wp2_with fail
    refine (c146 _ _ _ _ _).mono ?_
    rintro _ wa ⟨rfl, hba⟩
    have hP := HP.out.step hba
    clear hba HP kp
    by_cases hlt : j < n
    · have hj' : j < gs.length := by omega
      have hbA : Below wa.heap.size wa wa.drew := (Below.refl _ _).drew
      have hPA := hP.step hbA
      have H1a := Lib.hid (H1.out j hlt (Sm (Ex (Ex S (w.heap.size + 1)) w1.heap.size) (.slice av j cv)) wa.drew ((hP.rd.mono (Sm_old hP)).blw hbA))
      have H2a := Lib.hid (fun (u : Value) (w' : World) (hsz : wa.heap.size ≤ w'.heap.size) hp => H2.out j hj' (Sm (Ex (Ex S (w.heap.size + 1)) w1.heap.size) (.slice av j cv)) u w' (Sm_new hP hS hsz) hp)
      have hfs : (gs.take (j + 1)).map G.fs = (gs.take j).map G.fs ++ [(gs[j]).fs] := by rw [take_map_succ gs G.fs j hj']
      rw [G.fs_eq] at hfs
      generalize (gs.take j).map G.fs = es at *
      generalize hes' : (gs.take (j + 1)).map G.fs = es' at *
      have Hes' := Lib.hid hes'
      clear hes'
      generalize gs[j] = q at *
      have Hfs := Lib.hid hfs
      obtain ⟨kg, _, _⟩ := hPA.lbg.use
      obtain ⟨kp, _, _⟩ := hPA.lb0.use
      have HP := Lib.hid hPA
      clear hP hPA hbA hfs hj' H1 H2
      go_wp2_with fail
      go_region_law (first
        | (refine step_append_eq rfl _ _ 23 rfl rfl rfl rfl Hap.out ?_)
        | (go_simp; go_at_call 147; refine H1a.out.mono ?_; rintro _ w3 ⟨u, rfl, hp3, hb3⟩
           have hP3 := HP.out.step hb3
           obtain ⟨kg3, _, _⟩ := hP3.lbg.use
           have H2b := Lib.hid (H2a.out u w3 hb3.size hp3)
           have HP3 := Lib.hid hP3
           clear hp3 hb3 hP3)
        | (go_simp; go_at_call 108; refine H2b.out.mono ?_; rintro _ w4 ⟨a1, c1, a2, c2, rfl, hr1, hr2, hb4⟩
           have hP4 := HP3.out.step hb4
           obtain ⟨kg4, _, _⟩ := hP4.lbg.use
           obtain ⟨a3, c3, w5, hap, hlg, hP5, hsz5⟩ := hP4.app q.kind q.dim (fl q.nums) (.list (G.fsL q.kids)) a1 a2 q.nums.length q.kids.length c1 c2 hr1 hr2 (by have := Hel.out; omega)
           rw [Hel.out] at hap hP5
           rw [← Hfs.out] at hP5
           obtain ⟨kg5, fg5, lg5⟩ := hlg.use
           have Hap := Lib.hid hap; have HP5 := Lib.hid hP5
           clear hr1 hr2 hb4 hP4 hap hlg hP5 hsz5))
      all_goals go_wp2_with fail
      all_goals go_roundw
      all_goals first
        | (simp [intOf]; omega; done)
        | exact ⟨j + 1, .slice a3 (j + 1) c3, by omega, by go_num, by rw [Hes'.out]; exact HP5.out⟩
    · obtain rfl : n = j := by omega
      have hdl : decide (((n : Nat) : Int) < n) = false := by simp
      obtain ⟨kr, fr, lr⟩ := hP.lb1.use
      obtain ⟨kg, _, lg⟩ := hP.lbg.use
      have hge' := hP.ge; have hgb := hP.gB; have hlt' := hP.lt
      have hrd := hP.own.rd (by omega) (fun b hb => ⟨⟨hS b (by omega), by omega⟩, by omega⟩) (by rw [Hel.out]; omega)
      have htk : (gs.take n).map G.fs = G.fsL gs := by rw [← hn, List.take_length, G.fsL_map]
      rw [htk] at hrd
      have HR := Lib.hid hrd; have HB := Lib.hid hP.bl
      clear hP hrd htk Hel H1 H2
      go_wp2_with fail
      refine bodyPost_ret (v := .agg #[.int .i64 6, .int .i64 t, .slice none 0 0, .slice av n cv]) (by simp [results, Tryz.results111, go_sem, *]) rfl ⟨av, cv, rfl, ?_, ?_⟩
      · refine Rd.unex (L := w.heap.size + 1) ?_
        have hd := HR.out.unex
        repeat (with_reducible first | refine Rd.set ?_ _ _ | exact hd)
      · repeat (with_reducible first | refine Below.setCell ?_ (by simp) _ | exact HB.out)
end Go.Proofs.YtahnhhkbdgaidaaGreatDoor
namespace Go.Proofs.YtahnhhkbdgaidaaGreatDoor
open Go.RowKit
set_option maxRecDepth 100000
mutual
/-- Each slice of numbers has room for its numbers. -/
def CapG (w : World) : G → Value → Value → Prop
  | .mk _ _ ns ks, vn, vk => (∃ a c, vn = .slice a ns.length c ∧ ns.length ≤ c ∧ (a = none → c = 0)) ∧ ∀ b off n c, vk = .slice (some ⟨b, off, none⟩) n c → CapL w ks b off
def CapL (w : World) : List G → Nat → Nat → Prop
  | [], _, _ => True
  | g :: r, b, off => (∃ vn vk, w.cell? ⟨b, off + 2, none⟩ = some vn ∧ w.cell? ⟨b, off + 3, none⟩ = some vk ∧ CapG w g vn vk) ∧ CapL w r b (off + 4)
end
theorem cell_lt {w : World} {b o : Nat} {x : Value} (h : w.cell? ⟨b, o, none⟩ = some x) : b < w.heap.size := by
  rcases Nat.lt_or_ge b w.heap.size with h1 | h1
  · exact h1
  · simp [World.cell?, Array.getElem?_eq_none h1] at h
mutual
theorem CapG.blw {w w' : World} (hb : Below w.heap.size w w') : ∀ (g : G) (vn vk : Value), CapG w g vn vk → CapG w' g vn vk
  | .mk _ _ _ ks, vn, vk, h => by
    simp only [CapG] at h ⊢
    exact ⟨h.1, fun b off n c e => CapL.blw hb ks b off (h.2 b off n c e)⟩
theorem CapL.blw {w w' : World} (hb : Below w.heap.size w w') : ∀ (l : List G) (b off : Nat), CapL w l b off → CapL w' l b off
  | [], _, _, _ => by simp [CapL]
  | g :: r, b, off, h => by
    simp only [CapL] at h ⊢
    obtain ⟨⟨vn, vk, h1, h2, h3⟩, h4⟩ := h
    exact ⟨⟨vn, vk, (hb.cell (p := ⟨b, off + 2, none⟩) (cell_lt h1)).trans h1, (hb.cell (p := ⟨b, off + 3, none⟩) (cell_lt h2)).trans h2, CapG.blw hb g vn vk h3⟩, CapL.blw hb r b (off + 4) h4⟩
end
theorem CapL.at {w : World} : ∀ (l : List G) (b off : Nat), CapL w l b off → ∀ i (hi : i < l.length), ∃ vn vk, w.cell? ⟨b, off + i * 4 + 2, none⟩ = some vn ∧ w.cell? ⟨b, off + i * 4 + 3, none⟩ = some vk ∧ CapG w l[i] vn vk
  | [], _, _, _, i, hi => by simp at hi
  | g :: r, b, off, h, i, hi => by
    simp only [CapL] at h
    cases i with
    | zero => simpa using h.1
    | succ i =>
      have := CapL.at r b (off + 4) h.2 i (by simpa using hi)
      rw [show off + (i + 1) * 4 = off + 4 + i * 4 by omega]
      exact this
theorem q32 (k q : Int) (hq : kidOf k = q) (w : World) (n : Nat) : Calls Tryz.prog 32 #[.int .i64 k] (w.drewN n) fun e w' => e = .returned (.int .i64 q) ∧ w' = w.drewN n :=
  (c32 k _).mono fun e w' h => ⟨by rw [h.1, hq], h.2.symm⟩
theorem app_fl2 {B : Nat} {w : World} {v : Value} {xs : List Nat} (h : Fl B w v xs) (ys : List Nat) (ad : Addr) (m c : Nat) (hm : ys.length = m) (hc : ∀ j (hj : j < ys.length), w.cell? (ad.add j) = some (.float .f64 ys[j])) (hlen : xs.length + m ≤ 1000000000) (hB : B ≤ w.heap.size) :
    ∃ v' w', (Builtin.append_ #[22, 22] 22 #[v, .slice (some ad) m c]).run Tryz.prog w = .ok v' w' ∧ Fl B w' v' (xs ++ ys) ∧ w.grownBy w' v.ownBlock := by
  obtain ⟨i0, hi0, hz0, hz1, hz2⟩ := info_parts info43
  obtain ⟨v', w', hrun, ho', hg, _, hat⟩ := run_append_own_at (P := Tryz.prog) w B 22 22 43 i0 (.float .f64 0) 1 8 Tryz.underlying22 hi0 hz0 hz1 hz2 rfl (by decide) v xs.length (xs.map (Value.float .f64)) h.own
    ad m c (ys.map (Value.float .f64)) (by simp [hm]) (fun j u hj => by
      obtain ⟨hl, e⟩ := List.getElem?_eq_some_iff.1 hj
      have hl' : j < ys.length := by simpa using hl
      rw [hc j hl', ← e]; simp) (by intro u hu; obtain ⟨x, _, rfl⟩ := List.mem_map.1 hu; rfl) (by simp only [maxLen]; omega) (by omega) hB
  refine ⟨v', w', hrun, ⟨?_⟩, hg⟩
  rw [← List.map_append] at ho'
  rw [List.length_append, hm]
  exact ho'
theorem app_fl0 (w : World) : (Builtin.append_ #[22, 22] 22 #[.slice none 0 0, .slice none 0 0]).run Tryz.prog w = .ok (.slice none 0 0) w := by kernel_rfl
theorem app_take (S : Nat → Prop) (B : Nat) (xs ns : List Nat) (a : Option Addr) (c : Nat) (w : World) (hB : B ≤ w.heap.size) (hL : xs.length ≤ ns.length) (ht : xs = ns.take xs.length) (hlen : ns.length ≤ 1000000) (hcap : ns.length ≤ c) (hnil : a = none → c = 0) (hr : Rd S w (fl ns) (.slice a ns.length c)) :
    ∃ v2 w2, (Builtin.append_ #[22, 22] 22 #[.slice none 0 0, .slice a xs.length c]).run Tryz.prog w = .ok v2 w2 ∧ Fl B w2 v2 xs ∧ Below w.heap.size w w2 := by
  rcases a with _ | ad
  · have h0 := hnil rfl
    obtain rfl : c = 0 := h0
    have hx0 : xs = [] := List.eq_nil_of_length_eq_zero (by omega)
    subst hx0
    exact ⟨_, _, app_fl0 _, Fl.nil _ _, Below.refl _ _⟩
  · obtain ⟨v2, w2, h1, h2, h3⟩ := app_fl2 (Fl.nil B w) xs ad xs.length c rfl (fun j hj => by
      obtain ⟨_, _, e, _, hat⟩ := fl_inv hr
      obtain ⟨e1, _, _⟩ := Value.slice.inj e
      obtain ⟨b, off, e2, _, _, _⟩ := hat 0 (by omega)
      obtain rfl : ad = ⟨b, off, none⟩ := Option.some.inj (e1.trans e2)
      have := fl_at hr j (by omega)
      rw [Addr.add_lit, this]
      have e3 : xs[j] = ns[j]'(by omega) := by
        have := List.getElem_of_eq ht hj
        rw [this]; simp
      rw [e3]; simp [List.getD, show j < ns.length by omega]) (by simp; omega) hB
    exact ⟨v2, w2, h1, by simpa using h2, ⟨h3.os, h3.tape, h3.output, h3.size, fun i hi => h3.block i hi (by simp [Value.ownBlock])⟩⟩
theorem Rd.setL1 {S : Nat → Prop} {n : Nat} {w : World} {f : F} {v : Value} (h : Rd (Ex (Ex S (n + 1)) (n + 2)) w f v) (o : Nat) (x : Value) : Rd (Ex (Ex S (n + 1)) (n + 2)) (w.setCell ⟨n + 1, o, none⟩ x) f v := h.setCell (fun h => h.1.2 rfl) x
theorem Rd.setL2 {S : Nat → Prop} {n : Nat} {w : World} {f : F} {v : Value} (h : Rd (Ex (Ex S (n + 1)) (n + 2)) w f v) (o : Nat) (x : Value) : Rd (Ex (Ex S (n + 1)) (n + 2)) (w.setCell ⟨n + 1 + 1, o, none⟩ x) f v := h.setCell (fun h => h.2 rfl) x
theorem drewN_alloc (w : World) (o : Obj) (n : Nat) : (w.drewN n).alloc o = (w.alloc o).drewN n := rfl
theorem leafN_len (k d : Int) (ns : List Nat) : (leafN k d ns).length = (if k = 1 then min (ns.length / dN d) 1 else ns.length / dN d) * dN d := by
  unfold leafN
  rw [List.length_take]
  have h1 := Nat.div_mul_le_self ns.length (dN d)
  have h2 : (if k = 1 then min (ns.length / dN d) 1 else ns.length / dN d) * dN d ≤ ns.length / dN d * dN d := Nat.mul_le_mul_right _ (by split <;> omega)
  omega
end Go.Proofs.YtahnhhkbdgaidaaGreatDoor
