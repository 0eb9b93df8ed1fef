/-
  Plain data of a geometry: points, sequences.
-/
import Derived.Test.YtahnhhkbdgaidaaGreatDoorKam
import Derived.Test.YtahnhhkbdgaidaaGreatDoorKao
namespace Go.Proofs.YtahnhhkbdgaidaaGreatDoor
open Go.RowKit
set_option maxRecDepth 100000
theorem Fl.far {B g : Nat} {w : World} {v : Value} {xs : List Nat} (h : Fl B w v xs) (hg : g < B) (o : Nat) (x : Value) : Fl B (w.setCell ⟨g, o, none⟩ x) v xs :=
  ⟨h.own.kept (row := some g) ⟨rfl, rfl, rfl, by simp [World.setCell], fun k _ hne => Below.heap_setCell w ⟨g, o, none⟩ x k (fun e => hne (congrArg some e))⟩ (by
    cases hv : v.ownBlock with
    | none => exact .inl rfl
    | some k => exact .inr (fun e => by have := (h.lt k hv).1; have := Option.some.inj e; omega))⟩
/-- A datum under way: its own block holds the numbers so far. -/
structure Pl (w0 : World) (S : Nat → Prop) (g : Nat) (k t : Int) (A : Array Value) (TA : TypeId) (f : F) (fv : Value) (ns : List Nat) (v : Value) (w : World) : Prop where
  lb0 : Lb w w0.heap.size A TA
  lb1 : Lb w (w0.heap.size + 1) #[.int .i64 0, .int .i64 0, .slice none 0 0, .slice none 0 0] 25
  lbg : Lb w g #[.int .i64 k, .int .i64 t, v, .slice none 0 0] 25
  own : Fl (g + 1) w v ns
  rd : Rd (Old S w0.heap.size) w f fv
  bl : Below w0.heap.size w0 w
  ge : w0.heap.size + 2 ≤ g
  lt : g + 1 ≤ w.heap.size
theorem Pl.step {w0 : World} {S : Nat → Prop} {g : Nat} {k t : Int} {A : Array Value} {TA : TypeId} {f : F} {fv : Value} {ns : List Nat} {v : Value} {w w' : World} (h : Pl w0 S g k t A TA f fv ns v w) (hb : Below w.heap.size w w') : Pl w0 S g k t A TA f fv ns v w' :=
  ⟨h.lb0.blw hb, h.lb1.blw hb, h.lbg.blw hb, h.own.step hb, h.rd.blw hb, h.bl.trans (hb.mono (by have := h.ge; have := h.lt; omega)), h.ge, Nat.le_trans h.lt hb.size⟩
theorem Pl.app {w0 : World} {S : Nat → Prop} {g : Nat} {k t : Int} {A : Array Value} {TA : TypeId} {f : F} {fv : Value} {ns : List Nat} {v : Value} {w : World} (h : Pl w0 S g k t A TA f fv ns v w) (ys : List Nat) (n : Nat) (cs : Array Value) (hn : ys.length = n) (hcs : cs.toList = ys.map (Value.float .f64)) (hpos : 0 < n) (hlen : ns.length + n ≤ 1000000000) :
    ∃ a' n' c' w', (Builtin.append_ #[22, 22] 22 #[v, .slice (some ⟨w.heap.size, 0, none⟩) n n]).run Tryz.prog (w.alloc (.cells cs 43)) = .ok (.slice a' n' c') w' ∧ Lb w' g #[.int .i64 k, .int .i64 t, v, .slice none 0 0] 25 ∧ Pl w0 S g k t A TA f fv (ns ++ ys) (.slice a' n' c') (w'.setCell ⟨g, 2, none⟩ (.slice a' n' c')) ∧
      w.heap.size ≤ w'.heap.size ∧ ∀ e cs T, Lb w e cs T → g < e → some e ≠ v.ownBlock → Lb w' e cs T ∧ Lb (w'.setCell ⟨g, 2, none⟩ (.slice a' n' c')) e cs T ∧ some e ≠ (Value.slice a' n' c').ownBlock := by
  have hge := h.ge; have hlt := h.lt
  obtain ⟨v', w', hrun, hR, hg, hl⟩ := app_fl h.own ys n cs hn hcs hpos hlen (by omega)
  obtain ⟨a', c', rfl⟩ := hR.shape
  have hown : ∀ q, v.ownBlock = some q → g + 1 ≤ q ∧ q < w.heap.size := h.own.lt
  have hne : ∀ b, b ≤ g → some b ≠ v.ownBlock := fun b hb e => by have := (hown _ e.symm).1; omega
  have l0 := h.lb0.grown hg (hne _ (by omega))
  have l1 := h.lb1.grown hg (hne _ (by omega))
  have lg := h.lbg.grown hg (hne _ (by omega))
  have hr : Rd (Old S w0.heap.size) w' f fv := h.rd.grown hg (fun b hb => hne b (by have := hb.2; omega))
  have hB : Below w0.heap.size w0 w' := h.bl.grown hg (by omega) (fun q hq => by have := (hown q hq).1; omega)
  refine ⟨a', _, c', w', hrun, lg, ⟨l0.far (by simp; omega) _, l1.far (by simp; omega) _, ?_, hR.far (by omega) _ _, hr.setCell (fun hb => by have h2 : g < w0.heap.size := hb.2; omega) _, hB.setCell (by simp; omega) _, hge, ?_⟩, hg.size, fun e cs' T hL he hv => ?_⟩
  · have := lg.set 2 (.slice a' (ns ++ ys).length c')
    simpa using this
  · have := hg.size
    simp [World.setCell]; omega
  · have l := hL.grown hg hv
    refine ⟨l, l.far (by simp; omega) _, fun e' => ?_⟩
    rcases hl _ e'.symm with h1 | h1
    · exact hv h1.symm
    · have := hL.use.2.2; omega
set_option maxHeartbeats 4000000 in
theorem c106_0 (S : Nat → Prop) (x y z m : Nat) (w : World) (hS : ∀ b, w.heap.size ≤ b → S b) :
    Calls Tryz.prog 106 #[.agg #[.float .f64 x, .float .f64 y, .float .f64 z, .float .f64 m, .int .u8 0, .bool true]] w fun e w' => ∃ vn, e = .returned (.agg #[.int .i64 1, .int .i64 0, vn, .slice none 0 0]) ∧ Rd S w' (fl ([x, y])) vn ∧ Below w.heap.size w w' := by
  have hsf := st_float
  have H138 : ∀ w, Calls Tryz.prog 138 #[.int .u8 0] w fun e w' => e = .returned (.bool false) ∧ w = w' := fun w => c138 0 w (by decide) (by decide)
  have H148 : ∀ w, Calls Tryz.prog 148 #[.int .u8 0] w fun e w' => e = .returned (.bool false) ∧ w = w' := fun w => c148 0 w (by decide) (by decide)
  have H138 := Lib.hid H138; have H148 := Lib.hid H148
  have l0 := Lib.hid (Lb.new' w #[.float .f64 x, .float .f64 y, .float .f64 z, .float .f64 m, .int .u8 0, .bool true] 63 (.cells #[.int .i64 0, .int .i64 0, .slice none 0 0, .slice none 0 0] 25))
  have l1 := Lib.hid (Lb.new2 w (.cells #[.float .f64 x, .float .f64 y, .float .f64 z, .float .f64 m, .int .u8 0, .bool true] 63) #[.int .i64 0, .int .i64 0, .slice none 0 0, .slice none 0 0] 25)
  have HB := Lib.hid (bl_a2 w (.cells #[.float .f64 x, .float .f64 y, .float .f64 z, .float .f64 m, .int .u8 0, .bool true] 63) (.cells #[.int .i64 0, .int .i64 0, .slice none 0 0, .slice none 0 0] 25))
  go_enter Tryz.func106, Tryz.ntmps106
  go_wp2_with fail
  refine (c142 _ _ _ _ _ _ _).mono ?_
  rintro _ w1 ⟨rfl, hb1⟩
  have hge : w.heap.size + 2 ≤ w1.heap.size := by have := hb1.size; simpa using this
  have hP : Pl w S w1.heap.size 1 0 #[.float .f64 x, .float .f64 y, .float .f64 z, .float .f64 m, .int .u8 0, .bool true] 63 (.atom (.bool true)) (.bool true) [] (.slice none 0 0) (w1.alloc (.cells #[.int .i64 1, .int .i64 0, .slice none 0 0, .slice none 0 0] 25)) :=
    ⟨(l0.out.blw hb1).alloc _, (l1.out.blw hb1).alloc _, Lb.new w1 _ _, Fl.nil _ _, .atom _, (HB.out.trans (hb1.mono (by simp <;> omega))).alloc (by omega) _, hge, by simp⟩
  obtain ⟨k0, _, _⟩ := hP.lb0.use
  obtain ⟨k1, _, _⟩ := (l0.out.blw hb1).use
  have HP := Lib.hid hP
  clear hP hb1 l0 l1 HB
  go_wp2_with fail
  refine (c97 _ _ _ _ _ _ _).mono ?_
  rintro _ w2 ⟨rfl, hb2⟩
  have hP := HP.out.step hb2
  have hgl := hP.lt
  have hPA := hP.step (bl_a1 w2 (.cells #[.float .f64 x, .float .f64 y, .float .f64 z, .float .f64 m, .int .u8 0] 61))
  have hLe := Lb.new w2 #[.float .f64 x, .float .f64 y, .float .f64 z, .float .f64 m, .int .u8 0] 61
  have hne : some w2.heap.size ≠ (Value.slice none 0 0).ownBlock := by simp [Value.ownBlock]
  obtain ⟨kg, _, _⟩ := hPA.lbg.use
  obtain ⟨a3, n3, c3, w3, hap3, hlg3, hP3, hsz3, ht3⟩ := hPA.app [x, y] 2 #[.float .f64 x, .float .f64 y] rfl rfl (by omega) (by simp)
  rw [World.size_alloc] at hap3
  obtain ⟨hLa3, hLb3, hne3⟩ := ht3 _ _ _ hLe (by omega) hne
  obtain ⟨ka3, _, _⟩ := hLa3.use
  obtain ⟨kg3, fg3, lg3⟩ := hlg3.use
  have Hap3 := Lib.hid hap3
  have HPf := Lib.hid hP3
  obtain ⟨kr, fr, lr⟩ := hP3.lb1.use
  clear hP hPA hLe hne hap3 hlg3 ht3 hLa3 hLb3 hne3 hP3
  go_wp2_with (first | (go_at_call 138; refine (H138.out _).mono ?_; rintro _ _ ⟨rfl, rfl⟩) | (go_at_call 148; refine (H148.out _).mono ?_; rintro _ _ ⟨rfl, rfl⟩) | (at_builtin; refine wpList_append_eq rfl _ _ 22 rfl rfl rfl rfl Hap3.out ?_))
  refine bodyPost_ret (v := .agg #[.int .i64 1, .int .i64 0, .slice a3 n3 c3, .slice none 0 0]) (by simp [results, Tryz.results106, go_sem, *]) rfl ⟨.slice a3 n3 c3, rfl, ?_, ?_⟩
  · have hr : Rd (Ex S (w.heap.size + 1)) _ (fl [x, y]) (.slice a3 n3 c3) := HPf.out.own.rd (fun b hb => ⟨hS b (by omega), by omega⟩) (by simp)
    refine Rd.unex (L := w.heap.size + 1) ?_
    repeat (with_reducible first | refine Rd.set ?_ _ _ | exact hr)
  · have hB := HPf.out.bl
    repeat (with_reducible first | exact hB | refine Below.setCell ?_ (by simp <;> omega) _)
set_option maxHeartbeats 4000000 in
theorem c106_1 (S : Nat → Prop) (x y z m : Nat) (w : World) (hS : ∀ b, w.heap.size ≤ b → S b) :
    Calls Tryz.prog 106 #[.agg #[.float .f64 x, .float .f64 y, .float .f64 z, .float .f64 m, .int .u8 1, .bool true]] w fun e w' => ∃ vn, e = .returned (.agg #[.int .i64 1, .int .i64 1, vn, .slice none 0 0]) ∧ Rd S w' (fl ([x, y] ++ [z])) vn ∧ Below w.heap.size w w' := by
  have hsf := st_float
  have H138 : ∀ w, Calls Tryz.prog 138 #[.int .u8 1] w fun e w' => e = .returned (.bool true) ∧ w = w' := fun w => c138 1 w (by decide) (by decide)
  have H148 : ∀ w, Calls Tryz.prog 148 #[.int .u8 1] w fun e w' => e = .returned (.bool false) ∧ w = w' := fun w => c148 1 w (by decide) (by decide)
  have H138 := Lib.hid H138; have H148 := Lib.hid H148
  have l0 := Lib.hid (Lb.new' w #[.float .f64 x, .float .f64 y, .float .f64 z, .float .f64 m, .int .u8 1, .bool true] 63 (.cells #[.int .i64 0, .int .i64 0, .slice none 0 0, .slice none 0 0] 25))
  have l1 := Lib.hid (Lb.new2 w (.cells #[.float .f64 x, .float .f64 y, .float .f64 z, .float .f64 m, .int .u8 1, .bool true] 63) #[.int .i64 0, .int .i64 0, .slice none 0 0, .slice none 0 0] 25)
  have HB := Lib.hid (bl_a2 w (.cells #[.float .f64 x, .float .f64 y, .float .f64 z, .float .f64 m, .int .u8 1, .bool true] 63) (.cells #[.int .i64 0, .int .i64 0, .slice none 0 0, .slice none 0 0] 25))
  go_enter Tryz.func106, Tryz.ntmps106
  go_wp2_with fail
  refine (c142 _ _ _ _ _ _ _).mono ?_
  rintro _ w1 ⟨rfl, hb1⟩
  have hge : w.heap.size + 2 ≤ w1.heap.size := by have := hb1.size; simpa using this
  have hP : Pl w S w1.heap.size 1 1 #[.float .f64 x, .float .f64 y, .float .f64 z, .float .f64 m, .int .u8 1, .bool true] 63 (.atom (.bool true)) (.bool true) [] (.slice none 0 0) (w1.alloc (.cells #[.int .i64 1, .int .i64 1, .slice none 0 0, .slice none 0 0] 25)) :=
    ⟨(l0.out.blw hb1).alloc _, (l1.out.blw hb1).alloc _, Lb.new w1 _ _, Fl.nil _ _, .atom _, (HB.out.trans (hb1.mono (by simp <;> omega))).alloc (by omega) _, hge, by simp⟩
  obtain ⟨k0, _, _⟩ := hP.lb0.use
  obtain ⟨k1, _, _⟩ := (l0.out.blw hb1).use
  have HP := Lib.hid hP
  clear hP hb1 l0 l1 HB
  go_wp2_with fail
  refine (c97 _ _ _ _ _ _ _).mono ?_
  rintro _ w2 ⟨rfl, hb2⟩
  have hP := HP.out.step hb2
  have hgl := hP.lt
  have hPA := hP.step (bl_a1 w2 (.cells #[.float .f64 x, .float .f64 y, .float .f64 z, .float .f64 m, .int .u8 1] 61))
  have hLe := Lb.new w2 #[.float .f64 x, .float .f64 y, .float .f64 z, .float .f64 m, .int .u8 1] 61
  have hne : some w2.heap.size ≠ (Value.slice none 0 0).ownBlock := by simp [Value.ownBlock]
  obtain ⟨kg, _, _⟩ := hPA.lbg.use
  obtain ⟨a3, n3, c3, w3, hap3, hlg3, hP3, hsz3, ht3⟩ := hPA.app [x, y] 2 #[.float .f64 x, .float .f64 y] rfl rfl (by omega) (by simp)
  rw [World.size_alloc] at hap3
  obtain ⟨hLa3, hLb3, hne3⟩ := ht3 _ _ _ hLe (by omega) hne
  obtain ⟨ka3, _, _⟩ := hLa3.use
  obtain ⟨kg3, fg3, lg3⟩ := hlg3.use
  have Hap3 := Lib.hid hap3
  obtain ⟨a4, n4, c4, w4, hap4, hlg4, hP4, hsz4, ht4⟩ := hP3.app [z] 1 #[.float .f64 z] rfl rfl (by omega) (by simp)
  simp only [World.size_setCell] at hap4
  obtain ⟨hLa4, hLb4, hne4⟩ := ht4 _ _ _ hLb3 (by omega) hne3
  obtain ⟨ka4, _, _⟩ := hLa4.use
  obtain ⟨kg4, fg4, lg4⟩ := hlg4.use
  have Hap4 := Lib.hid hap4
  have HPf := Lib.hid hP4
  obtain ⟨kr, fr, lr⟩ := hP4.lb1.use
  clear hP hPA hLe hne hap3 hlg3 ht3 hLa3 hLb3 hne3 hap4 hlg4 ht4 hLa4 hLb4 hne4 hP3 hP4
  go_wp2_with (first | (go_at_call 138; refine (H138.out _).mono ?_; rintro _ _ ⟨rfl, rfl⟩) | (go_at_call 148; refine (H148.out _).mono ?_; rintro _ _ ⟨rfl, rfl⟩) | (at_builtin; refine wpList_append_eq rfl _ _ 22 rfl rfl rfl rfl Hap3.out ?_) | (at_builtin; refine wpList_append_eq rfl _ _ 22 rfl rfl rfl rfl Hap4.out ?_))
  refine bodyPost_ret (v := .agg #[.int .i64 1, .int .i64 1, .slice a4 n4 c4, .slice none 0 0]) (by simp [results, Tryz.results106, go_sem, *]) rfl ⟨.slice a4 n4 c4, rfl, ?_, ?_⟩
  · have hr : Rd (Ex S (w.heap.size + 1)) _ (fl [x, y, z]) (.slice a4 n4 c4) := HPf.out.own.rd (fun b hb => ⟨hS b (by omega), by omega⟩) (by simp)
    refine Rd.unex (L := w.heap.size + 1) ?_
    repeat (with_reducible first | refine Rd.set ?_ _ _ | exact hr)
  · have hB := HPf.out.bl
    repeat (with_reducible first | exact hB | refine Below.setCell ?_ (by simp <;> omega) _)
set_option maxHeartbeats 4000000 in
theorem c106_2 (S : Nat → Prop) (x y z m : Nat) (w : World) (hS : ∀ b, w.heap.size ≤ b → S b) :
    Calls Tryz.prog 106 #[.agg #[.float .f64 x, .float .f64 y, .float .f64 z, .float .f64 m, .int .u8 2, .bool true]] w fun e w' => ∃ vn, e = .returned (.agg #[.int .i64 1, .int .i64 2, vn, .slice none 0 0]) ∧ Rd S w' (fl ([x, y] ++ [m])) vn ∧ Below w.heap.size w w' := by
  have hsf := st_float
  have H138 : ∀ w, Calls Tryz.prog 138 #[.int .u8 2] w fun e w' => e = .returned (.bool false) ∧ w = w' := fun w => c138 2 w (by decide) (by decide)
  have H148 : ∀ w, Calls Tryz.prog 148 #[.int .u8 2] w fun e w' => e = .returned (.bool true) ∧ w = w' := fun w => c148 2 w (by decide) (by decide)
  have H138 := Lib.hid H138; have H148 := Lib.hid H148
  have l0 := Lib.hid (Lb.new' w #[.float .f64 x, .float .f64 y, .float .f64 z, .float .f64 m, .int .u8 2, .bool true] 63 (.cells #[.int .i64 0, .int .i64 0, .slice none 0 0, .slice none 0 0] 25))
  have l1 := Lib.hid (Lb.new2 w (.cells #[.float .f64 x, .float .f64 y, .float .f64 z, .float .f64 m, .int .u8 2, .bool true] 63) #[.int .i64 0, .int .i64 0, .slice none 0 0, .slice none 0 0] 25)
  have HB := Lib.hid (bl_a2 w (.cells #[.float .f64 x, .float .f64 y, .float .f64 z, .float .f64 m, .int .u8 2, .bool true] 63) (.cells #[.int .i64 0, .int .i64 0, .slice none 0 0, .slice none 0 0] 25))
  go_enter Tryz.func106, Tryz.ntmps106
  go_wp2_with fail
  refine (c142 _ _ _ _ _ _ _).mono ?_
  rintro _ w1 ⟨rfl, hb1⟩
  have hge : w.heap.size + 2 ≤ w1.heap.size := by have := hb1.size; simpa using this
  have hP : Pl w S w1.heap.size 1 2 #[.float .f64 x, .float .f64 y, .float .f64 z, .float .f64 m, .int .u8 2, .bool true] 63 (.atom (.bool true)) (.bool true) [] (.slice none 0 0) (w1.alloc (.cells #[.int .i64 1, .int .i64 2, .slice none 0 0, .slice none 0 0] 25)) :=
    ⟨(l0.out.blw hb1).alloc _, (l1.out.blw hb1).alloc _, Lb.new w1 _ _, Fl.nil _ _, .atom _, (HB.out.trans (hb1.mono (by simp <;> omega))).alloc (by omega) _, hge, by simp⟩
  obtain ⟨k0, _, _⟩ := hP.lb0.use
  obtain ⟨k1, _, _⟩ := (l0.out.blw hb1).use
  have HP := Lib.hid hP
  clear hP hb1 l0 l1 HB
  go_wp2_with fail
  refine (c97 _ _ _ _ _ _ _).mono ?_
  rintro _ w2 ⟨rfl, hb2⟩
  have hP := HP.out.step hb2
  have hgl := hP.lt
  have hPA := hP.step (bl_a1 w2 (.cells #[.float .f64 x, .float .f64 y, .float .f64 z, .float .f64 m, .int .u8 2] 61))
  have hLe := Lb.new w2 #[.float .f64 x, .float .f64 y, .float .f64 z, .float .f64 m, .int .u8 2] 61
  have hne : some w2.heap.size ≠ (Value.slice none 0 0).ownBlock := by simp [Value.ownBlock]
  obtain ⟨kg, _, _⟩ := hPA.lbg.use
  obtain ⟨a3, n3, c3, w3, hap3, hlg3, hP3, hsz3, ht3⟩ := hPA.app [x, y] 2 #[.float .f64 x, .float .f64 y] rfl rfl (by omega) (by simp)
  rw [World.size_alloc] at hap3
  obtain ⟨hLa3, hLb3, hne3⟩ := ht3 _ _ _ hLe (by omega) hne
  obtain ⟨ka3, _, _⟩ := hLa3.use
  obtain ⟨kg3, fg3, lg3⟩ := hlg3.use
  have Hap3 := Lib.hid hap3
  obtain ⟨a4, n4, c4, w4, hap4, hlg4, hP4, hsz4, ht4⟩ := hP3.app [m] 1 #[.float .f64 m] rfl rfl (by omega) (by simp)
  simp only [World.size_setCell] at hap4
  obtain ⟨hLa4, hLb4, hne4⟩ := ht4 _ _ _ hLb3 (by omega) hne3
  obtain ⟨ka4, _, _⟩ := hLa4.use
  obtain ⟨kg4, fg4, lg4⟩ := hlg4.use
  have Hap4 := Lib.hid hap4
  have HPf := Lib.hid hP4
  obtain ⟨kr, fr, lr⟩ := hP4.lb1.use
  clear hP hPA hLe hne hap3 hlg3 ht3 hLa3 hLb3 hne3 hap4 hlg4 ht4 hLa4 hLb4 hne4 hP3 hP4
  go_wp2_with (first | (go_at_call 138; refine (H138.out _).mono ?_; rintro _ _ ⟨rfl, rfl⟩) | (go_at_call 148; refine (H148.out _).mono ?_; rintro _ _ ⟨rfl, rfl⟩) | (at_builtin; refine wpList_append_eq rfl _ _ 22 rfl rfl rfl rfl Hap3.out ?_) | (at_builtin; refine wpList_append_eq rfl _ _ 22 rfl rfl rfl rfl Hap4.out ?_))
  refine bodyPost_ret (v := .agg #[.int .i64 1, .int .i64 2, .slice a4 n4 c4, .slice none 0 0]) (by simp [results, Tryz.results106, go_sem, *]) rfl ⟨.slice a4 n4 c4, rfl, ?_, ?_⟩
  · have hr : Rd (Ex S (w.heap.size + 1)) _ (fl [x, y, m]) (.slice a4 n4 c4) := HPf.out.own.rd (fun b hb => ⟨hS b (by omega), by omega⟩) (by simp)
    refine Rd.unex (L := w.heap.size + 1) ?_
    repeat (with_reducible first | refine Rd.set ?_ _ _ | exact hr)
  · have hB := HPf.out.bl
    repeat (with_reducible first | exact hB | refine Below.setCell ?_ (by simp <;> omega) _)
set_option maxHeartbeats 4000000 in
theorem c106_3 (S : Nat → Prop) (x y z m : Nat) (w : World) (hS : ∀ b, w.heap.size ≤ b → S b) :
    Calls Tryz.prog 106 #[.agg #[.float .f64 x, .float .f64 y, .float .f64 z, .float .f64 m, .int .u8 3, .bool true]] w fun e w' => ∃ vn, e = .returned (.agg #[.int .i64 1, .int .i64 3, vn, .slice none 0 0]) ∧ Rd S w' (fl ([x, y] ++ [z] ++ [m])) vn ∧ Below w.heap.size w w' := by
  have hsf := st_float
  have H138 : ∀ w, Calls Tryz.prog 138 #[.int .u8 3] w fun e w' => e = .returned (.bool true) ∧ w = w' := fun w => c138 3 w (by decide) (by decide)
  have H148 : ∀ w, Calls Tryz.prog 148 #[.int .u8 3] w fun e w' => e = .returned (.bool true) ∧ w = w' := fun w => c148 3 w (by decide) (by decide)
  have H138 := Lib.hid H138; have H148 := Lib.hid H148
  have l0 := Lib.hid (Lb.new' w #[.float .f64 x, .float .f64 y, .float .f64 z, .float .f64 m, .int .u8 3, .bool true] 63 (.cells #[.int .i64 0, .int .i64 0, .slice none 0 0, .slice none 0 0] 25))
  have l1 := Lib.hid (Lb.new2 w (.cells #[.float .f64 x, .float .f64 y, .float .f64 z, .float .f64 m, .int .u8 3, .bool true] 63) #[.int .i64 0, .int .i64 0, .slice none 0 0, .slice none 0 0] 25)
  have HB := Lib.hid (bl_a2 w (.cells #[.float .f64 x, .float .f64 y, .float .f64 z, .float .f64 m, .int .u8 3, .bool true] 63) (.cells #[.int .i64 0, .int .i64 0, .slice none 0 0, .slice none 0 0] 25))
  go_enter Tryz.func106, Tryz.ntmps106
  go_wp2_with fail
  refine (c142 _ _ _ _ _ _ _).mono ?_
  rintro _ w1 ⟨rfl, hb1⟩
  have hge : w.heap.size + 2 ≤ w1.heap.size := by have := hb1.size; simpa using this
  have hP : Pl w S w1.heap.size 1 3 #[.float .f64 x, .float .f64 y, .float .f64 z, .float .f64 m, .int .u8 3, .bool true] 63 (.atom (.bool true)) (.bool true) [] (.slice none 0 0) (w1.alloc (.cells #[.int .i64 1, .int .i64 3, .slice none 0 0, .slice none 0 0] 25)) :=
    ⟨(l0.out.blw hb1).alloc _, (l1.out.blw hb1).alloc _, Lb.new w1 _ _, Fl.nil _ _, .atom _, (HB.out.trans (hb1.mono (by simp <;> omega))).alloc (by omega) _, hge, by simp⟩
  obtain ⟨k0, _, _⟩ := hP.lb0.use
  obtain ⟨k1, _, _⟩ := (l0.out.blw hb1).use
  have HP := Lib.hid hP
  clear hP hb1 l0 l1 HB
  go_wp2_with fail
  refine (c97 _ _ _ _ _ _ _).mono ?_
  rintro _ w2 ⟨rfl, hb2⟩
  have hP := HP.out.step hb2
  have hgl := hP.lt
  have hPA := hP.step (bl_a1 w2 (.cells #[.float .f64 x, .float .f64 y, .float .f64 z, .float .f64 m, .int .u8 3] 61))
  have hLe := Lb.new w2 #[.float .f64 x, .float .f64 y, .float .f64 z, .float .f64 m, .int .u8 3] 61
  have hne : some w2.heap.size ≠ (Value.slice none 0 0).ownBlock := by simp [Value.ownBlock]
  obtain ⟨kg, _, _⟩ := hPA.lbg.use
  obtain ⟨a3, n3, c3, w3, hap3, hlg3, hP3, hsz3, ht3⟩ := hPA.app [x, y] 2 #[.float .f64 x, .float .f64 y] rfl rfl (by omega) (by simp)
  rw [World.size_alloc] at hap3
  obtain ⟨hLa3, hLb3, hne3⟩ := ht3 _ _ _ hLe (by omega) hne
  obtain ⟨ka3, _, _⟩ := hLa3.use
  obtain ⟨kg3, fg3, lg3⟩ := hlg3.use
  have Hap3 := Lib.hid hap3
  obtain ⟨a4, n4, c4, w4, hap4, hlg4, hP4, hsz4, ht4⟩ := hP3.app [z] 1 #[.float .f64 z] rfl rfl (by omega) (by simp)
  simp only [World.size_setCell] at hap4
  obtain ⟨hLa4, hLb4, hne4⟩ := ht4 _ _ _ hLb3 (by omega) hne3
  obtain ⟨ka4, _, _⟩ := hLa4.use
  obtain ⟨kg4, fg4, lg4⟩ := hlg4.use
  have Hap4 := Lib.hid hap4
  obtain ⟨a5, n5, c5, w5, hap5, hlg5, hP5, hsz5, ht5⟩ := hP4.app [m] 1 #[.float .f64 m] rfl rfl (by omega) (by simp)
  simp only [World.size_setCell] at hap5
  obtain ⟨hLa5, hLb5, hne5⟩ := ht5 _ _ _ hLb4 (by omega) hne4
  obtain ⟨ka5, _, _⟩ := hLa5.use
  obtain ⟨kg5, fg5, lg5⟩ := hlg5.use
  have Hap5 := Lib.hid hap5
  have HPf := Lib.hid hP5
  obtain ⟨kr, fr, lr⟩ := hP5.lb1.use
  clear hP hPA hLe hne hap3 hlg3 ht3 hLa3 hLb3 hne3 hap4 hlg4 ht4 hLa4 hLb4 hne4 hap5 hlg5 ht5 hLa5 hLb5 hne5 hP3 hP4 hP5
  go_wp2_with (first | (go_at_call 138; refine (H138.out _).mono ?_; rintro _ _ ⟨rfl, rfl⟩) | (go_at_call 148; refine (H148.out _).mono ?_; rintro _ _ ⟨rfl, rfl⟩) | (at_builtin; refine wpList_append_eq rfl _ _ 22 rfl rfl rfl rfl Hap3.out ?_) | (at_builtin; refine wpList_append_eq rfl _ _ 22 rfl rfl rfl rfl Hap4.out ?_) | (at_builtin; refine wpList_append_eq rfl _ _ 22 rfl rfl rfl rfl Hap5.out ?_))
  refine bodyPost_ret (v := .agg #[.int .i64 1, .int .i64 3, .slice a5 n5 c5, .slice none 0 0]) (by simp [results, Tryz.results106, go_sem, *]) rfl ⟨.slice a5 n5 c5, rfl, ?_, ?_⟩
  · have hr : Rd (Ex S (w.heap.size + 1)) _ (fl [x, y, z, m]) (.slice a5 n5 c5) := HPf.out.own.rd (fun b hb => ⟨hS b (by omega), by omega⟩) (by simp)
    refine Rd.unex (L := w.heap.size + 1) ?_
    repeat (with_reducible first | refine Rd.set ?_ _ _ | exact hr)
  · have hB := HPf.out.bl
    repeat (with_reducible first | exact hB | refine Below.setCell ?_ (by simp <;> omega) _)end Go.Proofs.YtahnhhkbdgaidaaGreatDoor
