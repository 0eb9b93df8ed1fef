/-
  Plain data of a geometry: sequences, lines.
-/
import Derived.Test.YtahnhhkbdgaidaaGreatDoorKap
namespace Go.Proofs.YtahnhhkbdgaidaaGreatDoor
open Go.RowKit
set_option maxRecDepth 100000
set_option maxHeartbeats 8000000 in
theorem c149_0 (S : Nat → Prop) (xs : List Nat) (a : Option Addr) (c : Nat) (w : World) (hS : ∀ b, w.heap.size ≤ b → S b) (hq : xs.length / dN 0 ≤ 1000000) (h : Rd S w (fl xs) (.slice a xs.length c)) :
    Calls Tryz.prog 149 #[.agg #[.int .u8 0, .slice a xs.length c]] w fun e w' => ∃ vn, e = .returned (.agg #[.int .i64 2, .int .i64 0, vn, .slice none 0 0]) ∧ Rd S w' (fl (numsOf 0 (plsOf 0 xs))) vn ∧ Below w.heap.size w w' := by
  have hsf := st_float
  have hmax : xs.length ≤ 17592186044416 := by obtain ⟨_, _, _, hm, _⟩ := fl_inv h; exact hm
  have hdm := Nat.div_mul_le_self xs.length (dN 0)
  have hpl : (plsOf 0 xs).length = xs.length / dN 0 := by simp [plsOf]
  have hpj : ∀ j (hj : j < (plsOf 0 xs).length), (plsOf 0 xs)[j] = crdOf 0 xs j := fun j hj => by simp [plsOf]
  have Hnl : Hid (∀ j, (numsOf 0 ((plsOf 0 xs).take j)).length ≤ 4000000) := Lib.hid fun j => by
    have h1 := numsOf_len 0 ((plsOf 0 xs).take j); have h2 := (dN_bd 0).2
    have h3 := Nat.mul_le_mul (show ((plsOf 0 xs).take j).length ≤ 1000000 by rw [List.length_take]; omega) h2
    omega
  generalize plsOf 0 xs = ps at *
  have hps : ps.length ≤ 1000000 := by omega
  have H138 : ∀ w, Calls Tryz.prog 138 #[.int .u8 0] w fun e w' => e = .returned (.bool false) ∧ w = w' := fun w => c138 0 w (by decide) (by decide)
  have H148 : ∀ w, Calls Tryz.prog 148 #[.int .u8 0] w fun e w' => e = .returned (.bool false) ∧ w = w' := fun w => c148 0 w (by decide) (by decide)
  have H138 := Lib.hid H138; have H148 := Lib.hid H148
  have H84 := fun w => c84 0 a xs.length c w (by decide) (by decide) hmax
  rw [← hpl] at H84
  replace H84 := Lib.hid H84
  have Hi : Hid (∀ j, j < ps.length → j * dN 0 + dN 0 ≤ xs.length) := Lib.hid fun j hj => by
    rw [hpl] at hj
    have := Nat.mul_le_mul_right (dN 0) (Nat.succ_le_of_lt hj)
    rw [Nat.succ_mul] at this; omega
  have H87 : Hid (∀ (j : Nat) (hj : j < ps.length) (w' : World), Rd (Old S w.heap.size) w' (fl xs) (.slice a xs.length c) → Calls Tryz.prog 87 #[.agg #[.int .u8 0, .slice a xs.length c], .int .i64 j] w' fun e w'' =>
      e = .returned (.agg #[.float .f64 (ps[j]).x, .float .f64 (ps[j]).y, .float .f64 (ps[j]).z, .float .f64 (ps[j]).m, .int .u8 0]) ∧ Below w'.heap.size w' w'') := Lib.hid fun j hj w' hr => by
    rw [hpj j hj]; exact c87 _ 0 xs a c j w' (by decide) (by decide) hr (Hi.out j hj)
  have l0 := Lib.hid (Lb.new' w #[.int .u8 0, .slice a xs.length c] 67 (.cells #[.int .i64 0, .int .i64 0, .slice none 0 0, .slice none 0 0] 25))
  have l1 := Lib.hid (Lb.new2 w (.cells #[.int .u8 0, .slice a xs.length c] 67) #[.int .i64 0, .int .i64 0, .slice none 0 0, .slice none 0 0] 25)
  have HB := Lib.hid (bl_a2 w (.cells #[.int .u8 0, .slice a xs.length c] 67) (.cells #[.int .i64 0, .int .i64 0, .slice none 0 0, .slice none 0 0] 25))
  have HR := Lib.hid ((h.old.alloc (.cells #[.int .u8 0, .slice a xs.length c] 67)).alloc (.cells #[.int .i64 0, .int .i64 0, .slice none 0 0, .slice none 0 0] 25))
  clear hpl hpj hdm h Hi hq
  go_enter Tryz.func149, Tryz.ntmps149
  go_wp2_with fail
  refine (c186 _ _ _ _ _).mono ?_
  rintro _ w1 ⟨rfl, hb1⟩
  have hge : w.heap.size + 2 ≤ w1.heap.size := by have := hb1.size; simpa using this
  have hP : Pl w S w1.heap.size 2 0 #[.int .u8 0, .slice a xs.length c] 67 (fl xs) (.slice a xs.length c) (numsOf 0 (ps.take 0)) (.slice none 0 0) (w1.alloc (.cells #[.int .i64 2, .int .i64 0, .slice none 0 0, .slice none 0 0] 25)) :=
    ⟨(l0.out.blw hb1).alloc _, (l1.out.blw hb1).alloc _, Lb.new w1 _ _, by simpa [numsOf] using Fl.nil _ _, (HR.out.blw hb1).alloc _, (HB.out.trans (hb1.mono (by simp <;> omega))).alloc (by omega) _, hge, by simp⟩
  have HP := Lib.hid hP
  clear hP hb1 l0 l1 HB HR
  go_wp2_with fail
  go_loopw [4] (fun i wr => ∃ j : Nat, j ≤ ps.length ∧ i = .int .i64 j ∧ ∃ v, Pl w S w1.heap.size 2 0 #[.int .u8 0, .slice a xs.length c] 67 (fl xs) (.slice a xs.length c) (numsOf 0 (ps.take j)) v wr) (fun i _ => ps.length - (intOf i).toNat)
  case atStart => exact ⟨0, Nat.zero_le _, rfl, _, HP.out⟩
  case round =>
    clear HP
    obtain ⟨j, hj, rfl, v, hP⟩ := hrel
    obtain ⟨kb0, _, _⟩ := hP.lb0.use
    have HP := Lib.hid hP
    clear hP
    go_wp2_with fail
    refine (H84.out _).mono ?_
    rintro _ wa ⟨rfl, hba⟩
    have hP := HP.out.step hba
    obtain ⟨ka0, _, _⟩ := hP.lb0.use
    clear hba HP kb0
    by_cases hlt : j < ps.length
    · have HN := Lib.hid (numsOf_take 0 ps j hlt)
      have HX := Lib.hid (Hnl.out j)
      have HC := Lib.hid (H87.out j hlt _ hP.rd)
      have HP := Lib.hid hP
      have Hcr : Hid (crdNums 0 ps[j] = [(ps[j]).x, (ps[j]).y]) := Lib.hid (by simp [crdNums])
      clear hP
      generalize numsOf 0 (ps.take j) = ns at *
      generalize (ps[j]).x = x at *
      generalize (ps[j]).y = y at *
      generalize (ps[j]).z = z at *
      generalize (ps[j]).m = m at *
      go_wp2_with fail
      refine HC.out.mono ?_
      rintro _ w2 ⟨rfl, hb2⟩
      have hP := HP.out.step hb2
      have hgl := hP.lt
      have hPA := hP.step (bl_a1 w2 (.cells #[.float .f64 x, .float .f64 y, .float .f64 z, .float .f64 m, .int .u8 0] 61))
      have hLe := Lb.new w2 #[.float .f64 x, .float .f64 y, .float .f64 z, .float .f64 m, .int .u8 0] 61
      have hne : some w2.heap.size ≠ v.ownBlock := fun e => by have := (hP.own.lt _ e.symm).2; omega
      obtain ⟨kg, _, _⟩ := hPA.lbg.use
      have hX := HX.out
      obtain ⟨a3, n3, c3, w3, hap3, hlg3, hP3, hsz3, ht3⟩ := hPA.app [x, y] 2 #[.float .f64 x, .float .f64 y] rfl rfl (by omega) (by omega)
      rw [World.size_alloc] at hap3
      obtain ⟨hLa3, hLb3, hne3⟩ := ht3 _ _ _ hLe (by omega) hne
      obtain ⟨ka3, _, _⟩ := hLa3.use
      obtain ⟨kg3, fg3, lg3⟩ := hlg3.use
      have Hap3 := Lib.hid hap3
      have HPf := Lib.hid hP3
      clear hP hPA hLe hne hX ka0 hap3 hlg3 ht3 hLa3 hLb3 hne3 hP3
      go_wp2_with (first | (go_at_call 138; refine (H138.out _).mono ?_; rintro _ _ ⟨rfl, rfl⟩) | (go_at_call 148; refine (H148.out _).mono ?_; rintro _ _ ⟨rfl, rfl⟩) | (at_builtin; refine wpList_append_eq rfl _ _ 22 rfl rfl rfl rfl Hap3.out ?_))
      go_roundw
      case rel =>
        refine ⟨j + 1, by omega, by go_num, .slice a3 n3 c3, ?_⟩
        rw [HN.out, Hcr.out]
        simpa using HPf.out
      case measure => simp [intOf]; omega
    · obtain rfl : j = ps.length := by omega
      rw [List.take_length] at hP
      have hdl : decide (((ps.length : Nat) : Int) < ps.length) = false := by simp
      obtain ⟨av, cv, rfl⟩ := hP.own.shape
      obtain ⟨kr, fr, lr⟩ := hP.lb1.use
      obtain ⟨kg, _, _⟩ := hP.lbg.use
      have hX := Hnl.out ps.length
      rw [List.take_length] at hX
      have HP := Lib.hid hP
      have hgl := hP.lt
      clear hP
      go_wp2_with fail
      refine bodyPost_ret (v := .agg #[.int .i64 2, .int .i64 0, .slice av (numsOf 0 ps).length cv, .slice none 0 0]) (by simp [results, Tryz.results149, go_sem, *]) rfl ⟨_, rfl, ?_, ?_⟩
      · have hr : Rd (Ex S (w.heap.size + 1)) _ (fl (numsOf 0 ps)) (.slice av (numsOf 0 ps).length cv) := HP.out.own.rd (fun b hb => ⟨hS b (by omega), by omega⟩) (by omega)
        refine Rd.unex (L := w.heap.size + 1) ?_
        repeat (with_reducible first | refine Rd.set ?_ _ _ | exact hr)
      · have hB := HP.out.bl
        repeat (with_reducible first | exact hB | refine Below.setCell ?_ (by simp <;> omega) _)
set_option maxHeartbeats 8000000 in
theorem c149_1 (S : Nat → Prop) (xs : List Nat) (a : Option Addr) (c : Nat) (w : World) (hS : ∀ b, w.heap.size ≤ b → S b) (hq : xs.length / dN 1 ≤ 1000000) (h : Rd S w (fl xs) (.slice a xs.length c)) :
    Calls Tryz.prog 149 #[.agg #[.int .u8 1, .slice a xs.length c]] w fun e w' => ∃ vn, e = .returned (.agg #[.int .i64 2, .int .i64 1, vn, .slice none 0 0]) ∧ Rd S w' (fl (numsOf 1 (plsOf 1 xs))) vn ∧ Below w.heap.size w w' := by
  have hsf := st_float
  have hmax : xs.length ≤ 17592186044416 := by obtain ⟨_, _, _, hm, _⟩ := fl_inv h; exact hm
  have hdm := Nat.div_mul_le_self xs.length (dN 1)
  have hpl : (plsOf 1 xs).length = xs.length / dN 1 := by simp [plsOf]
  have hpj : ∀ j (hj : j < (plsOf 1 xs).length), (plsOf 1 xs)[j] = crdOf 1 xs j := fun j hj => by simp [plsOf]
  have Hnl : Hid (∀ j, (numsOf 1 ((plsOf 1 xs).take j)).length ≤ 4000000) := Lib.hid fun j => by
    have h1 := numsOf_len 1 ((plsOf 1 xs).take j); have h2 := (dN_bd 1).2
    have h3 := Nat.mul_le_mul (show ((plsOf 1 xs).take j).length ≤ 1000000 by rw [List.length_take]; omega) h2
    omega
  generalize plsOf 1 xs = ps at *
  have hps : ps.length ≤ 1000000 := by omega
  have H138 : ∀ w, Calls Tryz.prog 138 #[.int .u8 1] w fun e w' => e = .returned (.bool true) ∧ w = w' := fun w => c138 1 w (by decide) (by decide)
  have H148 : ∀ w, Calls Tryz.prog 148 #[.int .u8 1] w fun e w' => e = .returned (.bool false) ∧ w = w' := fun w => c148 1 w (by decide) (by decide)
  have H138 := Lib.hid H138; have H148 := Lib.hid H148
  have H84 := fun w => c84 1 a xs.length c w (by decide) (by decide) hmax
  rw [← hpl] at H84
  replace H84 := Lib.hid H84
  have Hi : Hid (∀ j, j < ps.length → j * dN 1 + dN 1 ≤ xs.length) := Lib.hid fun j hj => by
    rw [hpl] at hj
    have := Nat.mul_le_mul_right (dN 1) (Nat.succ_le_of_lt hj)
    rw [Nat.succ_mul] at this; omega
  have H87 : Hid (∀ (j : Nat) (hj : j < ps.length) (w' : World), Rd (Old S w.heap.size) w' (fl xs) (.slice a xs.length c) → Calls Tryz.prog 87 #[.agg #[.int .u8 1, .slice a xs.length c], .int .i64 j] w' fun e w'' =>
      e = .returned (.agg #[.float .f64 (ps[j]).x, .float .f64 (ps[j]).y, .float .f64 (ps[j]).z, .float .f64 (ps[j]).m, .int .u8 1]) ∧ Below w'.heap.size w' w'') := Lib.hid fun j hj w' hr => by
    rw [hpj j hj]; exact c87 _ 1 xs a c j w' (by decide) (by decide) hr (Hi.out j hj)
  have l0 := Lib.hid (Lb.new' w #[.int .u8 1, .slice a xs.length c] 67 (.cells #[.int .i64 0, .int .i64 0, .slice none 0 0, .slice none 0 0] 25))
  have l1 := Lib.hid (Lb.new2 w (.cells #[.int .u8 1, .slice a xs.length c] 67) #[.int .i64 0, .int .i64 0, .slice none 0 0, .slice none 0 0] 25)
  have HB := Lib.hid (bl_a2 w (.cells #[.int .u8 1, .slice a xs.length c] 67) (.cells #[.int .i64 0, .int .i64 0, .slice none 0 0, .slice none 0 0] 25))
  have HR := Lib.hid ((h.old.alloc (.cells #[.int .u8 1, .slice a xs.length c] 67)).alloc (.cells #[.int .i64 0, .int .i64 0, .slice none 0 0, .slice none 0 0] 25))
  clear hpl hpj hdm h Hi hq
  go_enter Tryz.func149, Tryz.ntmps149
  go_wp2_with fail
  refine (c186 _ _ _ _ _).mono ?_
  rintro _ w1 ⟨rfl, hb1⟩
  have hge : w.heap.size + 2 ≤ w1.heap.size := by have := hb1.size; simpa using this
  have hP : Pl w S w1.heap.size 2 1 #[.int .u8 1, .slice a xs.length c] 67 (fl xs) (.slice a xs.length c) (numsOf 1 (ps.take 0)) (.slice none 0 0) (w1.alloc (.cells #[.int .i64 2, .int .i64 1, .slice none 0 0, .slice none 0 0] 25)) :=
    ⟨(l0.out.blw hb1).alloc _, (l1.out.blw hb1).alloc _, Lb.new w1 _ _, by simpa [numsOf] using Fl.nil _ _, (HR.out.blw hb1).alloc _, (HB.out.trans (hb1.mono (by simp <;> omega))).alloc (by omega) _, hge, by simp⟩
  have HP := Lib.hid hP
  clear hP hb1 l0 l1 HB HR
  go_wp2_with fail
  go_loopw [4] (fun i wr => ∃ j : Nat, j ≤ ps.length ∧ i = .int .i64 j ∧ ∃ v, Pl w S w1.heap.size 2 1 #[.int .u8 1, .slice a xs.length c] 67 (fl xs) (.slice a xs.length c) (numsOf 1 (ps.take j)) v wr) (fun i _ => ps.length - (intOf i).toNat)
  case atStart => exact ⟨0, Nat.zero_le _, rfl, _, HP.out⟩
  case round =>
    clear HP
    obtain ⟨j, hj, rfl, v, hP⟩ := hrel
    obtain ⟨kb0, _, _⟩ := hP.lb0.use
    have HP := Lib.hid hP
    clear hP
    go_wp2_with fail
    refine (H84.out _).mono ?_
    rintro _ wa ⟨rfl, hba⟩
    have hP := HP.out.step hba
    obtain ⟨ka0, _, _⟩ := hP.lb0.use
    clear hba HP kb0
    by_cases hlt : j < ps.length
    · have HN := Lib.hid (numsOf_take 1 ps j hlt)
      have HX := Lib.hid (Hnl.out j)
      have HC := Lib.hid (H87.out j hlt _ hP.rd)
      have HP := Lib.hid hP
      have Hcr : Hid (crdNums 1 ps[j] = [(ps[j]).x, (ps[j]).y] ++ [(ps[j]).z]) := Lib.hid (by simp [crdNums])
      clear hP
      generalize numsOf 1 (ps.take j) = ns at *
      generalize (ps[j]).x = x at *
      generalize (ps[j]).y = y at *
      generalize (ps[j]).z = z at *
      generalize (ps[j]).m = m at *
      go_wp2_with fail
      refine HC.out.mono ?_
      rintro _ w2 ⟨rfl, hb2⟩
      have hP := HP.out.step hb2
      have hgl := hP.lt
      have hPA := hP.step (bl_a1 w2 (.cells #[.float .f64 x, .float .f64 y, .float .f64 z, .float .f64 m, .int .u8 1] 61))
      have hLe := Lb.new w2 #[.float .f64 x, .float .f64 y, .float .f64 z, .float .f64 m, .int .u8 1] 61
      have hne : some w2.heap.size ≠ v.ownBlock := fun e => by have := (hP.own.lt _ e.symm).2; omega
      obtain ⟨kg, _, _⟩ := hPA.lbg.use
      have hX := HX.out
      obtain ⟨a3, n3, c3, w3, hap3, hlg3, hP3, hsz3, ht3⟩ := hPA.app [x, y] 2 #[.float .f64 x, .float .f64 y] rfl rfl (by omega) (by omega)
      rw [World.size_alloc] at hap3
      obtain ⟨hLa3, hLb3, hne3⟩ := ht3 _ _ _ hLe (by omega) hne
      obtain ⟨ka3, _, _⟩ := hLa3.use
      obtain ⟨kg3, fg3, lg3⟩ := hlg3.use
      have Hap3 := Lib.hid hap3
      obtain ⟨a4, n4, c4, w4, hap4, hlg4, hP4, hsz4, ht4⟩ := hP3.app [z] 1 #[.float .f64 z] rfl rfl (by omega) (by simp only [List.length_append, List.length_cons, List.length_nil]; omega)
      simp only [World.size_setCell] at hap4
      obtain ⟨hLa4, hLb4, hne4⟩ := ht4 _ _ _ hLb3 (by omega) hne3
      obtain ⟨ka4, _, _⟩ := hLa4.use
      obtain ⟨kg4, fg4, lg4⟩ := hlg4.use
      have Hap4 := Lib.hid hap4
      have HPf := Lib.hid hP4
      clear hP hPA hLe hne hX ka0 hap3 hlg3 ht3 hLa3 hLb3 hne3 hap4 hlg4 ht4 hLa4 hLb4 hne4 hP3 hP4
      go_wp2_with (first | (go_at_call 138; refine (H138.out _).mono ?_; rintro _ _ ⟨rfl, rfl⟩) | (go_at_call 148; refine (H148.out _).mono ?_; rintro _ _ ⟨rfl, rfl⟩) | (at_builtin; refine wpList_append_eq rfl _ _ 22 rfl rfl rfl rfl Hap3.out ?_) | (at_builtin; refine wpList_append_eq rfl _ _ 22 rfl rfl rfl rfl Hap4.out ?_))
      go_roundw
      case rel =>
        refine ⟨j + 1, by omega, by go_num, .slice a4 n4 c4, ?_⟩
        rw [HN.out, Hcr.out]
        simpa using HPf.out
      case measure => simp [intOf]; omega
    · obtain rfl : j = ps.length := by omega
      rw [List.take_length] at hP
      have hdl : decide (((ps.length : Nat) : Int) < ps.length) = false := by simp
      obtain ⟨av, cv, rfl⟩ := hP.own.shape
      obtain ⟨kr, fr, lr⟩ := hP.lb1.use
      obtain ⟨kg, _, _⟩ := hP.lbg.use
      have hX := Hnl.out ps.length
      rw [List.take_length] at hX
      have HP := Lib.hid hP
      have hgl := hP.lt
      clear hP
      go_wp2_with fail
      refine bodyPost_ret (v := .agg #[.int .i64 2, .int .i64 1, .slice av (numsOf 1 ps).length cv, .slice none 0 0]) (by simp [results, Tryz.results149, go_sem, *]) rfl ⟨_, rfl, ?_, ?_⟩
      · have hr : Rd (Ex S (w.heap.size + 1)) _ (fl (numsOf 1 ps)) (.slice av (numsOf 1 ps).length cv) := HP.out.own.rd (fun b hb => ⟨hS b (by omega), by omega⟩) (by omega)
        refine Rd.unex (L := w.heap.size + 1) ?_
        repeat (with_reducible first | refine Rd.set ?_ _ _ | exact hr)
      · have hB := HP.out.bl
        repeat (with_reducible first | exact hB | refine Below.setCell ?_ (by simp <;> omega) _)
set_option maxHeartbeats 8000000 in
theorem c149_2 (S : Nat → Prop) (xs : List Nat) (a : Option Addr) (c : Nat) (w : World) (hS : ∀ b, w.heap.size ≤ b → S b) (hq : xs.length / dN 2 ≤ 1000000) (h : Rd S w (fl xs) (.slice a xs.length c)) :
    Calls Tryz.prog 149 #[.agg #[.int .u8 2, .slice a xs.length c]] w fun e w' => ∃ vn, e = .returned (.agg #[.int .i64 2, .int .i64 2, vn, .slice none 0 0]) ∧ Rd S w' (fl (numsOf 2 (plsOf 2 xs))) vn ∧ Below w.heap.size w w' := by
  have hsf := st_float
  have hmax : xs.length ≤ 17592186044416 := by obtain ⟨_, _, _, hm, _⟩ := fl_inv h; exact hm
  have hdm := Nat.div_mul_le_self xs.length (dN 2)
  have hpl : (plsOf 2 xs).length = xs.length / dN 2 := by simp [plsOf]
  have hpj : ∀ j (hj : j < (plsOf 2 xs).length), (plsOf 2 xs)[j] = crdOf 2 xs j := fun j hj => by simp [plsOf]
  have Hnl : Hid (∀ j, (numsOf 2 ((plsOf 2 xs).take j)).length ≤ 4000000) := Lib.hid fun j => by
    have h1 := numsOf_len 2 ((plsOf 2 xs).take j); have h2 := (dN_bd 2).2
    have h3 := Nat.mul_le_mul (show ((plsOf 2 xs).take j).length ≤ 1000000 by rw [List.length_take]; omega) h2
    omega
  generalize plsOf 2 xs = ps at *
  have hps : ps.length ≤ 1000000 := by omega
  have H138 : ∀ w, Calls Tryz.prog 138 #[.int .u8 2] w fun e w' => e = .returned (.bool false) ∧ w = w' := fun w => c138 2 w (by decide) (by decide)
  have H148 : ∀ w, Calls Tryz.prog 148 #[.int .u8 2] w fun e w' => e = .returned (.bool true) ∧ w = w' := fun w => c148 2 w (by decide) (by decide)
  have H138 := Lib.hid H138; have H148 := Lib.hid H148
  have H84 := fun w => c84 2 a xs.length c w (by decide) (by decide) hmax
  rw [← hpl] at H84
  replace H84 := Lib.hid H84
  have Hi : Hid (∀ j, j < ps.length → j * dN 2 + dN 2 ≤ xs.length) := Lib.hid fun j hj => by
    rw [hpl] at hj
    have := Nat.mul_le_mul_right (dN 2) (Nat.succ_le_of_lt hj)
    rw [Nat.succ_mul] at this; omega
  have H87 : Hid (∀ (j : Nat) (hj : j < ps.length) (w' : World), Rd (Old S w.heap.size) w' (fl xs) (.slice a xs.length c) → Calls Tryz.prog 87 #[.agg #[.int .u8 2, .slice a xs.length c], .int .i64 j] w' fun e w'' =>
      e = .returned (.agg #[.float .f64 (ps[j]).x, .float .f64 (ps[j]).y, .float .f64 (ps[j]).z, .float .f64 (ps[j]).m, .int .u8 2]) ∧ Below w'.heap.size w' w'') := Lib.hid fun j hj w' hr => by
    rw [hpj j hj]; exact c87 _ 2 xs a c j w' (by decide) (by decide) hr (Hi.out j hj)
  have l0 := Lib.hid (Lb.new' w #[.int .u8 2, .slice a xs.length c] 67 (.cells #[.int .i64 0, .int .i64 0, .slice none 0 0, .slice none 0 0] 25))
  have l1 := Lib.hid (Lb.new2 w (.cells #[.int .u8 2, .slice a xs.length c] 67) #[.int .i64 0, .int .i64 0, .slice none 0 0, .slice none 0 0] 25)
  have HB := Lib.hid (bl_a2 w (.cells #[.int .u8 2, .slice a xs.length c] 67) (.cells #[.int .i64 0, .int .i64 0, .slice none 0 0, .slice none 0 0] 25))
  have HR := Lib.hid ((h.old.alloc (.cells #[.int .u8 2, .slice a xs.length c] 67)).alloc (.cells #[.int .i64 0, .int .i64 0, .slice none 0 0, .slice none 0 0] 25))
  clear hpl hpj hdm h Hi hq
  go_enter Tryz.func149, Tryz.ntmps149
  go_wp2_with fail
  refine (c186 _ _ _ _ _).mono ?_
  rintro _ w1 ⟨rfl, hb1⟩
  have hge : w.heap.size + 2 ≤ w1.heap.size := by have := hb1.size; simpa using this
  have hP : Pl w S w1.heap.size 2 2 #[.int .u8 2, .slice a xs.length c] 67 (fl xs) (.slice a xs.length c) (numsOf 2 (ps.take 0)) (.slice none 0 0) (w1.alloc (.cells #[.int .i64 2, .int .i64 2, .slice none 0 0, .slice none 0 0] 25)) :=
    ⟨(l0.out.blw hb1).alloc _, (l1.out.blw hb1).alloc _, Lb.new w1 _ _, by simpa [numsOf] using Fl.nil _ _, (HR.out.blw hb1).alloc _, (HB.out.trans (hb1.mono (by simp <;> omega))).alloc (by omega) _, hge, by simp⟩
  have HP := Lib.hid hP
  clear hP hb1 l0 l1 HB HR
  go_wp2_with fail
  go_loopw [4] (fun i wr => ∃ j : Nat, j ≤ ps.length ∧ i = .int .i64 j ∧ ∃ v, Pl w S w1.heap.size 2 2 #[.int .u8 2, .slice a xs.length c] 67 (fl xs) (.slice a xs.length c) (numsOf 2 (ps.take j)) v wr) (fun i _ => ps.length - (intOf i).toNat)
  case atStart => exact ⟨0, Nat.zero_le _, rfl, _, HP.out⟩
  case round =>
    clear HP
    obtain ⟨j, hj, rfl, v, hP⟩ := hrel
    obtain ⟨kb0, _, _⟩ := hP.lb0.use
    have HP := Lib.hid hP
    clear hP
    go_wp2_with fail
    refine (H84.out _).mono ?_
    rintro _ wa ⟨rfl, hba⟩
    have hP := HP.out.step hba
    obtain ⟨ka0, _, _⟩ := hP.lb0.use
    clear hba HP kb0
    by_cases hlt : j < ps.length
    · have HN := Lib.hid (numsOf_take 2 ps j hlt)
      have HX := Lib.hid (Hnl.out j)
      have HC := Lib.hid (H87.out j hlt _ hP.rd)
      have HP := Lib.hid hP
      have Hcr : Hid (crdNums 2 ps[j] = [(ps[j]).x, (ps[j]).y] ++ [(ps[j]).m]) := Lib.hid (by simp [crdNums])
      clear hP
      generalize numsOf 2 (ps.take j) = ns at *
      generalize (ps[j]).x = x at *
      generalize (ps[j]).y = y at *
      generalize (ps[j]).z = z at *
      generalize (ps[j]).m = m at *
      go_wp2_with fail
      refine HC.out.mono ?_
      rintro _ w2 ⟨rfl, hb2⟩
      have hP := HP.out.step hb2
      have hgl := hP.lt
      have hPA := hP.step (bl_a1 w2 (.cells #[.float .f64 x, .float .f64 y, .float .f64 z, .float .f64 m, .int .u8 2] 61))
      have hLe := Lb.new w2 #[.float .f64 x, .float .f64 y, .float .f64 z, .float .f64 m, .int .u8 2] 61
      have hne : some w2.heap.size ≠ v.ownBlock := fun e => by have := (hP.own.lt _ e.symm).2; omega
      obtain ⟨kg, _, _⟩ := hPA.lbg.use
      have hX := HX.out
      obtain ⟨a3, n3, c3, w3, hap3, hlg3, hP3, hsz3, ht3⟩ := hPA.app [x, y] 2 #[.float .f64 x, .float .f64 y] rfl rfl (by omega) (by omega)
      rw [World.size_alloc] at hap3
      obtain ⟨hLa3, hLb3, hne3⟩ := ht3 _ _ _ hLe (by omega) hne
      obtain ⟨ka3, _, _⟩ := hLa3.use
      obtain ⟨kg3, fg3, lg3⟩ := hlg3.use
      have Hap3 := Lib.hid hap3
      obtain ⟨a4, n4, c4, w4, hap4, hlg4, hP4, hsz4, ht4⟩ := hP3.app [m] 1 #[.float .f64 m] rfl rfl (by omega) (by simp only [List.length_append, List.length_cons, List.length_nil]; omega)
      simp only [World.size_setCell] at hap4
      obtain ⟨hLa4, hLb4, hne4⟩ := ht4 _ _ _ hLb3 (by omega) hne3
      obtain ⟨ka4, _, _⟩ := hLa4.use
      obtain ⟨kg4, fg4, lg4⟩ := hlg4.use
      have Hap4 := Lib.hid hap4
      have HPf := Lib.hid hP4
      clear hP hPA hLe hne hX ka0 hap3 hlg3 ht3 hLa3 hLb3 hne3 hap4 hlg4 ht4 hLa4 hLb4 hne4 hP3 hP4
      go_wp2_with (first | (go_at_call 138; refine (H138.out _).mono ?_; rintro _ _ ⟨rfl, rfl⟩) | (go_at_call 148; refine (H148.out _).mono ?_; rintro _ _ ⟨rfl, rfl⟩) | (at_builtin; refine wpList_append_eq rfl _ _ 22 rfl rfl rfl rfl Hap3.out ?_) | (at_builtin; refine wpList_append_eq rfl _ _ 22 rfl rfl rfl rfl Hap4.out ?_))
      go_roundw
      case rel =>
        refine ⟨j + 1, by omega, by go_num, .slice a4 n4 c4, ?_⟩
        rw [HN.out, Hcr.out]
        simpa using HPf.out
      case measure => simp [intOf]; omega
    · obtain rfl : j = ps.length := by omega
      rw [List.take_length] at hP
      have hdl : decide (((ps.length : Nat) : Int) < ps.length) = false := by simp
      obtain ⟨av, cv, rfl⟩ := hP.own.shape
      obtain ⟨kr, fr, lr⟩ := hP.lb1.use
      obtain ⟨kg, _, _⟩ := hP.lbg.use
      have hX := Hnl.out ps.length
      rw [List.take_length] at hX
      have HP := Lib.hid hP
      have hgl := hP.lt
      clear hP
      go_wp2_with fail
      refine bodyPost_ret (v := .agg #[.int .i64 2, .int .i64 2, .slice av (numsOf 2 ps).length cv, .slice none 0 0]) (by simp [results, Tryz.results149, go_sem, *]) rfl ⟨_, rfl, ?_, ?_⟩
      · have hr : Rd (Ex S (w.heap.size + 1)) _ (fl (numsOf 2 ps)) (.slice av (numsOf 2 ps).length cv) := HP.out.own.rd (fun b hb => ⟨hS b (by omega), by omega⟩) (by omega)
        refine Rd.unex (L := w.heap.size + 1) ?_
        repeat (with_reducible first | refine Rd.set ?_ _ _ | exact hr)
      · have hB := HP.out.bl
        repeat (with_reducible first | exact hB | refine Below.setCell ?_ (by simp <;> omega) _)
set_option maxHeartbeats 8000000 in
theorem c149_3 (S : Nat → Prop) (xs : List Nat) (a : Option Addr) (c : Nat) (w : World) (hS : ∀ b, w.heap.size ≤ b → S b) (hq : xs.length / dN 3 ≤ 1000000) (h : Rd S w (fl xs) (.slice a xs.length c)) :
    Calls Tryz.prog 149 #[.agg #[.int .u8 3, .slice a xs.length c]] w fun e w' => ∃ vn, e = .returned (.agg #[.int .i64 2, .int .i64 3, vn, .slice none 0 0]) ∧ Rd S w' (fl (numsOf 3 (plsOf 3 xs))) vn ∧ Below w.heap.size w w' := by
  have hsf := st_float
  have hmax : xs.length ≤ 17592186044416 := by obtain ⟨_, _, _, hm, _⟩ := fl_inv h; exact hm
  have hdm := Nat.div_mul_le_self xs.length (dN 3)
  have hpl : (plsOf 3 xs).length = xs.length / dN 3 := by simp [plsOf]
  have hpj : ∀ j (hj : j < (plsOf 3 xs).length), (plsOf 3 xs)[j] = crdOf 3 xs j := fun j hj => by simp [plsOf]
  have Hnl : Hid (∀ j, (numsOf 3 ((plsOf 3 xs).take j)).length ≤ 4000000) := Lib.hid fun j => by
    have h1 := numsOf_len 3 ((plsOf 3 xs).take j); have h2 := (dN_bd 3).2
    have h3 := Nat.mul_le_mul (show ((plsOf 3 xs).take j).length ≤ 1000000 by rw [List.length_take]; omega) h2
    omega
  generalize plsOf 3 xs = ps at *
  have hps : ps.length ≤ 1000000 := by omega
  have H138 : ∀ w, Calls Tryz.prog 138 #[.int .u8 3] w fun e w' => e = .returned (.bool true) ∧ w = w' := fun w => c138 3 w (by decide) (by decide)
  have H148 : ∀ w, Calls Tryz.prog 148 #[.int .u8 3] w fun e w' => e = .returned (.bool true) ∧ w = w' := fun w => c148 3 w (by decide) (by decide)
  have H138 := Lib.hid H138; have H148 := Lib.hid H148
  have H84 := fun w => c84 3 a xs.length c w (by decide) (by decide) hmax
  rw [← hpl] at H84
  replace H84 := Lib.hid H84
  have Hi : Hid (∀ j, j < ps.length → j * dN 3 + dN 3 ≤ xs.length) := Lib.hid fun j hj => by
    rw [hpl] at hj
    have := Nat.mul_le_mul_right (dN 3) (Nat.succ_le_of_lt hj)
    rw [Nat.succ_mul] at this; omega
  have H87 : Hid (∀ (j : Nat) (hj : j < ps.length) (w' : World), Rd (Old S w.heap.size) w' (fl xs) (.slice a xs.length c) → Calls Tryz.prog 87 #[.agg #[.int .u8 3, .slice a xs.length c], .int .i64 j] w' fun e w'' =>
      e = .returned (.agg #[.float .f64 (ps[j]).x, .float .f64 (ps[j]).y, .float .f64 (ps[j]).z, .float .f64 (ps[j]).m, .int .u8 3]) ∧ Below w'.heap.size w' w'') := Lib.hid fun j hj w' hr => by
    rw [hpj j hj]; exact c87 _ 3 xs a c j w' (by decide) (by decide) hr (Hi.out j hj)
  have l0 := Lib.hid (Lb.new' w #[.int .u8 3, .slice a xs.length c] 67 (.cells #[.int .i64 0, .int .i64 0, .slice none 0 0, .slice none 0 0] 25))
  have l1 := Lib.hid (Lb.new2 w (.cells #[.int .u8 3, .slice a xs.length c] 67) #[.int .i64 0, .int .i64 0, .slice none 0 0, .slice none 0 0] 25)
  have HB := Lib.hid (bl_a2 w (.cells #[.int .u8 3, .slice a xs.length c] 67) (.cells #[.int .i64 0, .int .i64 0, .slice none 0 0, .slice none 0 0] 25))
  have HR := Lib.hid ((h.old.alloc (.cells #[.int .u8 3, .slice a xs.length c] 67)).alloc (.cells #[.int .i64 0, .int .i64 0, .slice none 0 0, .slice none 0 0] 25))
  clear hpl hpj hdm h Hi hq
  go_enter Tryz.func149, Tryz.ntmps149
  go_wp2_with fail
  refine (c186 _ _ _ _ _).mono ?_
  rintro _ w1 ⟨rfl, hb1⟩
  have hge : w.heap.size + 2 ≤ w1.heap.size := by have := hb1.size; simpa using this
  have hP : Pl w S w1.heap.size 2 3 #[.int .u8 3, .slice a xs.length c] 67 (fl xs) (.slice a xs.length c) (numsOf 3 (ps.take 0)) (.slice none 0 0) (w1.alloc (.cells #[.int .i64 2, .int .i64 3, .slice none 0 0, .slice none 0 0] 25)) :=
    ⟨(l0.out.blw hb1).alloc _, (l1.out.blw hb1).alloc _, Lb.new w1 _ _, by simpa [numsOf] using Fl.nil _ _, (HR.out.blw hb1).alloc _, (HB.out.trans (hb1.mono (by simp <;> omega))).alloc (by omega) _, hge, by simp⟩
  have HP := Lib.hid hP
  clear hP hb1 l0 l1 HB HR
  go_wp2_with fail
  go_loopw [4] (fun i wr => ∃ j : Nat, j ≤ ps.length ∧ i = .int .i64 j ∧ ∃ v, Pl w S w1.heap.size 2 3 #[.int .u8 3, .slice a xs.length c] 67 (fl xs) (.slice a xs.length c) (numsOf 3 (ps.take j)) v wr) (fun i _ => ps.length - (intOf i).toNat)
  case atStart => exact ⟨0, Nat.zero_le _, rfl, _, HP.out⟩
  case round =>
    clear HP
    obtain ⟨j, hj, rfl, v, hP⟩ := hrel
    obtain ⟨kb0, _, _⟩ := hP.lb0.use
    have HP := Lib.hid hP
    clear hP
    go_wp2_with fail
    refine (H84.out _).mono ?_
    rintro _ wa ⟨rfl, hba⟩
    have hP := HP.out.step hba
    obtain ⟨ka0, _, _⟩ := hP.lb0.use
    clear hba HP kb0
    by_cases hlt : j < ps.length
    · have HN := Lib.hid (numsOf_take 3 ps j hlt)
      have HX := Lib.hid (Hnl.out j)
      have HC := Lib.hid (H87.out j hlt _ hP.rd)
      have HP := Lib.hid hP
      have Hcr : Hid (crdNums 3 ps[j] = [(ps[j]).x, (ps[j]).y] ++ [(ps[j]).z] ++ [(ps[j]).m]) := Lib.hid (by simp [crdNums])
      clear hP
      generalize numsOf 3 (ps.take j) = ns at *
      generalize (ps[j]).x = x at *
      generalize (ps[j]).y = y at *
      generalize (ps[j]).z = z at *
      generalize (ps[j]).m = m at *
      go_wp2_with fail
      refine HC.out.mono ?_
      rintro _ w2 ⟨rfl, hb2⟩
      have hP := HP.out.step hb2
      have hgl := hP.lt
      have hPA := hP.step (bl_a1 w2 (.cells #[.float .f64 x, .float .f64 y, .float .f64 z, .float .f64 m, .int .u8 3] 61))
      have hLe := Lb.new w2 #[.float .f64 x, .float .f64 y, .float .f64 z, .float .f64 m, .int .u8 3] 61
      have hne : some w2.heap.size ≠ v.ownBlock := fun e => by have := (hP.own.lt _ e.symm).2; omega
      obtain ⟨kg, _, _⟩ := hPA.lbg.use
      have hX := HX.out
      obtain ⟨a3, n3, c3, w3, hap3, hlg3, hP3, hsz3, ht3⟩ := hPA.app [x, y] 2 #[.float .f64 x, .float .f64 y] rfl rfl (by omega) (by omega)
      rw [World.size_alloc] at hap3
      obtain ⟨hLa3, hLb3, hne3⟩ := ht3 _ _ _ hLe (by omega) hne
      obtain ⟨ka3, _, _⟩ := hLa3.use
      obtain ⟨kg3, fg3, lg3⟩ := hlg3.use
      have Hap3 := Lib.hid hap3
      obtain ⟨a4, n4, c4, w4, hap4, hlg4, hP4, hsz4, ht4⟩ := hP3.app [z] 1 #[.float .f64 z] rfl rfl (by omega) (by simp only [List.length_append, List.length_cons, List.length_nil]; omega)
      simp only [World.size_setCell] at hap4
      obtain ⟨hLa4, hLb4, hne4⟩ := ht4 _ _ _ hLb3 (by omega) hne3
      obtain ⟨ka4, _, _⟩ := hLa4.use
      obtain ⟨kg4, fg4, lg4⟩ := hlg4.use
      have Hap4 := Lib.hid hap4
      obtain ⟨a5, n5, c5, w5, hap5, hlg5, hP5, hsz5, ht5⟩ := hP4.app [m] 1 #[.float .f64 m] rfl rfl (by omega) (by simp only [List.length_append, List.length_cons, List.length_nil]; omega)
      simp only [World.size_setCell] at hap5
      obtain ⟨hLa5, hLb5, hne5⟩ := ht5 _ _ _ hLb4 (by omega) hne4
      obtain ⟨ka5, _, _⟩ := hLa5.use
      obtain ⟨kg5, fg5, lg5⟩ := hlg5.use
      have Hap5 := Lib.hid hap5
      have HPf := Lib.hid hP5
      clear hP hPA hLe hne hX ka0 hap3 hlg3 ht3 hLa3 hLb3 hne3 hap4 hlg4 ht4 hLa4 hLb4 hne4 hap5 hlg5 ht5 hLa5 hLb5 hne5 hP3 hP4 hP5
      go_wp2_with (first | (go_at_call 138; refine (H138.out _).mono ?_; rintro _ _ ⟨rfl, rfl⟩) | (go_at_call 148; refine (H148.out _).mono ?_; rintro _ _ ⟨rfl, rfl⟩) | (at_builtin; refine wpList_append_eq rfl _ _ 22 rfl rfl rfl rfl Hap3.out ?_) | (at_builtin; refine wpList_append_eq rfl _ _ 22 rfl rfl rfl rfl Hap4.out ?_) | (at_builtin; refine wpList_append_eq rfl _ _ 22 rfl rfl rfl rfl Hap5.out ?_))
      go_roundw
      case rel =>
        refine ⟨j + 1, by omega, by go_num, .slice a5 n5 c5, ?_⟩
        rw [HN.out, Hcr.out]
        simpa using HPf.out
      case measure => simp [intOf]; omega
    · obtain rfl : j = ps.length := by omega
      rw [List.take_length] at hP
      have hdl : decide (((ps.length : Nat) : Int) < ps.length) = false := by simp
      obtain ⟨av, cv, rfl⟩ := hP.own.shape
      obtain ⟨kr, fr, lr⟩ := hP.lb1.use
      obtain ⟨kg, _, _⟩ := hP.lbg.use
      have hX := Hnl.out ps.length
      rw [List.take_length] at hX
      have HP := Lib.hid hP
      have hgl := hP.lt
      clear hP
      go_wp2_with fail
      refine bodyPost_ret (v := .agg #[.int .i64 2, .int .i64 3, .slice av (numsOf 3 ps).length cv, .slice none 0 0]) (by simp [results, Tryz.results149, go_sem, *]) rfl ⟨_, rfl, ?_, ?_⟩
      · have hr : Rd (Ex S (w.heap.size + 1)) _ (fl (numsOf 3 ps)) (.slice av (numsOf 3 ps).length cv) := HP.out.own.rd (fun b hb => ⟨hS b (by omega), by omega⟩) (by omega)
        refine Rd.unex (L := w.heap.size + 1) ?_
        repeat (with_reducible first | refine Rd.set ?_ _ _ | exact hr)
      · have hB := HP.out.bl
        repeat (with_reducible first | exact hB | refine Below.setCell ?_ (by simp <;> omega) _)
end Go.Proofs.YtahnhhkbdgaidaaGreatDoor
