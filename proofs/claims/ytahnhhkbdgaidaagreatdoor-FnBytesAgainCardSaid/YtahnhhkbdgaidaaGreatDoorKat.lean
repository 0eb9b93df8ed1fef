/-
  The reference's geometry of plain data: parts brought together.
-/
import Derived.Test.YtahnhhkbdgaidaaGreatDoorKas
namespace Go.Proofs.YtahnhhkbdgaidaaGreatDoor
open Go.RowKit
set_option maxRecDepth 100000
/-- What the reference makes of plain data, as a call answers it. -/
def NewR (S : Nat → Prop) (w : World) (m : G) : Ending → World → Prop := fun e w' => ∃ a1 c1 a2 c2, e = .returned (.agg #[.int .i64 m.kind, .int .i64 m.dim, .slice a1 m.nums.length c1, .slice a2 m.kids.length c2]) ∧
  Rd S w' (fl m.nums) (.slice a1 m.nums.length c1) ∧ Rd S w' (.list (G.fsL m.kids)) (.slice a2 m.kids.length c2) ∧ Below w.heap.size w w'
/-- The parts that fit among the first. -/
def preG (kk : Int) (ks : List G) (j : Nat) : List G := ((ks.take j).map newG).filter (fitG kk)
theorem preG_step (kk : Int) (ks : List G) (j : Nat) (h : j < ks.length) : preG kk ks (j + 1) = if fitG kk (newG ks[j]) then preG kk ks j ++ [newG ks[j]] else preG kk ks j := by
  unfold preG
  rw [List.take_succ_eq_append_getElem h, List.map_append, List.filter_append]
  simp only [List.map_cons, List.map_nil, List.filter_cons, List.filter_nil]
  split <;> simp
theorem preG_all (kk : Int) (ks : List G) : preG kk ks ks.length = (ks.map newG).filter (fitG kk) := by unfold preG; rw [List.take_length]
theorem preG_len (kk : Int) (ks : List G) (j : Nat) : (preG kk ks j).length ≤ j := by
  unfold preG
  refine Nat.le_trans (List.length_filter_le _ _) ?_
  simp; omega
set_option maxHeartbeats 4000000 in
theorem c13_neg (S : Nat → Prop) (k d : Int) (ks : List G) (an ak : Option Addr) (ln cn ck : Nat) (w : World) (h : k < 0) (hkl : ks.length ≤ 1000000) (hfine : (G.mk 0 (d % 4) [] ((ks.map newG).filter (fitG 0))).fine)
    (hdims : ∀ g ∈ ks, 0 ≤ (newG g).dim ∧ (newG g).dim ≤ 3)
    (IH : ∀ (j : Nat) (hj : j < ks.length) (S : Nat → Prop) (vn vk : Value) (w : World), (∀ b, w.heap.size ≤ b → S b) → Rd S w (fl (ks[j]).nums) vn → Rd S w (.list (G.fsL (ks[j]).kids)) vk → CapG w ks[j] vn vk → Calls Tryz.prog 13 #[.agg #[.int .i64 (ks[j]).kind, .int .i64 (ks[j]).dim, vn, vk]] w (NewR S w (newG ks[j])))
    (hS : ∀ b, w.heap.size ≤ b → S b) (hk : Rd S w (.list (G.fsL ks)) (.slice ak ks.length ck)) (hcap : ∀ b off n c, (Value.slice ak ks.length ck) = .slice (some ⟨b, off, none⟩) n c → CapL w ks b off) :
    Calls Tryz.prog 13 #[.agg #[.int .i64 k, .int .i64 d, .slice an ln cn, .slice ak ks.length ck]] w (NewR S w (gatherG 0 (d % 4) ((ks.map newG).filter (fitG 0)))) := by
  have hd3 : bits .and .i64 d 3 = d % 4 := and_i64_3 d
  have hP0 : preG 0 ks 0 = [] := by simp [preG]
  have hPs : ∀ j (h : j < ks.length), preG 0 ks (j + 1) = if fitG 0 (newG ks[j]) then preG 0 ks j ++ [newG ks[j]] else preG 0 ks j := fun j h => preG_step 0 ks j h
  have hPl := preG_len 0 ks
  have hPm : ∀ j, ∀ g ∈ preG 0 ks j, 0 ≤ g.dim ∧ g.dim ≤ 3 := fun j g hg => by
    unfold preG at hg
    obtain ⟨x, hx, rfl⟩ := List.mem_map.1 (List.mem_filter.1 hg).1
    exact hdims x (List.mem_of_mem_take hx)
  rw [← preG_all] at hfine ⊢
  generalize preG 0 ks = Ps at *
  generalize d % 4 = D at *
  have hc1 : decide (k < 0) = true := by simpa using h
  clear h
  have HPs := Lib.hid hPs; have HPl := Lib.hid hPl; have HP0 := Lib.hid hP0; have HPm := Lib.hid hPm
  have H32 : Hid (∀ (w : World) (n : Nat), Calls Tryz.prog 32 #[.int .i64 0] (w.drewN n) fun e w' => e = .returned (.int .i64 (-1)) ∧ w' = w.drewN n) := Lib.hid fun w n => q32 0 (-1) (by decide) w n
  have HB0 := Lib.hid (((bl_a2 w (.cells #[.int .i64 k, .int .i64 d, .slice an ln cn, .slice ak ks.length ck] 25) (.cells #[.int .i64 0, .int .i64 0, .slice none 0 0, .slice none 0 0] 25)).alloc (by simp <;> omega) (.cells #[.int .i64 0, .int .i64 D, .slice none 0 0, .slice none 0 0] 25)))
  have L0 := (Lb.new' w #[.int .i64 k, .int .i64 d, .slice an ln cn, .slice ak ks.length ck] 25 (.cells #[.int .i64 0, .int .i64 0, .slice none 0 0, .slice none 0 0] 25)).alloc (.cells #[.int .i64 0, .int .i64 D, .slice none 0 0, .slice none 0 0] 25)
  have L1 := (Lb.new2 w (.cells #[.int .i64 k, .int .i64 d, .slice an ln cn, .slice ak ks.length ck] 25) #[.int .i64 0, .int .i64 0, .slice none 0 0, .slice none 0 0] 25).alloc (.cells #[.int .i64 0, .int .i64 D, .slice none 0 0, .slice none 0 0] 25)
  have L2 := Lb.new3 w (.cells #[.int .i64 k, .int .i64 d, .slice an ln cn, .slice ak ks.length ck] 25) (.cells #[.int .i64 0, .int .i64 0, .slice none 0 0, .slice none 0 0] 25) #[.int .i64 0, .int .i64 D, .slice none 0 0, .slice none 0 0] 25
  have HL0 := Lib.hid L0; have HL1 := Lib.hid L1; have HL2 := Lib.hid L2
  have Hk := Lib.hid (((hk.old.alloc (.cells #[.int .i64 k, .int .i64 d, .slice an ln cn, .slice ak ks.length ck] 25)).alloc (.cells #[.int .i64 0, .int .i64 0, .slice none 0 0, .slice none 0 0] 25)).alloc (.cells #[.int .i64 0, .int .i64 D, .slice none 0 0, .slice none 0 0] 25))
  have Hcap : Hid (∀ b off n c, (Value.slice ak ks.length ck) = .slice (some ⟨b, off, none⟩) n c → ∀ wr, Below w.heap.size w wr → CapL wr ks b off) := Lib.hid fun b off n c e wr hb => CapL.blw hb ks b off (hcap b off n c e)
  have Hfine := Lib.hid hfine
  obtain ⟨k0, _, lt0⟩ := L0.use
  clear hPs hPl hP0 hPm L0 L1 L2 hk hcap hfine hdims
  go_enter Tryz.func13, Tryz.ntmps13
  go_wp2_with (go_at_call 30; refine (c30 _ _).mono ?_; rintro e w' ⟨rfl, rfl⟩)
  go_loopw [5, 55] (fun dv i wr => ∃ j : Nat, ∃ v : Value, ∃ dd : Int, j ≤ ks.length ∧ i = .int .i64 j ∧ dv = .int .i64 dd ∧ Hid (dd = ((Ps j).map G.dim).foldl andL 3) ∧ Row (Ex (Ex S (w.heap.size + 1)) (w.heap.size + 2)) (w.heap.size + 3) wr 25 4 v ((Ps j).map G.fs) ∧ w.heap.size + 3 ≤ wr.heap.size ∧
      Lb wr (w.heap.size + 2) #[.int .i64 0, .int .i64 D, .slice none 0 0, v] 25 ∧ Lb wr (w.heap.size + 1) #[.int .i64 0, .int .i64 0, .slice none 0 0, .slice none 0 0] 25 ∧ Lb wr w.heap.size #[.int .i64 k, .int .i64 d, .slice an ln cn, .slice ak ks.length ck] 25 ∧
      Rd (Old S w.heap.size) wr (.list (G.fsL ks)) (.slice ak ks.length ck) ∧ Below w.heap.size w wr) (fun _ i _ => ks.length - (intOf i).toNat)
  case atStart =>
    refine ⟨0, .slice none 0 0, 3, Nat.zero_le _, rfl, rfl, Lib.hid (by rw [HP0.out]; rfl), by rw [HP0.out]; exact Row.nil _ _ _ _ _, by simp, HL2.out, HL1.out, HL0.out, Hk.out, HB0.out⟩
  case round =>
    obtain ⟨j, v, dd, hj, rfl, rfl, hdd, hR, hsz, L2, L1, L0, hk, hB⟩ := hrel
    clear HL0 HL1 HL2 Hk HB0 k0 lt0
    obtain ⟨av, cv, hv⟩ := hR.shape
    rw [List.length_map] at hv
    subst hv
    have hpl := HPl.out j
    by_cases hlt : j < ks.length
    · obtain ⟨a0, c0, e0, hmx, hat⟩ := kids_inv hk
      obtain ⟨rfl, _, rfl⟩ := Value.slice.inj e0
      obtain ⟨b, off, vn0, vk0, rfl, hSb, hbl, q0, q1, q2, q3, r2, r3⟩ := hat j hlt
      obtain ⟨vn2, vk2, cc2, cc3, hcg⟩ := CapL.at ks b off (Hcap.out b off _ _ rfl wr hB) j hlt
      obtain rfl : vn0 = vn2 := Option.some.inj (q2.symm.trans cc2)
      obtain rfl : vk0 = vk2 := Option.some.inj (q3.symm.trans cc3)
      obtain ⟨an0, cn0, rfl⟩ := fl_shape r2
      obtain ⟨ak0, ck0, rfl⟩ := kids_shape r3
      have hbA : Below wr.heap.size wr (wr.alloc (.cells #[.int .i64 (ks[j]).kind, .int .i64 (ks[j]).dim, .slice an0 (ks[j]).nums.length cn0, .slice ak0 (ks[j]).kids.length ck0] 25)) := bl_a1 wr _
      have Hdn : ∀ b, b < wr.heap.size → Old S w.heap.size b → Sm (Ex (Ex S (w.heap.size + 1)) (w.heap.size + 2)) (.slice av (Ps j).length cv) b := fun b hb ho => ⟨⟨⟨ho.1, by have := ho.2; omega⟩, by have := ho.2; omega⟩, fun e => by have := hR.lt b e.symm; have := ho.2; omega⟩
      have Hup : ∀ b, (wr.alloc (.cells #[.int .i64 (ks[j]).kind, .int .i64 (ks[j]).dim, .slice an0 (ks[j]).nums.length cn0, .slice ak0 (ks[j]).kids.length ck0] 25)).heap.size ≤ b → Sm (Ex (Ex S (w.heap.size + 1)) (w.heap.size + 2)) (.slice av (Ps j).length cv) b := fun b hb => by
        have hb' : wr.heap.size ≤ b := Nat.le_trans hbA.size hb
        exact ⟨⟨⟨hS b (by omega), by omega⟩, by omega⟩, fun e => by have := hR.lt b e.symm; omega⟩
      have H13 := Lib.hid (IH j hlt (Sm (Ex (Ex S (w.heap.size + 1)) (w.heap.size + 2)) (.slice av (Ps j).length cv)) (.slice an0 (ks[j]).nums.length cn0) (.slice ak0 (ks[j]).kids.length ck0) (wr.alloc (.cells #[.int .i64 (ks[j]).kind, .int .i64 (ks[j]).dim, .slice an0 (ks[j]).nums.length cn0, .slice ak0 (ks[j]).kids.length ck0] 25)) Hup ((r2.mono Hdn).blw hbA) ((r3.mono Hdn).blw hbA) (CapG.blw hbA _ _ _ hcg))
      have hstep := HPs.out j hlt
      have hfs := G.fs_eq (newG ks[j])
      generalize newG ks[j] = m at *
      have Hstep := Lib.hid hstep; have Hfs := Lib.hid hfs; have Hdd := Lib.hid hdd
      have HR := Lib.hid hR; have HL2 := Lib.hid L2; have HL1 := Lib.hid L1; have HL0 := Lib.hid L0; have Hk := Lib.hid hk; have HB := Lib.hid hB
      have HbA := Lib.hid hbA
      clear hR L2 L1 L0 hk hB hat e0 r2 r3 hbA Hdn Hup hcg cc2 cc3 hstep hfs hdd
      go_wp2_with fail
      refine H13.out.mono ?_
      rintro _ w3 ⟨a1, c1, a2, c2, rfl, hr1, hr2, hb3⟩
      have hbb := HbA.out.trans (hb3.mono HbA.out.size)
      have L2c := HL2.out.blw hbb
      obtain ⟨kc2, fc2, ltc2⟩ := L2c.use
      have hw3 : w.heap.size + 3 ≤ w3.heap.size := by have := hbb.size; omega
      have Hbb := Lib.hid hbb; have Hr1 := Lib.hid hr1; have Hr2 := Lib.hid hr2
      clear hr1 hr2 hb3 hbb L2c q0 q1 q2 q3 hbl
      have Hst : Hid (Ps (j + 1) = Ps j ++ [m]) := Lib.hid (by rw [Hstep.out, if_pos (by simp [fitG, kidOf])])
      go_wp2_with fail
      go_quiet ((go_at_call 32; exact Calls.quiet_of_same (H32.out _ _)))
      · have hbR : Below wr.heap.size wr ((w3.alloc (.cells #[.int .i64 m.kind, .int .i64 m.dim, .slice a1 m.nums.length c1, .slice a2 m.kids.length c2] 25)).drewN nq) := bl_drewN (Hbb.out.alloc (Hbb.out.size) (.cells #[.int .i64 m.kind, .int .i64 m.dim, .slice a1 m.nums.length c1, .slice a2 m.kids.length c2] 25)) nq
        have hR3 := HR.out.step hbR
        obtain ⟨v2, w4, hap, ⟨a3, c3, rfl⟩, hR4, hg⟩ := app_one (P := Tryz.prog) 23 25 4 64 _ Tryz.underlying23 info25 rfl (by omega) (by omega) hR3 m.fs (by rw [Hfs.out]; rfl) #[.int .i64 m.kind, .int .i64 m.dim, .slice a1 m.nums.length c1, .slice a2 m.kids.length c2] rfl (by simp [Value.oneCell']) (by
          intro jj hjj
          simp only [Hfs.out] at hjj ⊢
          have hjc : jj = 0 ∨ jj = 1 ∨ jj = 2 ∨ jj = 3 := by have : jj < 4 := hjj; omega
          rcases hjc with rfl | rfl | rfl | rfl
          · exact ⟨_, rfl, .atom _⟩
          · exact ⟨_, rfl, .atom _⟩
          · exact ⟨_, rfl, (Hr1.out.alloc _).drewN _⟩
          · exact ⟨_, rfl, (Hr2.out.alloc _).drewN _⟩) (by rw [List.length_map]; omega) (by have := hbR.size; omega)
        rw [List.length_map, show ((w3.alloc (.cells #[.int .i64 m.kind, .int .i64 m.dim, .slice a1 m.nums.length c1, .slice a2 m.kids.length c2] 25)).drewN nq).heap.size = w3.heap.size + 1 from World.size_alloc .., drewN_alloc] at hap
        have hown : ∀ qq, (Value.slice av (Ps j).length cv).ownBlock = some qq → w.heap.size + 3 ≤ qq := fun qq hq => (hR3.lt qq hq).1
        have hlt8 : some w3.heap.size ≠ (Value.slice av (Ps j).length cv).ownBlock := fun e => by have := HR.out.lt _ e.symm; have := Hbb.out.size; omega
        have L8 := ((Lb.new w3 #[.int .i64 m.kind, .int .i64 m.dim, .slice a1 m.nums.length c1, .slice a2 m.kids.length c2] 25).drewN nq).grown hg hlt8
        have L2d := (HL2.out.blw hbR).grown hg (fun e => by have := hown _ e.symm; omega)
        have HL1d := Lib.hid ((HL1.out.blw hbR).grown hg (fun e => by have := hown _ e.symm; omega))
        have HL0d := Lib.hid ((HL0.out.blw hbR).grown hg (fun e => by have := hown _ e.symm; omega))
        have HL2d := Lib.hid L2d
        have Hkd := Lib.hid ((Hk.out.blw hbR).grown hg (fun qq hq e => by have := hown _ e.symm; have := hq.2; omega))
        have HBd := Lib.hid ((HB.out.trans (hbR.mono (by omega))).grown hg (by have := hbR.size; omega) (fun qq hq => by have := hown qq hq; omega))
        have hsz4 : w.heap.size + 3 ≤ w4.heap.size := by have := hbR.size; have := hg.size; omega
        have h84 : w3.heap.size < w4.heap.size := L8.use.2.2
        obtain ⟨kd2, fd2, ltd2⟩ := L2d.use
        obtain ⟨kd8, _, _⟩ := L8.use
        have Hap := Lib.hid hap; have HR4 := Lib.hid hR4
        clear hbR hR3 hap hg hown L2d hR4 L8 hlt8
        go_wp2_with (at_builtin; refine wpList_append_eq rfl _ _ 23 rfl rfl rfl rfl Hap.out ?_)
        go_roundw
        case rel =>
          refine ⟨j + 1, .slice a3 ((Ps j).length + 1) c3, andL dd m.dim, by omega, by go_num, rfl, Lib.hid ?_, ?_, by simp [World.setCell]; omega, HL2d.out.set 3 _, HL1d.out.far (by simp <;> omega) _, HL0d.out.far (by simp <;> omega) _, Hkd.out.setCell (fun h => by have := h.2; simp at this; omega) _, HBd.out.setCell (by simp; omega) _⟩
          · rw [Hst.out, Hdd.out, List.map_append, List.foldl_append]; rfl
          · rw [Hst.out, List.map_append]
            have e := HR4.out.far (p := ⟨w.heap.size + 2, 3, none⟩) (by simp) (fun h => h.2 rfl) (.slice a3 ((Ps j).length + 1) c3)
            rw [List.length_map] at e
            exact e
        case measure => simp [intOf]; omega
    · obtain rfl : j = ks.length := by omega
      have hdl : decide (((ks.length : Nat) : Int) < ks.length) = false := by simp
      obtain ⟨k1, f1, lt1⟩ := L1.use
      obtain ⟨k2, f2, lt2⟩ := L2.use
      have hm3 := HPm.out ks.length
      generalize Ps ks.length = ps at *
      have hrd := hR.rd (by omega) (fun k hk => ⟨⟨hS k (by omega), by omega⟩, by omega⟩) (by simp; omega)
      have HR := Lib.hid hrd; have HB := Lib.hid hB; have Hdd := Lib.hid hdd; have HL1 := Lib.hid L1
      clear hR hrd hB hk L2 L0 hdd L1
      by_cases hz : ps.length = 0
      · have hzb : ((ps.length : Int) == 0) = true := by rw [hz]; rfl
        have Hz : Hid (ps = []) := Lib.hid (List.eq_nil_of_length_eq_zero hz)
        clear hz
        go_wp2_with fail
        refine bodyPost_ret (v := .agg #[.int .i64 0, .int .i64 D, .slice none 0 0, .slice av ps.length cv]) (by simp [results, Tryz.results13, go_sem, k1]) rfl ?_
        rw [show gatherG 0 D ps = .mk 0 D [] [] by rw [Hz.out]; rfl]
        refine ⟨none, 0, av, cv, by simp only [G.kind, G.dim, G.nums, G.kids, Hz.out]; rfl, .nil _ _, ?_, ?_⟩
        · simp only [G.kids, G.fsL]; exact .nil _ _
        · repeat (with_reducible first | exact HB.out | refine Below.setCell ?_ (by simp <;> omega) _)
      · have hzb : ((ps.length : Int) == 0) = false := by rw [beq_eq_false_iff_ne]; omega
        have Hz : Hid (gatherG 0 D ps = (G.mk 0 D [] ps).force dd) := Lib.hid (by unfold gatherG; rw [if_neg hz, Hdd.out])
        have hddb : 0 ≤ dd ∧ dd ≤ 3 := by
          rw [Hdd.out, foldL_eq _ 3 (by omega) (by omega) (fun t ht => by obtain ⟨g, hg, rfl⟩ := List.mem_map.1 ht; exact hm3 g hg)]
          exact foldl_bd _ 3 (by omega) (by omega) (fun t ht => by obtain ⟨g, hg, rfl⟩ := List.mem_map.1 ht; exact hm3 g hg)
        have H33 := Lib.hid (c33 (G.mk 0 D [] ps).size (G.mk 0 D [] ps) dd (Ex (Ex S (w.heap.size + 1)) (w.heap.size + 2)) (.slice none 0 0) (.slice av ps.length cv) wr (Nat.le_refl _) Hfine.out hddb.1 hddb.2 (fun k hk => ⟨⟨hS k (by omega), by omega⟩, by omega⟩) (.nil _ _) (by simpa [G.kids, G.fsL_map] using HR.out))
        simp only [G.kind, G.dim] at H33
        have Hk2 : Hid ((gatherG 0 D ps).kind = 0 ∧ (gatherG 0 D ps).dim = dd) := Lib.hid (by rw [Hz.out, G.force_eq]; exact ⟨rfl, rfl⟩)
        rw [← Hz.out] at H33
        generalize gatherG 0 D ps = g at *
        clear hz hddb hm3 Hz
        go_wp2_with fail
        refine H33.out.mono ?_
        rintro _ w5 ⟨a1, c1, a2, c2, rfl, hr1, hr2, hb5⟩
        obtain ⟨k15, f15, lt15⟩ := (HL1.out.blw hb5).use
        have HB5 := Lib.hid (HB.out.trans (hb5.mono (by omega)))
        have Hr1 := Lib.hid hr1; have Hr2 := Lib.hid hr2
        clear hb5 hr1 hr2 k1 f1 lt1 k2 f2 lt2
        go_wp2_with fail
        refine bodyPost_ret (v := .agg #[.int .i64 0, .int .i64 dd, .slice a1 g.nums.length c1, .slice a2 g.kids.length c2]) (by simp [results, Tryz.results13, go_sem, k15]) rfl ⟨a1, c1, a2, c2, by rw [Hk2.out.1, Hk2.out.2], ?_, ?_, ?_⟩
        · refine Rd.unex (L := w.heap.size + 1) ?_
          refine Rd.unex (L := w.heap.size + 2) ?_
          have hd := Hr1.out
          repeat (with_reducible first | exact hd | refine Rd.setL1 ?_ _ _ | refine Rd.setL2 ?_ _ _)
        · refine Rd.unex (L := w.heap.size + 1) ?_
          refine Rd.unex (L := w.heap.size + 2) ?_
          have hd := Hr2.out
          repeat (with_reducible first | exact hd | refine Rd.setL1 ?_ _ _ | refine Rd.setL2 ?_ _ _)
        · repeat (with_reducible first | exact HB5.out | refine Below.setCell ?_ (by simp <;> omega) _)
set_option maxHeartbeats 4000000 in
theorem c13_big (S : Nat → Prop) (k d : Int) (ks : List G) (an ak : Option Addr) (ln cn ck : Nat) (w : World) (h : 6 < k) (hkl : ks.length ≤ 1000000) (hfine : (G.mk 0 (d % 4) [] ((ks.map newG).filter (fitG 0))).fine)
    (hdims : ∀ g ∈ ks, 0 ≤ (newG g).dim ∧ (newG g).dim ≤ 3)
    (IH : ∀ (j : Nat) (hj : j < ks.length) (S : Nat → Prop) (vn vk : Value) (w : World), (∀ b, w.heap.size ≤ b → S b) → Rd S w (fl (ks[j]).nums) vn → Rd S w (.list (G.fsL (ks[j]).kids)) vk → CapG w ks[j] vn vk → Calls Tryz.prog 13 #[.agg #[.int .i64 (ks[j]).kind, .int .i64 (ks[j]).dim, vn, vk]] w (NewR S w (newG ks[j])))
    (hS : ∀ b, w.heap.size ≤ b → S b) (hk : Rd S w (.list (G.fsL ks)) (.slice ak ks.length ck)) (hcap : ∀ b off n c, (Value.slice ak ks.length ck) = .slice (some ⟨b, off, none⟩) n c → CapL w ks b off) :
    Calls Tryz.prog 13 #[.agg #[.int .i64 k, .int .i64 d, .slice an ln cn, .slice ak ks.length ck]] w (NewR S w (gatherG 0 (d % 4) ((ks.map newG).filter (fitG 0)))) := by
  have hd3 : bits .and .i64 d 3 = d % 4 := and_i64_3 d
  have hP0 : preG 0 ks 0 = [] := by simp [preG]
  have hPs : ∀ j (h : j < ks.length), preG 0 ks (j + 1) = if fitG 0 (newG ks[j]) then preG 0 ks j ++ [newG ks[j]] else preG 0 ks j := fun j h => preG_step 0 ks j h
  have hPl := preG_len 0 ks
  have hPm : ∀ j, ∀ g ∈ preG 0 ks j, 0 ≤ g.dim ∧ g.dim ≤ 3 := fun j g hg => by
    unfold preG at hg
    obtain ⟨x, hx, rfl⟩ := List.mem_map.1 (List.mem_filter.1 hg).1
    exact hdims x (List.mem_of_mem_take hx)
  rw [← preG_all] at hfine ⊢
  generalize preG 0 ks = Ps at *
  generalize d % 4 = D at *
  have hc1 : decide (k < 0) = false := by simp; omega
  have hc2 : decide (6 < k) = true := by simpa using h
  clear h
  have HPs := Lib.hid hPs; have HPl := Lib.hid hPl; have HP0 := Lib.hid hP0; have HPm := Lib.hid hPm
  have H32 : Hid (∀ (w : World) (n : Nat), Calls Tryz.prog 32 #[.int .i64 0] (w.drewN n) fun e w' => e = .returned (.int .i64 (-1)) ∧ w' = w.drewN n) := Lib.hid fun w n => q32 0 (-1) (by decide) w n
  have HB0 := Lib.hid (((bl_a2 w (.cells #[.int .i64 k, .int .i64 d, .slice an ln cn, .slice ak ks.length ck] 25) (.cells #[.int .i64 0, .int .i64 0, .slice none 0 0, .slice none 0 0] 25)).alloc (by simp <;> omega) (.cells #[.int .i64 0, .int .i64 D, .slice none 0 0, .slice none 0 0] 25)))
  have L0 := (Lb.new' w #[.int .i64 k, .int .i64 d, .slice an ln cn, .slice ak ks.length ck] 25 (.cells #[.int .i64 0, .int .i64 0, .slice none 0 0, .slice none 0 0] 25)).alloc (.cells #[.int .i64 0, .int .i64 D, .slice none 0 0, .slice none 0 0] 25)
  have L1 := (Lb.new2 w (.cells #[.int .i64 k, .int .i64 d, .slice an ln cn, .slice ak ks.length ck] 25) #[.int .i64 0, .int .i64 0, .slice none 0 0, .slice none 0 0] 25).alloc (.cells #[.int .i64 0, .int .i64 D, .slice none 0 0, .slice none 0 0] 25)
  have L2 := Lb.new3 w (.cells #[.int .i64 k, .int .i64 d, .slice an ln cn, .slice ak ks.length ck] 25) (.cells #[.int .i64 0, .int .i64 0, .slice none 0 0, .slice none 0 0] 25) #[.int .i64 0, .int .i64 D, .slice none 0 0, .slice none 0 0] 25
  have HL0 := Lib.hid L0; have HL1 := Lib.hid L1; have HL2 := Lib.hid L2
  have Hk := Lib.hid (((hk.old.alloc (.cells #[.int .i64 k, .int .i64 d, .slice an ln cn, .slice ak ks.length ck] 25)).alloc (.cells #[.int .i64 0, .int .i64 0, .slice none 0 0, .slice none 0 0] 25)).alloc (.cells #[.int .i64 0, .int .i64 D, .slice none 0 0, .slice none 0 0] 25))
  have Hcap : Hid (∀ b off n c, (Value.slice ak ks.length ck) = .slice (some ⟨b, off, none⟩) n c → ∀ wr, Below w.heap.size w wr → CapL wr ks b off) := Lib.hid fun b off n c e wr hb => CapL.blw hb ks b off (hcap b off n c e)
  have Hfine := Lib.hid hfine
  obtain ⟨k0, _, lt0⟩ := L0.use
  clear hPs hPl hP0 hPm L0 L1 L2 hk hcap hfine hdims
  go_enter Tryz.func13, Tryz.ntmps13
  go_wp2_with (go_at_call 30; refine (c30 _ _).mono ?_; rintro e w' ⟨rfl, rfl⟩)
  go_loopw [5, 55] (fun dv i wr => ∃ j : Nat, ∃ v : Value, ∃ dd : Int, j ≤ ks.length ∧ i = .int .i64 j ∧ dv = .int .i64 dd ∧ Hid (dd = ((Ps j).map G.dim).foldl andL 3) ∧ Row (Ex (Ex S (w.heap.size + 1)) (w.heap.size + 2)) (w.heap.size + 3) wr 25 4 v ((Ps j).map G.fs) ∧ w.heap.size + 3 ≤ wr.heap.size ∧
      Lb wr (w.heap.size + 2) #[.int .i64 0, .int .i64 D, .slice none 0 0, v] 25 ∧ Lb wr (w.heap.size + 1) #[.int .i64 0, .int .i64 0, .slice none 0 0, .slice none 0 0] 25 ∧ Lb wr w.heap.size #[.int .i64 k, .int .i64 d, .slice an ln cn, .slice ak ks.length ck] 25 ∧
      Rd (Old S w.heap.size) wr (.list (G.fsL ks)) (.slice ak ks.length ck) ∧ Below w.heap.size w wr) (fun _ i _ => ks.length - (intOf i).toNat)
  case atStart =>
    refine ⟨0, .slice none 0 0, 3, Nat.zero_le _, rfl, rfl, Lib.hid (by rw [HP0.out]; rfl), by rw [HP0.out]; exact Row.nil _ _ _ _ _, by simp, HL2.out, HL1.out, HL0.out, Hk.out, HB0.out⟩
  case round =>
    obtain ⟨j, v, dd, hj, rfl, rfl, hdd, hR, hsz, L2, L1, L0, hk, hB⟩ := hrel
    clear HL0 HL1 HL2 Hk HB0 k0 lt0
    obtain ⟨av, cv, hv⟩ := hR.shape
    rw [List.length_map] at hv
    subst hv
    have hpl := HPl.out j
    by_cases hlt : j < ks.length
    · obtain ⟨a0, c0, e0, hmx, hat⟩ := kids_inv hk
      obtain ⟨rfl, _, rfl⟩ := Value.slice.inj e0
      obtain ⟨b, off, vn0, vk0, rfl, hSb, hbl, q0, q1, q2, q3, r2, r3⟩ := hat j hlt
      obtain ⟨vn2, vk2, cc2, cc3, hcg⟩ := CapL.at ks b off (Hcap.out b off _ _ rfl wr hB) j hlt
      obtain rfl : vn0 = vn2 := Option.some.inj (q2.symm.trans cc2)
      obtain rfl : vk0 = vk2 := Option.some.inj (q3.symm.trans cc3)
      obtain ⟨an0, cn0, rfl⟩ := fl_shape r2
      obtain ⟨ak0, ck0, rfl⟩ := kids_shape r3
      have hbA : Below wr.heap.size wr (wr.alloc (.cells #[.int .i64 (ks[j]).kind, .int .i64 (ks[j]).dim, .slice an0 (ks[j]).nums.length cn0, .slice ak0 (ks[j]).kids.length ck0] 25)) := bl_a1 wr _
      have Hdn : ∀ b, b < wr.heap.size → Old S w.heap.size b → Sm (Ex (Ex S (w.heap.size + 1)) (w.heap.size + 2)) (.slice av (Ps j).length cv) b := fun b hb ho => ⟨⟨⟨ho.1, by have := ho.2; omega⟩, by have := ho.2; omega⟩, fun e => by have := hR.lt b e.symm; have := ho.2; omega⟩
      have Hup : ∀ b, (wr.alloc (.cells #[.int .i64 (ks[j]).kind, .int .i64 (ks[j]).dim, .slice an0 (ks[j]).nums.length cn0, .slice ak0 (ks[j]).kids.length ck0] 25)).heap.size ≤ b → Sm (Ex (Ex S (w.heap.size + 1)) (w.heap.size + 2)) (.slice av (Ps j).length cv) b := fun b hb => by
        have hb' : wr.heap.size ≤ b := Nat.le_trans hbA.size hb
        exact ⟨⟨⟨hS b (by omega), by omega⟩, by omega⟩, fun e => by have := hR.lt b e.symm; omega⟩
      have H13 := Lib.hid (IH j hlt (Sm (Ex (Ex S (w.heap.size + 1)) (w.heap.size + 2)) (.slice av (Ps j).length cv)) (.slice an0 (ks[j]).nums.length cn0) (.slice ak0 (ks[j]).kids.length ck0) (wr.alloc (.cells #[.int .i64 (ks[j]).kind, .int .i64 (ks[j]).dim, .slice an0 (ks[j]).nums.length cn0, .slice ak0 (ks[j]).kids.length ck0] 25)) Hup ((r2.mono Hdn).blw hbA) ((r3.mono Hdn).blw hbA) (CapG.blw hbA _ _ _ hcg))
      have hstep := HPs.out j hlt
      have hfs := G.fs_eq (newG ks[j])
      generalize newG ks[j] = m at *
      have Hstep := Lib.hid hstep; have Hfs := Lib.hid hfs; have Hdd := Lib.hid hdd
      have HR := Lib.hid hR; have HL2 := Lib.hid L2; have HL1 := Lib.hid L1; have HL0 := Lib.hid L0; have Hk := Lib.hid hk; have HB := Lib.hid hB
      have HbA := Lib.hid hbA
      clear hR L2 L1 L0 hk hB hat e0 r2 r3 hbA Hdn Hup hcg cc2 cc3 hstep hfs hdd
      go_wp2_with fail
      refine H13.out.mono ?_
      rintro _ w3 ⟨a1, c1, a2, c2, rfl, hr1, hr2, hb3⟩
      have hbb := HbA.out.trans (hb3.mono HbA.out.size)
      have L2c := HL2.out.blw hbb
      obtain ⟨kc2, fc2, ltc2⟩ := L2c.use
      have hw3 : w.heap.size + 3 ≤ w3.heap.size := by have := hbb.size; omega
      have Hbb := Lib.hid hbb; have Hr1 := Lib.hid hr1; have Hr2 := Lib.hid hr2
      clear hr1 hr2 hb3 hbb L2c q0 q1 q2 q3 hbl
      have Hst : Hid (Ps (j + 1) = Ps j ++ [m]) := Lib.hid (by rw [Hstep.out, if_pos (by simp [fitG, kidOf])])
      go_wp2_with fail
      go_quiet ((go_at_call 32; exact Calls.quiet_of_same (H32.out _ _)))
      · have hbR : Below wr.heap.size wr ((w3.alloc (.cells #[.int .i64 m.kind, .int .i64 m.dim, .slice a1 m.nums.length c1, .slice a2 m.kids.length c2] 25)).drewN nq) := bl_drewN (Hbb.out.alloc (Hbb.out.size) (.cells #[.int .i64 m.kind, .int .i64 m.dim, .slice a1 m.nums.length c1, .slice a2 m.kids.length c2] 25)) nq
        have hR3 := HR.out.step hbR
        obtain ⟨v2, w4, hap, ⟨a3, c3, rfl⟩, hR4, hg⟩ := app_one (P := Tryz.prog) 23 25 4 64 _ Tryz.underlying23 info25 rfl (by omega) (by omega) hR3 m.fs (by rw [Hfs.out]; rfl) #[.int .i64 m.kind, .int .i64 m.dim, .slice a1 m.nums.length c1, .slice a2 m.kids.length c2] rfl (by simp [Value.oneCell']) (by
          intro jj hjj
          simp only [Hfs.out] at hjj ⊢
          have hjc : jj = 0 ∨ jj = 1 ∨ jj = 2 ∨ jj = 3 := by have : jj < 4 := hjj; omega
          rcases hjc with rfl | rfl | rfl | rfl
          · exact ⟨_, rfl, .atom _⟩
          · exact ⟨_, rfl, .atom _⟩
          · exact ⟨_, rfl, (Hr1.out.alloc _).drewN _⟩
          · exact ⟨_, rfl, (Hr2.out.alloc _).drewN _⟩) (by rw [List.length_map]; omega) (by have := hbR.size; omega)
        rw [List.length_map, show ((w3.alloc (.cells #[.int .i64 m.kind, .int .i64 m.dim, .slice a1 m.nums.length c1, .slice a2 m.kids.length c2] 25)).drewN nq).heap.size = w3.heap.size + 1 from World.size_alloc .., drewN_alloc] at hap
        have hown : ∀ qq, (Value.slice av (Ps j).length cv).ownBlock = some qq → w.heap.size + 3 ≤ qq := fun qq hq => (hR3.lt qq hq).1
        have hlt8 : some w3.heap.size ≠ (Value.slice av (Ps j).length cv).ownBlock := fun e => by have := HR.out.lt _ e.symm; have := Hbb.out.size; omega
        have L8 := ((Lb.new w3 #[.int .i64 m.kind, .int .i64 m.dim, .slice a1 m.nums.length c1, .slice a2 m.kids.length c2] 25).drewN nq).grown hg hlt8
        have L2d := (HL2.out.blw hbR).grown hg (fun e => by have := hown _ e.symm; omega)
        have HL1d := Lib.hid ((HL1.out.blw hbR).grown hg (fun e => by have := hown _ e.symm; omega))
        have HL0d := Lib.hid ((HL0.out.blw hbR).grown hg (fun e => by have := hown _ e.symm; omega))
        have HL2d := Lib.hid L2d
        have Hkd := Lib.hid ((Hk.out.blw hbR).grown hg (fun qq hq e => by have := hown _ e.symm; have := hq.2; omega))
        have HBd := Lib.hid ((HB.out.trans (hbR.mono (by omega))).grown hg (by have := hbR.size; omega) (fun qq hq => by have := hown qq hq; omega))
        have hsz4 : w.heap.size + 3 ≤ w4.heap.size := by have := hbR.size; have := hg.size; omega
        have h84 : w3.heap.size < w4.heap.size := L8.use.2.2
        obtain ⟨kd2, fd2, ltd2⟩ := L2d.use
        obtain ⟨kd8, _, _⟩ := L8.use
        have Hap := Lib.hid hap; have HR4 := Lib.hid hR4
        clear hbR hR3 hap hg hown L2d hR4 L8 hlt8
        go_wp2_with (at_builtin; refine wpList_append_eq rfl _ _ 23 rfl rfl rfl rfl Hap.out ?_)
        go_roundw
        case rel =>
          refine ⟨j + 1, .slice a3 ((Ps j).length + 1) c3, andL dd m.dim, by omega, by go_num, rfl, Lib.hid ?_, ?_, by simp [World.setCell]; omega, HL2d.out.set 3 _, HL1d.out.far (by simp <;> omega) _, HL0d.out.far (by simp <;> omega) _, Hkd.out.setCell (fun h => by have := h.2; simp at this; omega) _, HBd.out.setCell (by simp; omega) _⟩
          · rw [Hst.out, Hdd.out, List.map_append, List.foldl_append]; rfl
          · rw [Hst.out, List.map_append]
            have e := HR4.out.far (p := ⟨w.heap.size + 2, 3, none⟩) (by simp) (fun h => h.2 rfl) (.slice a3 ((Ps j).length + 1) c3)
            rw [List.length_map] at e
            exact e
        case measure => simp [intOf]; omega
    · obtain rfl : j = ks.length := by omega
      have hdl : decide (((ks.length : Nat) : Int) < ks.length) = false := by simp
      obtain ⟨k1, f1, lt1⟩ := L1.use
      obtain ⟨k2, f2, lt2⟩ := L2.use
      have hm3 := HPm.out ks.length
      generalize Ps ks.length = ps at *
      have hrd := hR.rd (by omega) (fun k hk => ⟨⟨hS k (by omega), by omega⟩, by omega⟩) (by simp; omega)
      have HR := Lib.hid hrd; have HB := Lib.hid hB; have Hdd := Lib.hid hdd; have HL1 := Lib.hid L1
      clear hR hrd hB hk L2 L0 hdd L1
      by_cases hz : ps.length = 0
      · have hzb : ((ps.length : Int) == 0) = true := by rw [hz]; rfl
        have Hz : Hid (ps = []) := Lib.hid (List.eq_nil_of_length_eq_zero hz)
        clear hz
        go_wp2_with fail
        refine bodyPost_ret (v := .agg #[.int .i64 0, .int .i64 D, .slice none 0 0, .slice av ps.length cv]) (by simp [results, Tryz.results13, go_sem, k1]) rfl ?_
        rw [show gatherG 0 D ps = .mk 0 D [] [] by rw [Hz.out]; rfl]
        refine ⟨none, 0, av, cv, by simp only [G.kind, G.dim, G.nums, G.kids, Hz.out]; rfl, .nil _ _, ?_, ?_⟩
        · simp only [G.kids, G.fsL]; exact .nil _ _
        · repeat (with_reducible first | exact HB.out | refine Below.setCell ?_ (by simp <;> omega) _)
      · have hzb : ((ps.length : Int) == 0) = false := by rw [beq_eq_false_iff_ne]; omega
        have Hz : Hid (gatherG 0 D ps = (G.mk 0 D [] ps).force dd) := Lib.hid (by unfold gatherG; rw [if_neg hz, Hdd.out])
        have hddb : 0 ≤ dd ∧ dd ≤ 3 := by
          rw [Hdd.out, foldL_eq _ 3 (by omega) (by omega) (fun t ht => by obtain ⟨g, hg, rfl⟩ := List.mem_map.1 ht; exact hm3 g hg)]
          exact foldl_bd _ 3 (by omega) (by omega) (fun t ht => by obtain ⟨g, hg, rfl⟩ := List.mem_map.1 ht; exact hm3 g hg)
        have H33 := Lib.hid (c33 (G.mk 0 D [] ps).size (G.mk 0 D [] ps) dd (Ex (Ex S (w.heap.size + 1)) (w.heap.size + 2)) (.slice none 0 0) (.slice av ps.length cv) wr (Nat.le_refl _) Hfine.out hddb.1 hddb.2 (fun k hk => ⟨⟨hS k (by omega), by omega⟩, by omega⟩) (.nil _ _) (by simpa [G.kids, G.fsL_map] using HR.out))
        simp only [G.kind, G.dim] at H33
        have Hk2 : Hid ((gatherG 0 D ps).kind = 0 ∧ (gatherG 0 D ps).dim = dd) := Lib.hid (by rw [Hz.out, G.force_eq]; exact ⟨rfl, rfl⟩)
        rw [← Hz.out] at H33
        generalize gatherG 0 D ps = g at *
        clear hz hddb hm3 Hz
        go_wp2_with fail
        refine H33.out.mono ?_
        rintro _ w5 ⟨a1, c1, a2, c2, rfl, hr1, hr2, hb5⟩
        obtain ⟨k15, f15, lt15⟩ := (HL1.out.blw hb5).use
        have HB5 := Lib.hid (HB.out.trans (hb5.mono (by omega)))
        have Hr1 := Lib.hid hr1; have Hr2 := Lib.hid hr2
        clear hb5 hr1 hr2 k1 f1 lt1 k2 f2 lt2
        go_wp2_with fail
        refine bodyPost_ret (v := .agg #[.int .i64 0, .int .i64 dd, .slice a1 g.nums.length c1, .slice a2 g.kids.length c2]) (by simp [results, Tryz.results13, go_sem, k15]) rfl ⟨a1, c1, a2, c2, by rw [Hk2.out.1, Hk2.out.2], ?_, ?_, ?_⟩
        · refine Rd.unex (L := w.heap.size + 1) ?_
          refine Rd.unex (L := w.heap.size + 2) ?_
          have hd := Hr1.out
          repeat (with_reducible first | exact hd | refine Rd.setL1 ?_ _ _ | refine Rd.setL2 ?_ _ _)
        · refine Rd.unex (L := w.heap.size + 1) ?_
          refine Rd.unex (L := w.heap.size + 2) ?_
          have hd := Hr2.out
          repeat (with_reducible first | exact hd | refine Rd.setL1 ?_ _ _ | refine Rd.setL2 ?_ _ _)
        · repeat (with_reducible first | exact HB5.out | refine Below.setCell ?_ (by simp <;> omega) _)
set_option maxHeartbeats 4000000 in
theorem c13_zero (S : Nat → Prop) (_ d : Int) (ks : List G) (an ak : Option Addr) (ln cn ck : Nat) (w : World) (hkl : ks.length ≤ 1000000) (hfine : (G.mk 0 (d % 4) [] ((ks.map newG).filter (fitG 0))).fine)
    (hdims : ∀ g ∈ ks, 0 ≤ (newG g).dim ∧ (newG g).dim ≤ 3)
    (IH : ∀ (j : Nat) (hj : j < ks.length) (S : Nat → Prop) (vn vk : Value) (w : World), (∀ b, w.heap.size ≤ b → S b) → Rd S w (fl (ks[j]).nums) vn → Rd S w (.list (G.fsL (ks[j]).kids)) vk → CapG w ks[j] vn vk → Calls Tryz.prog 13 #[.agg #[.int .i64 (ks[j]).kind, .int .i64 (ks[j]).dim, vn, vk]] w (NewR S w (newG ks[j])))
    (hS : ∀ b, w.heap.size ≤ b → S b) (hk : Rd S w (.list (G.fsL ks)) (.slice ak ks.length ck)) (hcap : ∀ b off n c, (Value.slice ak ks.length ck) = .slice (some ⟨b, off, none⟩) n c → CapL w ks b off) :
    Calls Tryz.prog 13 #[.agg #[.int .i64 0, .int .i64 d, .slice an ln cn, .slice ak ks.length ck]] w (NewR S w (gatherG 0 (d % 4) ((ks.map newG).filter (fitG 0)))) := by
  have hd3 : bits .and .i64 d 3 = d % 4 := and_i64_3 d
  have hP0 : preG 0 ks 0 = [] := by simp [preG]
  have hPs : ∀ j (h : j < ks.length), preG 0 ks (j + 1) = if fitG 0 (newG ks[j]) then preG 0 ks j ++ [newG ks[j]] else preG 0 ks j := fun j h => preG_step 0 ks j h
  have hPl := preG_len 0 ks
  have hPm : ∀ j, ∀ g ∈ preG 0 ks j, 0 ≤ g.dim ∧ g.dim ≤ 3 := fun j g hg => by
    unfold preG at hg
    obtain ⟨x, hx, rfl⟩ := List.mem_map.1 (List.mem_filter.1 hg).1
    exact hdims x (List.mem_of_mem_take hx)
  rw [← preG_all] at hfine ⊢
  generalize preG 0 ks = Ps at *
  generalize d % 4 = D at *
  skip
  have HPs := Lib.hid hPs; have HPl := Lib.hid hPl; have HP0 := Lib.hid hP0; have HPm := Lib.hid hPm
  have H32 : Hid (∀ (w : World) (n : Nat), Calls Tryz.prog 32 #[.int .i64 0] (w.drewN n) fun e w' => e = .returned (.int .i64 (-1)) ∧ w' = w.drewN n) := Lib.hid fun w n => q32 0 (-1) (by decide) w n
  have HB0 := Lib.hid (((bl_a2 w (.cells #[.int .i64 0, .int .i64 d, .slice an ln cn, .slice ak ks.length ck] 25) (.cells #[.int .i64 0, .int .i64 0, .slice none 0 0, .slice none 0 0] 25)).alloc (by simp <;> omega) (.cells #[.int .i64 0, .int .i64 D, .slice none 0 0, .slice none 0 0] 25)))
  have L0 := (Lb.new' w #[.int .i64 0, .int .i64 d, .slice an ln cn, .slice ak ks.length ck] 25 (.cells #[.int .i64 0, .int .i64 0, .slice none 0 0, .slice none 0 0] 25)).alloc (.cells #[.int .i64 0, .int .i64 D, .slice none 0 0, .slice none 0 0] 25)
  have L1 := (Lb.new2 w (.cells #[.int .i64 0, .int .i64 d, .slice an ln cn, .slice ak ks.length ck] 25) #[.int .i64 0, .int .i64 0, .slice none 0 0, .slice none 0 0] 25).alloc (.cells #[.int .i64 0, .int .i64 D, .slice none 0 0, .slice none 0 0] 25)
  have L2 := Lb.new3 w (.cells #[.int .i64 0, .int .i64 d, .slice an ln cn, .slice ak ks.length ck] 25) (.cells #[.int .i64 0, .int .i64 0, .slice none 0 0, .slice none 0 0] 25) #[.int .i64 0, .int .i64 D, .slice none 0 0, .slice none 0 0] 25
  have HL0 := Lib.hid L0; have HL1 := Lib.hid L1; have HL2 := Lib.hid L2
  have Hk := Lib.hid (((hk.old.alloc (.cells #[.int .i64 0, .int .i64 d, .slice an ln cn, .slice ak ks.length ck] 25)).alloc (.cells #[.int .i64 0, .int .i64 0, .slice none 0 0, .slice none 0 0] 25)).alloc (.cells #[.int .i64 0, .int .i64 D, .slice none 0 0, .slice none 0 0] 25))
  have Hcap : Hid (∀ b off n c, (Value.slice ak ks.length ck) = .slice (some ⟨b, off, none⟩) n c → ∀ wr, Below w.heap.size w wr → CapL wr ks b off) := Lib.hid fun b off n c e wr hb => CapL.blw hb ks b off (hcap b off n c e)
  have Hfine := Lib.hid hfine
  obtain ⟨k0, _, lt0⟩ := L0.use
  clear hPs hPl hP0 hPm L0 L1 L2 hk hcap hfine hdims
  go_enter Tryz.func13, Tryz.ntmps13
  go_wp2_with (go_at_call 30; refine (c30 _ _).mono ?_; rintro e w' ⟨rfl, rfl⟩)
  go_loopw [5, 55] (fun dv i wr => ∃ j : Nat, ∃ v : Value, ∃ dd : Int, j ≤ ks.length ∧ i = .int .i64 j ∧ dv = .int .i64 dd ∧ Hid (dd = ((Ps j).map G.dim).foldl andL 3) ∧ Row (Ex (Ex S (w.heap.size + 1)) (w.heap.size + 2)) (w.heap.size + 3) wr 25 4 v ((Ps j).map G.fs) ∧ w.heap.size + 3 ≤ wr.heap.size ∧
      Lb wr (w.heap.size + 2) #[.int .i64 0, .int .i64 D, .slice none 0 0, v] 25 ∧ Lb wr (w.heap.size + 1) #[.int .i64 0, .int .i64 0, .slice none 0 0, .slice none 0 0] 25 ∧ Lb wr w.heap.size #[.int .i64 0, .int .i64 d, .slice an ln cn, .slice ak ks.length ck] 25 ∧
      Rd (Old S w.heap.size) wr (.list (G.fsL ks)) (.slice ak ks.length ck) ∧ Below w.heap.size w wr) (fun _ i _ => ks.length - (intOf i).toNat)
  case atStart =>
    refine ⟨0, .slice none 0 0, 3, Nat.zero_le _, rfl, rfl, Lib.hid (by rw [HP0.out]; rfl), by rw [HP0.out]; exact Row.nil _ _ _ _ _, by simp, HL2.out, HL1.out, HL0.out, Hk.out, HB0.out⟩
  case round =>
    obtain ⟨j, v, dd, hj, rfl, rfl, hdd, hR, hsz, L2, L1, L0, hk, hB⟩ := hrel
    clear HL0 HL1 HL2 Hk HB0 k0 lt0
    obtain ⟨av, cv, hv⟩ := hR.shape
    rw [List.length_map] at hv
    subst hv
    have hpl := HPl.out j
    by_cases hlt : j < ks.length
    · obtain ⟨a0, c0, e0, hmx, hat⟩ := kids_inv hk
      obtain ⟨rfl, _, rfl⟩ := Value.slice.inj e0
      obtain ⟨b, off, vn0, vk0, rfl, hSb, hbl, q0, q1, q2, q3, r2, r3⟩ := hat j hlt
      obtain ⟨vn2, vk2, cc2, cc3, hcg⟩ := CapL.at ks b off (Hcap.out b off _ _ rfl wr hB) j hlt
      obtain rfl : vn0 = vn2 := Option.some.inj (q2.symm.trans cc2)
      obtain rfl : vk0 = vk2 := Option.some.inj (q3.symm.trans cc3)
      obtain ⟨an0, cn0, rfl⟩ := fl_shape r2
      obtain ⟨ak0, ck0, rfl⟩ := kids_shape r3
      have hbA : Below wr.heap.size wr (wr.alloc (.cells #[.int .i64 (ks[j]).kind, .int .i64 (ks[j]).dim, .slice an0 (ks[j]).nums.length cn0, .slice ak0 (ks[j]).kids.length ck0] 25)) := bl_a1 wr _
      have Hdn : ∀ b, b < wr.heap.size → Old S w.heap.size b → Sm (Ex (Ex S (w.heap.size + 1)) (w.heap.size + 2)) (.slice av (Ps j).length cv) b := fun b hb ho => ⟨⟨⟨ho.1, by have := ho.2; omega⟩, by have := ho.2; omega⟩, fun e => by have := hR.lt b e.symm; have := ho.2; omega⟩
      have Hup : ∀ b, (wr.alloc (.cells #[.int .i64 (ks[j]).kind, .int .i64 (ks[j]).dim, .slice an0 (ks[j]).nums.length cn0, .slice ak0 (ks[j]).kids.length ck0] 25)).heap.size ≤ b → Sm (Ex (Ex S (w.heap.size + 1)) (w.heap.size + 2)) (.slice av (Ps j).length cv) b := fun b hb => by
        have hb' : wr.heap.size ≤ b := Nat.le_trans hbA.size hb
        exact ⟨⟨⟨hS b (by omega), by omega⟩, by omega⟩, fun e => by have := hR.lt b e.symm; omega⟩
      have H13 := Lib.hid (IH j hlt (Sm (Ex (Ex S (w.heap.size + 1)) (w.heap.size + 2)) (.slice av (Ps j).length cv)) (.slice an0 (ks[j]).nums.length cn0) (.slice ak0 (ks[j]).kids.length ck0) (wr.alloc (.cells #[.int .i64 (ks[j]).kind, .int .i64 (ks[j]).dim, .slice an0 (ks[j]).nums.length cn0, .slice ak0 (ks[j]).kids.length ck0] 25)) Hup ((r2.mono Hdn).blw hbA) ((r3.mono Hdn).blw hbA) (CapG.blw hbA _ _ _ hcg))
      have hstep := HPs.out j hlt
      have hfs := G.fs_eq (newG ks[j])
      generalize newG ks[j] = m at *
      have Hstep := Lib.hid hstep; have Hfs := Lib.hid hfs; have Hdd := Lib.hid hdd
      have HR := Lib.hid hR; have HL2 := Lib.hid L2; have HL1 := Lib.hid L1; have HL0 := Lib.hid L0; have Hk := Lib.hid hk; have HB := Lib.hid hB
      have HbA := Lib.hid hbA
      clear hR L2 L1 L0 hk hB hat e0 r2 r3 hbA Hdn Hup hcg cc2 cc3 hstep hfs hdd
      go_wp2_with fail
      refine H13.out.mono ?_
      rintro _ w3 ⟨a1, c1, a2, c2, rfl, hr1, hr2, hb3⟩
      have hbb := HbA.out.trans (hb3.mono HbA.out.size)
      have L2c := HL2.out.blw hbb
      obtain ⟨kc2, fc2, ltc2⟩ := L2c.use
      have hw3 : w.heap.size + 3 ≤ w3.heap.size := by have := hbb.size; omega
      have Hbb := Lib.hid hbb; have Hr1 := Lib.hid hr1; have Hr2 := Lib.hid hr2
      clear hr1 hr2 hb3 hbb L2c q0 q1 q2 q3 hbl
      have Hst : Hid (Ps (j + 1) = Ps j ++ [m]) := Lib.hid (by rw [Hstep.out, if_pos (by simp [fitG, kidOf])])
      go_wp2_with fail
      go_quiet ((go_at_call 32; exact Calls.quiet_of_same (H32.out _ _)))
      · have hbR : Below wr.heap.size wr ((w3.alloc (.cells #[.int .i64 m.kind, .int .i64 m.dim, .slice a1 m.nums.length c1, .slice a2 m.kids.length c2] 25)).drewN nq) := bl_drewN (Hbb.out.alloc (Hbb.out.size) (.cells #[.int .i64 m.kind, .int .i64 m.dim, .slice a1 m.nums.length c1, .slice a2 m.kids.length c2] 25)) nq
        have hR3 := HR.out.step hbR
        obtain ⟨v2, w4, hap, ⟨a3, c3, rfl⟩, hR4, hg⟩ := app_one (P := Tryz.prog) 23 25 4 64 _ Tryz.underlying23 info25 rfl (by omega) (by omega) hR3 m.fs (by rw [Hfs.out]; rfl) #[.int .i64 m.kind, .int .i64 m.dim, .slice a1 m.nums.length c1, .slice a2 m.kids.length c2] rfl (by simp [Value.oneCell']) (by
          intro jj hjj
          simp only [Hfs.out] at hjj ⊢
          have hjc : jj = 0 ∨ jj = 1 ∨ jj = 2 ∨ jj = 3 := by have : jj < 4 := hjj; omega
          rcases hjc with rfl | rfl | rfl | rfl
          · exact ⟨_, rfl, .atom _⟩
          · exact ⟨_, rfl, .atom _⟩
          · exact ⟨_, rfl, (Hr1.out.alloc _).drewN _⟩
          · exact ⟨_, rfl, (Hr2.out.alloc _).drewN _⟩) (by rw [List.length_map]; omega) (by have := hbR.size; omega)
        rw [List.length_map, show ((w3.alloc (.cells #[.int .i64 m.kind, .int .i64 m.dim, .slice a1 m.nums.length c1, .slice a2 m.kids.length c2] 25)).drewN nq).heap.size = w3.heap.size + 1 from World.size_alloc .., drewN_alloc] at hap
        have hown : ∀ qq, (Value.slice av (Ps j).length cv).ownBlock = some qq → w.heap.size + 3 ≤ qq := fun qq hq => (hR3.lt qq hq).1
        have hlt8 : some w3.heap.size ≠ (Value.slice av (Ps j).length cv).ownBlock := fun e => by have := HR.out.lt _ e.symm; have := Hbb.out.size; omega
        have L8 := ((Lb.new w3 #[.int .i64 m.kind, .int .i64 m.dim, .slice a1 m.nums.length c1, .slice a2 m.kids.length c2] 25).drewN nq).grown hg hlt8
        have L2d := (HL2.out.blw hbR).grown hg (fun e => by have := hown _ e.symm; omega)
        have HL1d := Lib.hid ((HL1.out.blw hbR).grown hg (fun e => by have := hown _ e.symm; omega))
        have HL0d := Lib.hid ((HL0.out.blw hbR).grown hg (fun e => by have := hown _ e.symm; omega))
        have HL2d := Lib.hid L2d
        have Hkd := Lib.hid ((Hk.out.blw hbR).grown hg (fun qq hq e => by have := hown _ e.symm; have := hq.2; omega))
        have HBd := Lib.hid ((HB.out.trans (hbR.mono (by omega))).grown hg (by have := hbR.size; omega) (fun qq hq => by have := hown qq hq; omega))
        have hsz4 : w.heap.size + 3 ≤ w4.heap.size := by have := hbR.size; have := hg.size; omega
        have h84 : w3.heap.size < w4.heap.size := L8.use.2.2
        obtain ⟨kd2, fd2, ltd2⟩ := L2d.use
        obtain ⟨kd8, _, _⟩ := L8.use
        have Hap := Lib.hid hap; have HR4 := Lib.hid hR4
        clear hbR hR3 hap hg hown L2d hR4 L8 hlt8
        go_wp2_with (at_builtin; refine wpList_append_eq rfl _ _ 23 rfl rfl rfl rfl Hap.out ?_)
        go_roundw
        case rel =>
          refine ⟨j + 1, .slice a3 ((Ps j).length + 1) c3, andL dd m.dim, by omega, by go_num, rfl, Lib.hid ?_, ?_, by simp [World.setCell]; omega, HL2d.out.set 3 _, HL1d.out.far (by simp <;> omega) _, HL0d.out.far (by simp <;> omega) _, Hkd.out.setCell (fun h => by have := h.2; simp at this; omega) _, HBd.out.setCell (by simp; omega) _⟩
          · rw [Hst.out, Hdd.out, List.map_append, List.foldl_append]; rfl
          · rw [Hst.out, List.map_append]
            have e := HR4.out.far (p := ⟨w.heap.size + 2, 3, none⟩) (by simp) (fun h => h.2 rfl) (.slice a3 ((Ps j).length + 1) c3)
            rw [List.length_map] at e
            exact e
        case measure => simp [intOf]; omega
    · obtain rfl : j = ks.length := by omega
      have hdl : decide (((ks.length : Nat) : Int) < ks.length) = false := by simp
      obtain ⟨k1, f1, lt1⟩ := L1.use
      obtain ⟨k2, f2, lt2⟩ := L2.use
      have hm3 := HPm.out ks.length
      generalize Ps ks.length = ps at *
      have hrd := hR.rd (by omega) (fun k hk => ⟨⟨hS k (by omega), by omega⟩, by omega⟩) (by simp; omega)
      have HR := Lib.hid hrd; have HB := Lib.hid hB; have Hdd := Lib.hid hdd; have HL1 := Lib.hid L1
      clear hR hrd hB hk L2 L0 hdd L1
      by_cases hz : ps.length = 0
      · have hzb : ((ps.length : Int) == 0) = true := by rw [hz]; rfl
        have Hz : Hid (ps = []) := Lib.hid (List.eq_nil_of_length_eq_zero hz)
        clear hz
        go_wp2_with fail
        refine bodyPost_ret (v := .agg #[.int .i64 0, .int .i64 D, .slice none 0 0, .slice av ps.length cv]) (by simp [results, Tryz.results13, go_sem, k1]) rfl ?_
        rw [show gatherG 0 D ps = .mk 0 D [] [] by rw [Hz.out]; rfl]
        refine ⟨none, 0, av, cv, by simp only [G.kind, G.dim, G.nums, G.kids, Hz.out]; rfl, .nil _ _, ?_, ?_⟩
        · simp only [G.kids, G.fsL]; exact .nil _ _
        · repeat (with_reducible first | exact HB.out | refine Below.setCell ?_ (by simp <;> omega) _)
      · have hzb : ((ps.length : Int) == 0) = false := by rw [beq_eq_false_iff_ne]; omega
        have Hz : Hid (gatherG 0 D ps = (G.mk 0 D [] ps).force dd) := Lib.hid (by unfold gatherG; rw [if_neg hz, Hdd.out])
        have hddb : 0 ≤ dd ∧ dd ≤ 3 := by
          rw [Hdd.out, foldL_eq _ 3 (by omega) (by omega) (fun t ht => by obtain ⟨g, hg, rfl⟩ := List.mem_map.1 ht; exact hm3 g hg)]
          exact foldl_bd _ 3 (by omega) (by omega) (fun t ht => by obtain ⟨g, hg, rfl⟩ := List.mem_map.1 ht; exact hm3 g hg)
        have H33 := Lib.hid (c33 (G.mk 0 D [] ps).size (G.mk 0 D [] ps) dd (Ex (Ex S (w.heap.size + 1)) (w.heap.size + 2)) (.slice none 0 0) (.slice av ps.length cv) wr (Nat.le_refl _) Hfine.out hddb.1 hddb.2 (fun k hk => ⟨⟨hS k (by omega), by omega⟩, by omega⟩) (.nil _ _) (by simpa [G.kids, G.fsL_map] using HR.out))
        simp only [G.kind, G.dim] at H33
        have Hk2 : Hid ((gatherG 0 D ps).kind = 0 ∧ (gatherG 0 D ps).dim = dd) := Lib.hid (by rw [Hz.out, G.force_eq]; exact ⟨rfl, rfl⟩)
        rw [← Hz.out] at H33
        generalize gatherG 0 D ps = g at *
        clear hz hddb hm3 Hz
        go_wp2_with fail
        refine H33.out.mono ?_
        rintro _ w5 ⟨a1, c1, a2, c2, rfl, hr1, hr2, hb5⟩
        obtain ⟨k15, f15, lt15⟩ := (HL1.out.blw hb5).use
        have HB5 := Lib.hid (HB.out.trans (hb5.mono (by omega)))
        have Hr1 := Lib.hid hr1; have Hr2 := Lib.hid hr2
        clear hb5 hr1 hr2 k1 f1 lt1 k2 f2 lt2
        go_wp2_with fail
        refine bodyPost_ret (v := .agg #[.int .i64 0, .int .i64 dd, .slice a1 g.nums.length c1, .slice a2 g.kids.length c2]) (by simp [results, Tryz.results13, go_sem, k15]) rfl ⟨a1, c1, a2, c2, by rw [Hk2.out.1, Hk2.out.2], ?_, ?_, ?_⟩
        · refine Rd.unex (L := w.heap.size + 1) ?_
          refine Rd.unex (L := w.heap.size + 2) ?_
          have hd := Hr1.out
          repeat (with_reducible first | exact hd | refine Rd.setL1 ?_ _ _ | refine Rd.setL2 ?_ _ _)
        · refine Rd.unex (L := w.heap.size + 1) ?_
          refine Rd.unex (L := w.heap.size + 2) ?_
          have hd := Hr2.out
          repeat (with_reducible first | exact hd | refine Rd.setL1 ?_ _ _ | refine Rd.setL2 ?_ _ _)
        · repeat (with_reducible first | exact HB5.out | refine Below.setCell ?_ (by simp <;> omega) _)
set_option maxHeartbeats 4000000 in
theorem c13_part (S : Nat → Prop) (k d : Int) (ks : List G) (an ak : Option Addr) (ln cn ck : Nat) (w : World) (h0 : 0 ≤ k) (h6 : k ≤ 6) (h1 : k ≠ 1) (h2 : k ≠ 2) (q : Int) (hq : kidOf k = q) (hq0 : 0 ≤ q) (hkl : ks.length ≤ 1000000) (hfine : (G.mk k (d % 4) [] ((ks.map newG).filter (fitG k))).fine)
    (hdims : ∀ g ∈ ks, 0 ≤ (newG g).dim ∧ (newG g).dim ≤ 3)
    (IH : ∀ (j : Nat) (hj : j < ks.length) (S : Nat → Prop) (vn vk : Value) (w : World), (∀ b, w.heap.size ≤ b → S b) → Rd S w (fl (ks[j]).nums) vn → Rd S w (.list (G.fsL (ks[j]).kids)) vk → CapG w ks[j] vn vk → Calls Tryz.prog 13 #[.agg #[.int .i64 (ks[j]).kind, .int .i64 (ks[j]).dim, vn, vk]] w (NewR S w (newG ks[j])))
    (hS : ∀ b, w.heap.size ≤ b → S b) (hk : Rd S w (.list (G.fsL ks)) (.slice ak ks.length ck)) (hcap : ∀ b off n c, (Value.slice ak ks.length ck) = .slice (some ⟨b, off, none⟩) n c → CapL w ks b off) :
    Calls Tryz.prog 13 #[.agg #[.int .i64 k, .int .i64 d, .slice an ln cn, .slice ak ks.length ck]] w (NewR S w (gatherG k (d % 4) ((ks.map newG).filter (fitG k)))) := by
  have hd3 : bits .and .i64 d 3 = d % 4 := and_i64_3 d
  have hP0 : preG k ks 0 = [] := by simp [preG]
  have hPs : ∀ j (h : j < ks.length), preG k ks (j + 1) = if fitG k (newG ks[j]) then preG k ks j ++ [newG ks[j]] else preG k ks j := fun j h => preG_step k ks j h
  have hPl := preG_len k ks
  have hPm : ∀ j, ∀ g ∈ preG k ks j, 0 ≤ g.dim ∧ g.dim ≤ 3 := fun j g hg => by
    unfold preG at hg
    obtain ⟨x, hx, rfl⟩ := List.mem_map.1 (List.mem_filter.1 hg).1
    exact hdims x (List.mem_of_mem_take hx)
  rw [← preG_all] at hfine ⊢
  generalize preG k ks = Ps at *
  generalize d % 4 = D at *
  have hc1 : decide (k < 0) = false := by simp; omega
  have hc2 : decide (6 < k) = false := by simp; omega
  have hle : (k == 1 || k == 2) = false := by simp [h1, h2]
  have hqd : decide (q < 0) = false := by simp; omega
  have HPs := Lib.hid hPs; have HPl := Lib.hid hPl; have HP0 := Lib.hid hP0; have HPm := Lib.hid hPm
  have H32 : Hid (∀ (w : World) (n : Nat), Calls Tryz.prog 32 #[.int .i64 k] (w.drewN n) fun e w' => e = .returned (.int .i64 q) ∧ w' = w.drewN n) := Lib.hid fun w n => q32 k q hq w n
  have HB0 := Lib.hid (((bl_a2 w (.cells #[.int .i64 k, .int .i64 d, .slice an ln cn, .slice ak ks.length ck] 25) (.cells #[.int .i64 0, .int .i64 0, .slice none 0 0, .slice none 0 0] 25)).alloc (by simp <;> omega) (.cells #[.int .i64 k, .int .i64 D, .slice none 0 0, .slice none 0 0] 25)))
  have L0 := (Lb.new' w #[.int .i64 k, .int .i64 d, .slice an ln cn, .slice ak ks.length ck] 25 (.cells #[.int .i64 0, .int .i64 0, .slice none 0 0, .slice none 0 0] 25)).alloc (.cells #[.int .i64 k, .int .i64 D, .slice none 0 0, .slice none 0 0] 25)
  have L1 := (Lb.new2 w (.cells #[.int .i64 k, .int .i64 d, .slice an ln cn, .slice ak ks.length ck] 25) #[.int .i64 0, .int .i64 0, .slice none 0 0, .slice none 0 0] 25).alloc (.cells #[.int .i64 k, .int .i64 D, .slice none 0 0, .slice none 0 0] 25)
  have L2 := Lb.new3 w (.cells #[.int .i64 k, .int .i64 d, .slice an ln cn, .slice ak ks.length ck] 25) (.cells #[.int .i64 0, .int .i64 0, .slice none 0 0, .slice none 0 0] 25) #[.int .i64 k, .int .i64 D, .slice none 0 0, .slice none 0 0] 25
  have HL0 := Lib.hid L0; have HL1 := Lib.hid L1; have HL2 := Lib.hid L2
  have Hk := Lib.hid (((hk.old.alloc (.cells #[.int .i64 k, .int .i64 d, .slice an ln cn, .slice ak ks.length ck] 25)).alloc (.cells #[.int .i64 0, .int .i64 0, .slice none 0 0, .slice none 0 0] 25)).alloc (.cells #[.int .i64 k, .int .i64 D, .slice none 0 0, .slice none 0 0] 25))
  have Hcap : Hid (∀ b off n c, (Value.slice ak ks.length ck) = .slice (some ⟨b, off, none⟩) n c → ∀ wr, Below w.heap.size w wr → CapL wr ks b off) := Lib.hid fun b off n c e wr hb => CapL.blw hb ks b off (hcap b off n c e)
  have Hfine := Lib.hid hfine
  obtain ⟨k0, _, lt0⟩ := L0.use
  clear hPs hPl hP0 hPm L0 L1 L2 hk hcap hfine hdims
  go_enter Tryz.func13, Tryz.ntmps13
  go_wp2_with (go_at_call 30; refine (c30 _ _).mono ?_; rintro e w' ⟨rfl, rfl⟩; rw [hle])
  go_loopw [5, 55] (fun dv i wr => ∃ j : Nat, ∃ v : Value, ∃ dd : Int, j ≤ ks.length ∧ i = .int .i64 j ∧ dv = .int .i64 dd ∧ Hid (dd = ((Ps j).map G.dim).foldl andL 3) ∧ Row (Ex (Ex S (w.heap.size + 1)) (w.heap.size + 2)) (w.heap.size + 3) wr 25 4 v ((Ps j).map G.fs) ∧ w.heap.size + 3 ≤ wr.heap.size ∧
      Lb wr (w.heap.size + 2) #[.int .i64 k, .int .i64 D, .slice none 0 0, v] 25 ∧ Lb wr (w.heap.size + 1) #[.int .i64 0, .int .i64 0, .slice none 0 0, .slice none 0 0] 25 ∧ Lb wr w.heap.size #[.int .i64 k, .int .i64 d, .slice an ln cn, .slice ak ks.length ck] 25 ∧
      Rd (Old S w.heap.size) wr (.list (G.fsL ks)) (.slice ak ks.length ck) ∧ Below w.heap.size w wr) (fun _ i _ => ks.length - (intOf i).toNat)
  case atStart =>
    refine ⟨0, .slice none 0 0, 3, Nat.zero_le _, rfl, rfl, Lib.hid (by rw [HP0.out]; rfl), by rw [HP0.out]; exact Row.nil _ _ _ _ _, by simp, HL2.out, HL1.out, HL0.out, Hk.out, HB0.out⟩
  case round =>
    obtain ⟨j, v, dd, hj, rfl, rfl, hdd, hR, hsz, L2, L1, L0, hk, hB⟩ := hrel
    clear HL0 HL1 HL2 Hk HB0 k0 lt0
    obtain ⟨av, cv, hv⟩ := hR.shape
    rw [List.length_map] at hv
    subst hv
    have hpl := HPl.out j
    by_cases hlt : j < ks.length
    · obtain ⟨a0, c0, e0, hmx, hat⟩ := kids_inv hk
      obtain ⟨rfl, _, rfl⟩ := Value.slice.inj e0
      obtain ⟨b, off, vn0, vk0, rfl, hSb, hbl, q0, q1, q2, q3, r2, r3⟩ := hat j hlt
      obtain ⟨vn2, vk2, cc2, cc3, hcg⟩ := CapL.at ks b off (Hcap.out b off _ _ rfl wr hB) j hlt
      obtain rfl : vn0 = vn2 := Option.some.inj (q2.symm.trans cc2)
      obtain rfl : vk0 = vk2 := Option.some.inj (q3.symm.trans cc3)
      obtain ⟨an0, cn0, rfl⟩ := fl_shape r2
      obtain ⟨ak0, ck0, rfl⟩ := kids_shape r3
      have hbA : Below wr.heap.size wr (wr.alloc (.cells #[.int .i64 (ks[j]).kind, .int .i64 (ks[j]).dim, .slice an0 (ks[j]).nums.length cn0, .slice ak0 (ks[j]).kids.length ck0] 25)) := bl_a1 wr _
      have Hdn : ∀ b, b < wr.heap.size → Old S w.heap.size b → Sm (Ex (Ex S (w.heap.size + 1)) (w.heap.size + 2)) (.slice av (Ps j).length cv) b := fun b hb ho => ⟨⟨⟨ho.1, by have := ho.2; omega⟩, by have := ho.2; omega⟩, fun e => by have := hR.lt b e.symm; have := ho.2; omega⟩
      have Hup : ∀ b, (wr.alloc (.cells #[.int .i64 (ks[j]).kind, .int .i64 (ks[j]).dim, .slice an0 (ks[j]).nums.length cn0, .slice ak0 (ks[j]).kids.length ck0] 25)).heap.size ≤ b → Sm (Ex (Ex S (w.heap.size + 1)) (w.heap.size + 2)) (.slice av (Ps j).length cv) b := fun b hb => by
        have hb' : wr.heap.size ≤ b := Nat.le_trans hbA.size hb
        exact ⟨⟨⟨hS b (by omega), by omega⟩, by omega⟩, fun e => by have := hR.lt b e.symm; omega⟩
      have H13 := Lib.hid (IH j hlt (Sm (Ex (Ex S (w.heap.size + 1)) (w.heap.size + 2)) (.slice av (Ps j).length cv)) (.slice an0 (ks[j]).nums.length cn0) (.slice ak0 (ks[j]).kids.length ck0) (wr.alloc (.cells #[.int .i64 (ks[j]).kind, .int .i64 (ks[j]).dim, .slice an0 (ks[j]).nums.length cn0, .slice ak0 (ks[j]).kids.length ck0] 25)) Hup ((r2.mono Hdn).blw hbA) ((r3.mono Hdn).blw hbA) (CapG.blw hbA _ _ _ hcg))
      have hstep := HPs.out j hlt
      have hfs := G.fs_eq (newG ks[j])
      generalize newG ks[j] = m at *
      have Hstep := Lib.hid hstep; have Hfs := Lib.hid hfs; have Hdd := Lib.hid hdd
      have HR := Lib.hid hR; have HL2 := Lib.hid L2; have HL1 := Lib.hid L1; have HL0 := Lib.hid L0; have Hk := Lib.hid hk; have HB := Lib.hid hB
      have HbA := Lib.hid hbA
      clear hR L2 L1 L0 hk hB hat e0 r2 r3 hbA Hdn Hup hcg cc2 cc3 hstep hfs hdd
      go_wp2_with fail
      refine H13.out.mono ?_
      rintro _ w3 ⟨a1, c1, a2, c2, rfl, hr1, hr2, hb3⟩
      have hbb := HbA.out.trans (hb3.mono HbA.out.size)
      have L2c := HL2.out.blw hbb
      obtain ⟨kc2, fc2, ltc2⟩ := L2c.use
      have hw3 : w.heap.size + 3 ≤ w3.heap.size := by have := hbb.size; omega
      have Hbb := Lib.hid hbb; have Hr1 := Lib.hid hr1; have Hr2 := Lib.hid hr2
      clear hr1 hr2 hb3 hbb L2c q0 q1 q2 q3 hbl
      by_cases hf : q = m.kind
      · have hfb : (q == m.kind) = true := by simpa using hf
        have Hst : Hid (Ps (j + 1) = Ps j ++ [m]) := Lib.hid (by rw [Hstep.out, if_pos (by simp [fitG, hq, hf])])
        clear hf
        go_wp2_with fail
        go_quiet ((go_at_call 32; exact Calls.quiet_of_same (H32.out _ _)))
        have hbR : Below wr.heap.size wr ((w3.alloc (.cells #[.int .i64 m.kind, .int .i64 m.dim, .slice a1 m.nums.length c1, .slice a2 m.kids.length c2] 25)).drewN nq) := bl_drewN (Hbb.out.alloc (Hbb.out.size) (.cells #[.int .i64 m.kind, .int .i64 m.dim, .slice a1 m.nums.length c1, .slice a2 m.kids.length c2] 25)) nq
        have hR3 := HR.out.step hbR
        obtain ⟨v2, w4, hap, ⟨a3, c3, rfl⟩, hR4, hg⟩ := app_one (P := Tryz.prog) 23 25 4 64 _ Tryz.underlying23 info25 rfl (by omega) (by omega) hR3 m.fs (by rw [Hfs.out]; rfl) #[.int .i64 m.kind, .int .i64 m.dim, .slice a1 m.nums.length c1, .slice a2 m.kids.length c2] rfl (by simp [Value.oneCell']) (by
          intro jj hjj
          simp only [Hfs.out] at hjj ⊢
          have hjc : jj = 0 ∨ jj = 1 ∨ jj = 2 ∨ jj = 3 := by have : jj < 4 := hjj; omega
          rcases hjc with rfl | rfl | rfl | rfl
          · exact ⟨_, rfl, .atom _⟩
          · exact ⟨_, rfl, .atom _⟩
          · exact ⟨_, rfl, (Hr1.out.alloc _).drewN _⟩
          · exact ⟨_, rfl, (Hr2.out.alloc _).drewN _⟩) (by rw [List.length_map]; omega) (by have := hbR.size; omega)
        rw [List.length_map, show ((w3.alloc (.cells #[.int .i64 m.kind, .int .i64 m.dim, .slice a1 m.nums.length c1, .slice a2 m.kids.length c2] 25)).drewN nq).heap.size = w3.heap.size + 1 from World.size_alloc .., drewN_alloc] at hap
        have hown : ∀ qq, (Value.slice av (Ps j).length cv).ownBlock = some qq → w.heap.size + 3 ≤ qq := fun qq hq => (hR3.lt qq hq).1
        have hlt8 : some w3.heap.size ≠ (Value.slice av (Ps j).length cv).ownBlock := fun e => by have := HR.out.lt _ e.symm; have := Hbb.out.size; omega
        have L8 := ((Lb.new w3 #[.int .i64 m.kind, .int .i64 m.dim, .slice a1 m.nums.length c1, .slice a2 m.kids.length c2] 25).drewN nq).grown hg hlt8
        have L2d := (HL2.out.blw hbR).grown hg (fun e => by have := hown _ e.symm; omega)
        have HL1d := Lib.hid ((HL1.out.blw hbR).grown hg (fun e => by have := hown _ e.symm; omega))
        have HL0d := Lib.hid ((HL0.out.blw hbR).grown hg (fun e => by have := hown _ e.symm; omega))
        have HL2d := Lib.hid L2d
        have Hkd := Lib.hid ((Hk.out.blw hbR).grown hg (fun qq hq e => by have := hown _ e.symm; have := hq.2; omega))
        have HBd := Lib.hid ((HB.out.trans (hbR.mono (by omega))).grown hg (by have := hbR.size; omega) (fun qq hq => by have := hown qq hq; omega))
        have hsz4 : w.heap.size + 3 ≤ w4.heap.size := by have := hbR.size; have := hg.size; omega
        have h84 : w3.heap.size < w4.heap.size := L8.use.2.2
        obtain ⟨kd2, fd2, ltd2⟩ := L2d.use
        obtain ⟨kd8, _, _⟩ := L8.use
        have Hap := Lib.hid hap; have HR4 := Lib.hid hR4
        clear hbR hR3 hap hg hown L2d hR4 L8 hlt8
        go_wp2_with (at_builtin; refine wpList_append_eq rfl _ _ 23 rfl rfl rfl rfl Hap.out ?_)
        go_roundw
        case rel =>
          refine ⟨j + 1, .slice a3 ((Ps j).length + 1) c3, andL dd m.dim, by omega, by go_num, rfl, Lib.hid ?_, ?_, by simp [World.setCell]; omega, HL2d.out.set 3 _, HL1d.out.far (by simp <;> omega) _, HL0d.out.far (by simp <;> omega) _, Hkd.out.setCell (fun h => by have := h.2; simp at this; omega) _, HBd.out.setCell (by simp; omega) _⟩
          · rw [Hst.out, Hdd.out, List.map_append, List.foldl_append]; rfl
          · rw [Hst.out, List.map_append]
            have e := HR4.out.far (p := ⟨w.heap.size + 2, 3, none⟩) (by simp) (fun h => h.2 rfl) (.slice a3 ((Ps j).length + 1) c3)
            rw [List.length_map] at e
            exact e
        case measure => simp [intOf]; omega
      · have hfb : (q == m.kind) = false := by simpa using hf
        have Hst : Hid (Ps (j + 1) = Ps j) := Lib.hid (by rw [Hstep.out, if_neg (by simp [fitG, hq, hf]; omega)])
        clear hf
        go_wp2_with fail
        go_quiet ((go_at_call 32; exact Calls.quiet_of_same (H32.out _ _)))
        have hbR : Below wr.heap.size wr ((w3.alloc (.cells #[.int .i64 m.kind, .int .i64 m.dim, .slice a1 m.nums.length c1, .slice a2 m.kids.length c2] 25)).drewN nq) := bl_drewN (Hbb.out.alloc (Hbb.out.size) (.cells #[.int .i64 m.kind, .int .i64 m.dim, .slice a1 m.nums.length c1, .slice a2 m.kids.length c2] 25)) nq
        have HbR := Lib.hid hbR; clear hbR
        go_wp2_with fail
        go_roundw
        case rel =>
          refine ⟨j + 1, .slice av (Ps j).length cv, dd, by omega, by go_num, rfl, Lib.hid ?_, ?_, by have := HbR.out.size; omega, HL2.out.blw HbR.out, HL1.out.blw HbR.out, HL0.out.blw HbR.out, Hk.out.blw HbR.out, HB.out.trans (HbR.out.mono (by omega))⟩
          · rw [Hst.out]; exact Hdd.out
          · rw [Hst.out]; exact HR.out.step HbR.out
        case measure => simp [intOf]; omega
    · obtain rfl : j = ks.length := by omega
      have hdl : decide (((ks.length : Nat) : Int) < ks.length) = false := by simp
      obtain ⟨k1, f1, lt1⟩ := L1.use
      obtain ⟨k2, f2, lt2⟩ := L2.use
      have hm3 := HPm.out ks.length
      generalize Ps ks.length = ps at *
      have hrd := hR.rd (by omega) (fun k hk => ⟨⟨hS k (by omega), by omega⟩, by omega⟩) (by simp; omega)
      have HR := Lib.hid hrd; have HB := Lib.hid hB; have Hdd := Lib.hid hdd; have HL1 := Lib.hid L1
      clear hR hrd hB hk L2 L0 hdd L1
      by_cases hz : ps.length = 0
      · have hzb : ((ps.length : Int) == 0) = true := by rw [hz]; rfl
        have Hz : Hid (ps = []) := Lib.hid (List.eq_nil_of_length_eq_zero hz)
        clear hz
        go_wp2_with fail
        refine bodyPost_ret (v := .agg #[.int .i64 k, .int .i64 D, .slice none 0 0, .slice av ps.length cv]) (by simp [results, Tryz.results13, go_sem, k1]) rfl ?_
        rw [show gatherG k D ps = .mk k D [] [] by rw [Hz.out]; rfl]
        refine ⟨none, 0, av, cv, by simp only [G.kind, G.dim, G.nums, G.kids, Hz.out]; rfl, .nil _ _, ?_, ?_⟩
        · simp only [G.kids, G.fsL]; exact .nil _ _
        · repeat (with_reducible first | exact HB.out | refine Below.setCell ?_ (by simp <;> omega) _)
      · have hzb : ((ps.length : Int) == 0) = false := by rw [beq_eq_false_iff_ne]; omega
        have Hz : Hid (gatherG k D ps = (G.mk k D [] ps).force dd) := Lib.hid (by unfold gatherG; rw [if_neg hz, Hdd.out])
        have hddb : 0 ≤ dd ∧ dd ≤ 3 := by
          rw [Hdd.out, foldL_eq _ 3 (by omega) (by omega) (fun t ht => by obtain ⟨g, hg, rfl⟩ := List.mem_map.1 ht; exact hm3 g hg)]
          exact foldl_bd _ 3 (by omega) (by omega) (fun t ht => by obtain ⟨g, hg, rfl⟩ := List.mem_map.1 ht; exact hm3 g hg)
        have H33 := Lib.hid (c33 (G.mk k D [] ps).size (G.mk k D [] ps) dd (Ex (Ex S (w.heap.size + 1)) (w.heap.size + 2)) (.slice none 0 0) (.slice av ps.length cv) wr (Nat.le_refl _) Hfine.out hddb.1 hddb.2 (fun k hk => ⟨⟨hS k (by omega), by omega⟩, by omega⟩) (.nil _ _) (by simpa [G.kids, G.fsL_map] using HR.out))
        simp only [G.kind, G.dim] at H33
        have Hk2 : Hid ((gatherG k D ps).kind = k ∧ (gatherG k D ps).dim = dd) := Lib.hid (by rw [Hz.out, G.force_eq]; exact ⟨rfl, rfl⟩)
        rw [← Hz.out] at H33
        generalize gatherG k D ps = g at *
        clear hz hddb hm3 Hz
        go_wp2_with fail
        refine H33.out.mono ?_
        rintro _ w5 ⟨a1, c1, a2, c2, rfl, hr1, hr2, hb5⟩
        obtain ⟨k15, f15, lt15⟩ := (HL1.out.blw hb5).use
        have HB5 := Lib.hid (HB.out.trans (hb5.mono (by omega)))
        have Hr1 := Lib.hid hr1; have Hr2 := Lib.hid hr2
        clear hb5 hr1 hr2 k1 f1 lt1 k2 f2 lt2
        go_wp2_with fail
        refine bodyPost_ret (v := .agg #[.int .i64 k, .int .i64 dd, .slice a1 g.nums.length c1, .slice a2 g.kids.length c2]) (by simp [results, Tryz.results13, go_sem, k15]) rfl ⟨a1, c1, a2, c2, by rw [Hk2.out.1, Hk2.out.2], ?_, ?_, ?_⟩
        · refine Rd.unex (L := w.heap.size + 1) ?_
          refine Rd.unex (L := w.heap.size + 2) ?_
          have hd := Hr1.out
          repeat (with_reducible first | exact hd | refine Rd.setL1 ?_ _ _ | refine Rd.setL2 ?_ _ _)
        · refine Rd.unex (L := w.heap.size + 1) ?_
          refine Rd.unex (L := w.heap.size + 2) ?_
          have hd := Hr2.out
          repeat (with_reducible first | exact hd | refine Rd.setL1 ?_ _ _ | refine Rd.setL2 ?_ _ _)
        · repeat (with_reducible first | exact HB5.out | refine Below.setCell ?_ (by simp <;> omega) _)
end Go.Proofs.YtahnhhkbdgaidaaGreatDoor
