/-
  The reference's geometry under another type of coordinates.
-/
import Derived.Test.YtahnhhkbdgaidaaGreatDoorCq
import Derived.Deep.RegionLaw
namespace Go.Proofs.YtahnhhkbdgaidaaGreatDoor
open Go.RowKit
set_option maxRecDepth 100000
/-- An append whose run is known, as a step of a region that draws. -/
theorem step_append_eq {P : Program} {ops : Array Oper} {o : Oper} {a : Act} {w : World} {K : Act → World → Prop} {Q : Exit → Act → World → Prop} {E : Prop} (hgd : o.guard = none) (s x : Operand) (T : TypeId)
    (ho : o.op = .call { callee := .builtin .append, args := #[s, x], argTypes := #[T, T] }) (hty : o.type = T) {v u v' : Value} {w' : World} (hs : a.eval s = v) (hx : a.eval x = u)
    (hrun : (Builtin.append_ #[T, T] T #[v, u]).run P w = .ok v' w') (h : K (a.put o.dst v') w') : if Region.wanted o (yielded ops a.tmps) = true then Oper.wp P o a w K Q else E := by
  have hw : Region.wanted o (yielded ops a.tmps) = true := by simp [Region.wanted, hgd]
  rw [if_pos hw]
  unfold Oper.wp
  simp [execOp, ho, hty, resolve, invoke, builtin, hs, hx, hrun, Result.andThen]
  exact h
theorem Row.far {S : Nat → Prop} {B : Nat} {w : World} {E : TypeId} {sz : Nat} {v : Value} {es : List (List F)} (h : Row S B w E sz v es) {p : Addr} (hp : p.block < B) (hS : ¬ S p.block) (x : Value) : Row S B (w.setCell p x) E sz v es := by
  have hlt := h.lt
  obtain ⟨hl, xs, ho, hr⟩ := h
  have hg : w.grownBy (w.setCell p x) (some p.block) := ⟨rfl, rfl, rfl, by simp [World.setCell], fun k _ hk => Below.heap_setCell w p x k (fun e => hk (by rw [e]))⟩
  refine ⟨hl, xs, ho.kept hg ?_, fun i hi j hj => let ⟨y, hy, r⟩ := hr i hi j hj; ⟨y, hy, r.setCell (fun hs => hS hs.1) x⟩⟩
  rcases hv : v.ownBlock with _ | k
  · exact .inl rfl
  · refine .inr fun e => ?_
    have := hlt k hv
    have := Option.some.inj e
    omega
mutual
/-- All types are ones, no list is too long. -/
def G.fine : G → Prop
  | .mk _ d ns ks => 0 ≤ d ∧ d ≤ 3 ∧ ns.length ≤ 1000000 ∧ ks.length ≤ 1000000 ∧ G.fineL ks
def G.fineL : List G → Prop
  | [] => True
  | g :: r => g.fine ∧ G.fineL r
end
theorem G.fineL_mem : ∀ {l : List G}, G.fineL l → ∀ g ∈ l, g.fine
  | [], _, _, h => by cases h
  | a :: r, hl, g, h => by
    simp only [G.fineL] at hl
    rcases List.mem_cons.1 h with rfl | h
    · exact hl.1
    · exact G.fineL_mem hl.2 g h
theorem info25 : (Tryz.prog.info? 25).map (fun i => (i.zero, i.size, i.bytes)) = some (some (.agg #[.int .i64 0, .int .i64 0, .slice none 0 0, .slice none 0 0]), 4, 64) := by kernel_rfl
set_option maxHeartbeats 4000000 in
theorem c33 : ∀ (m : Nat) (g : G) (t' : Int) (S : Nat → Prop) (vn vk : Value) (w : World), g.size ≤ m → g.fine → 0 ≤ t' → t' ≤ 3 → (∀ b, w.heap.size ≤ b → S b) → Rd S w (fl g.nums) vn → Rd S w (.list (G.fsL g.kids)) vk →
    Calls Tryz.prog 33 #[.agg #[.int .i64 g.kind, .int .i64 g.dim, vn, vk], .int .i64 t'] w fun e w' => ∃ a1 c1 a2 c2, e = .returned (.agg #[.int .i64 g.kind, .int .i64 t', .slice a1 (g.force t').nums.length c1, .slice a2 (g.force t').kids.length c2]) ∧ Rd S w' (fl (g.force t').nums) (.slice a1 (g.force t').nums.length c1) ∧ Rd S w' (.list (G.fsL (g.force t').kids)) (.slice a2 (g.force t').kids.length c2) ∧ Below w.heap.size w w' := by
  intro m
  induction m with
  | zero => intro g _ _ _ _ _ h; have := G.size_eq g; omega
  | succ m ih =>
  intro g t' S vn vk w hm hok g0 g1 hS hn hk
  obtain ⟨k, d, ns, ks⟩ := g
  rw [G.force_eq]
  simp only [G.kind, G.dim, G.nums, G.kids, G.fine] at hok hn hk ⊢
  simp only [G.size] at hm
  obtain ⟨d0, d1, hnl, hkl, hfl⟩ := hok
  obtain ⟨an, cn, rfl⟩ := fl_shape hn
  obtain ⟨ak, ck, rfl⟩ := kids_shape hk
  have hpl : (plsOf d ns).length ≤ 1000000 := by have := Nat.div_le_self ns.length (dN d); simp [plsOf]; omega
  have HB0 := Lib.hid (((bl_a2 w (.cells #[.int .i64 k, .int .i64 d, .slice an ns.length cn, .slice ak ks.length ck] 25) (.cells #[.int .i64 0, .int .i64 0, .slice none 0 0, .slice none 0 0] 25)).alloc (by simp <;> omega) (.cells #[.int .i64 k, .int .i64 t', .slice none 0 0, .slice none 0 0] 25)))
  have L0 := (Lb.new' w #[.int .i64 k, .int .i64 d, .slice an ns.length cn, .slice ak ks.length ck] 25 (.cells #[.int .i64 0, .int .i64 0, .slice none 0 0, .slice none 0 0] 25)).alloc (.cells #[.int .i64 k, .int .i64 t', .slice none 0 0, .slice none 0 0] 25)
  have L1 := (Lb.new2 w (.cells #[.int .i64 k, .int .i64 d, .slice an ns.length cn, .slice ak ks.length ck] 25) #[.int .i64 0, .int .i64 0, .slice none 0 0, .slice none 0 0] 25).alloc (.cells #[.int .i64 k, .int .i64 t', .slice none 0 0, .slice none 0 0] 25)
  have L2 := Lb.new3 w (.cells #[.int .i64 k, .int .i64 d, .slice an ns.length cn, .slice ak ks.length ck] 25) (.cells #[.int .i64 0, .int .i64 0, .slice none 0 0, .slice none 0 0] 25) #[.int .i64 k, .int .i64 t', .slice none 0 0, .slice none 0 0] 25
  have Hn := (((((hn.ex (L := w.heap.size + 1) (by omega)).ex (L := w.heap.size + 2) (by omega)).alloc (.cells #[.int .i64 k, .int .i64 d, .slice an ns.length cn, .slice ak ks.length ck] 25)).alloc (.cells #[.int .i64 0, .int .i64 0, .slice none 0 0, .slice none 0 0] 25)).alloc (.cells #[.int .i64 k, .int .i64 t', .slice none 0 0, .slice none 0 0] 25))
  have Hk := Lib.hid (((hk.old.alloc (.cells #[.int .i64 k, .int .i64 d, .slice an ns.length cn, .slice ak ks.length ck] 25)).alloc (.cells #[.int .i64 0, .int .i64 0, .slice none 0 0, .slice none 0 0] 25)).alloc (.cells #[.int .i64 k, .int .i64 t', .slice none 0 0, .slice none 0 0] 25))
  have hS2 : ∀ n, w.heap.size + 3 ≤ n → ∀ b, n ≤ b → Ex (Ex S (w.heap.size + 1)) (w.heap.size + 2) b := fun n hn b hb => ⟨⟨hS b (by omega), by omega⟩, by omega⟩
  have H80 := Lib.hid (c80 (Ex (Ex S (w.heap.size + 1)) (w.heap.size + 2)) d ns an cn _ d0 d1 hnl (hS2 _ (by simp)) Hn)
  have H82 := Lib.hid fun (a : Option Addr) (c : Nat) (w1 : World) (hw : w.heap.size + 3 ≤ w1.heap.size) h => c82 (Ex (Ex S (w.heap.size + 1)) (w.heap.size + 2)) t' (plsOf d ns) a c w1 g0 g1 hpl (hS2 _ hw) h
  have HS := Lib.hid hS2
  have HL0 := Lib.hid L0; have HL1 := Lib.hid L1
  have Hfl := Lib.hid hfl
  obtain ⟨k2, f2, lt2⟩ := L2.use
  clear hn hk Hn hS2 hfl L0 L1
  generalize plsOf d ns = ps at *
  generalize numsOf t' ps = ns' at *
  go_enter Tryz.func33, Tryz.ntmps33
  go_wp2_with fail
  refine H80.out.mono ?_
  rintro _ w1 ⟨ap, cp, rfl, hp, hb1⟩
  have HB1 := Lib.hid (HB0.out.trans (hb1.mono (by simp <;> omega)))
  have hsz1 : w.heap.size + 3 ≤ w1.heap.size := by have := hb1.size; simp at this; omega
  have HL0a := Lib.hid (HL0.out.blw hb1); have HL1a := Lib.hid (HL1.out.blw hb1)
  have L2a := L2.blw hb1
  have Hka := Lib.hid (Hk.out.blw hb1)
  have H82a := Lib.hid (H82.out ap cp w1 hsz1 hp)
  clear hb1 hp L2 k2 f2 lt2 HL0 HL1 Hk H82 H80 HB0
  go_wp2_with fail
  refine H82a.out.mono ?_
  rintro _ w2 ⟨an', cn', rfl, hn', hb2⟩
  have HB2 := Lib.hid (HB1.out.trans (hb2.mono HB1.out.size))
  have hsz2 : w.heap.size + 3 ≤ w2.heap.size := by have := hb2.size; omega
  have HL0b := Lib.hid (HL0a.out.blw hb2); have HL1b := Lib.hid (HL1a.out.blw hb2)
  have L2b := L2a.blw hb2
  have Hkb := Lib.hid (Hka.out.blw hb2)
  have Hn' := Lib.hid hn'
  obtain ⟨k2, f2, lt2⟩ := L2b.use
  obtain ⟨k0, _, _⟩ := HL0b.out.use
  have HL2b := Lib.hid L2b
  clear hb2 hn' L2a L2b HL0a HL1a Hka H82a HB1
  go_wp2_with fail
  go_loopw [23] (fun i wr => ∃ j : Nat, ∃ v : Value, j ≤ ks.length ∧ i = .int .i64 j ∧ Row (Ex (Ex S (w.heap.size + 1)) (w.heap.size + 2)) w2.heap.size wr 25 4 v (((ks.take j).map (·.force t')).map G.fs) ∧ w2.heap.size ≤ wr.heap.size ∧
      Lb wr (w.heap.size + 2) #[.int .i64 k, .int .i64 t', .slice an' ns'.length cn', v] 25 ∧ Lb wr (w.heap.size + 1) #[.int .i64 0, .int .i64 0, .slice none 0 0, .slice none 0 0] 25 ∧ Lb wr w.heap.size #[.int .i64 k, .int .i64 d, .slice an ns.length cn, .slice ak ks.length ck] 25 ∧
      Rd (Old (Ex (Ex S (w.heap.size + 1)) (w.heap.size + 2)) w2.heap.size) wr (fl ns') (.slice an' ns'.length cn') ∧ Rd (Old S w.heap.size) wr (.list (G.fsL ks)) (.slice ak ks.length ck) ∧ Below w.heap.size w wr) (fun i _ => ks.length - (intOf i).toNat)
  case atStart =>
    refine ⟨0, .slice none 0 0, Nat.zero_le _, rfl, Row.nil _ _ _ _ _, by simp [World.setCell], (HL2b.out.set 2 _), HL1b.out.far (by simp <;> omega) _, HL0b.out.far (by simp <;> omega) _, Hn'.out.old.setCell (fun h => h.1.2 rfl) _, Hkb.out.setCell (fun h => by have := h.2; simp at this; omega) _, HB2.out.setCell (by simp; omega) _⟩
  case round =>
    obtain ⟨j, v, hj, rfl, hR, hw2, L2, L1, L0, hn, hk, hB⟩ := hrel
    clear HL0b HL1b HL2b Hkb Hn' HB2 k2 f2 lt2 k0
    have hsz : w.heap.size + 3 ≤ wr.heap.size := by have := L2.use.2.2; omega
    obtain ⟨av, cv, hv⟩ := hR.shape
    rw [List.length_map, List.length_map, List.length_take, Nat.min_eq_left hj] at hv
    subst hv
    by_cases hlt : j < ks.length
    · obtain ⟨a0, c0, e0, hmx, hat⟩ := kids_inv hk
      obtain ⟨rfl, _, rfl⟩ := Value.slice.inj e0
      obtain ⟨b, off, vn0, vk0, rfl, hSb, hbl, q0, q1, q2, q3, r2, r3⟩ := hat j hlt
      obtain ⟨an0, cn0, rfl⟩ := fl_shape r2
      obtain ⟨ak0, ck0, rfl⟩ := kids_shape r3
      have hbA : Below wr.heap.size wr ((wr.alloc (.cells #[.int .i64 (ks[j]).kind, .int .i64 (ks[j]).dim, .slice an0 (ks[j]).nums.length cn0, .slice ak0 (ks[j]).kids.length ck0] 25)).drew) := (bl_a1 wr _).drew
      have Hdn : ∀ b, b < wr.heap.size → Old S w.heap.size b → Sm (Ex (Ex S (w.heap.size + 1)) (w.heap.size + 2)) (.slice av j cv) b := fun b hb ho => ⟨⟨⟨ho.1, by have := ho.2; omega⟩, by have := ho.2; omega⟩, fun e => by have := hR.lt b e.symm; have := ho.2; omega⟩
      have Hup : ∀ b, (wr.alloc (.cells #[.int .i64 (ks[j]).kind, .int .i64 (ks[j]).dim, .slice an0 (ks[j]).nums.length cn0, .slice ak0 (ks[j]).kids.length ck0] 25)).drew.heap.size ≤ b → Sm (Ex (Ex S (w.heap.size + 1)) (w.heap.size + 2)) (.slice av j cv) b := fun b hb => by
        have hb' : wr.heap.size ≤ b := Nat.le_trans hbA.size hb
        exact ⟨⟨⟨hS b (by omega), by omega⟩, by omega⟩, fun e => by have := hR.lt b e.symm; omega⟩
      have H33 := Lib.hid (ih (ks[j]) t' (Sm (Ex (Ex S (w.heap.size + 1)) (w.heap.size + 2)) (.slice av j cv)) (.slice an0 (ks[j]).nums.length cn0) (.slice ak0 (ks[j]).kids.length ck0) ((wr.alloc (.cells #[.int .i64 (ks[j]).kind, .int .i64 (ks[j]).dim, .slice an0 (ks[j]).nums.length cn0, .slice ak0 (ks[j]).kids.length ck0] 25)).drew)
        (by have := G.size_kid ks j hlt; omega) (G.fineL_mem Hfl.out _ (List.getElem_mem hlt)) g0 g1 Hup ((r2.mono Hdn).blw hbA) ((r3.mono Hdn).blw hbA))
      have hfs : ((ks[j]).force t').fs = [.atom (.int .i64 (ks[j]).kind), .atom (.int .i64 t'), fl ((ks[j]).force t').nums, .list (G.fsL ((ks[j]).force t').kids)] := by
        rw [G.fs_eq, G.force_eq]; simp [G.kind, G.dim, G.nums, G.kids]
      have htk := take_map_succ ks (·.force t') j hlt
      generalize (ks[j]).force t' = q at *
      have Hfs := Lib.hid hfs; have Htk := Lib.hid htk; clear hfs htk
      obtain ⟨kb2, fb2, ltb2⟩ := L2.use
      have HR := Lib.hid hR; have HL2 := Lib.hid L2; have HL1 := Lib.hid L1; have HL0 := Lib.hid L0; have Hn := Lib.hid hn; have Hk := Lib.hid hk; have HB := Lib.hid hB
      have HbA := Lib.hid hbA
      clear hR L2 L1 L0 hn hk hB hat e0 r2 r3 hbA Hdn Hup
      go_wp2_with fail
      go_region_law (first
        | (refine step_append_eq rfl _ _ 23 rfl rfl rfl rfl Hap.out ?_)
        | (go_simp; go_at_call 33; refine H33.out.mono ?_; rintro _ w3 ⟨a1, c1, a2, c2, rfl, hr1, hr2, hb3⟩
           have hbb := HbA.out.trans (hb3.mono HbA.out.size)
           have hR3 := HR.out.step hbb
           obtain ⟨v2, w4, hap, ⟨a3, c3, rfl⟩, hR4, hg⟩ := app_one (P := Tryz.prog) 23 25 4 64 _ Tryz.underlying23 info25 rfl (by omega) (by omega) hR3 q.fs (by rw [Hfs.out]; rfl) #[.int .i64 (ks[j]).kind, .int .i64 t', .slice a1 q.nums.length c1, .slice a2 q.kids.length c2] rfl (by simp [Value.oneCell']) (by
             intro jj hjj
             simp only [Hfs.out] at hjj ⊢
             have hjc : jj = 0 ∨ jj = 1 ∨ jj = 2 ∨ jj = 3 := by have : jj < 4 := hjj; omega
             rcases hjc with rfl | rfl | rfl | rfl
             · exact ⟨_, rfl, .atom _⟩
             · exact ⟨_, rfl, .atom _⟩
             · exact ⟨_, rfl, hr1⟩
             · exact ⟨_, rfl, hr2⟩) (by rw [List.length_map, List.length_map, List.length_take]; omega) (by have := hbb.size; omega)
           rw [List.length_map, List.length_map, List.length_take, Nat.min_eq_left hj] at hap
           have hown : ∀ qq, (Value.slice av j cv).ownBlock = some qq → w2.heap.size ≤ qq := fun qq hq => (hR3.lt qq hq).1
           have L2c := HL2.out.blw hbb
           have L2d := L2c.grown hg (fun e => by have := hown _ e.symm; omega)
           have HL1d := Lib.hid ((HL1.out.blw hbb).grown hg (fun e => by have := hown _ e.symm; omega))
           have HL0d := Lib.hid ((HL0.out.blw hbb).grown hg (fun e => by have := hown _ e.symm; omega))
           have HL2d := Lib.hid L2d
           have Hnd := Lib.hid ((Hn.out.blw hbb).grown hg (fun qq hq e => by have := hown _ e.symm; have := hq.2; omega))
           have Hkd := Lib.hid ((Hk.out.blw hbb).grown hg (fun qq hq e => by have := hown _ e.symm; have := hq.2; omega))
           have HBd := Lib.hid ((HB.out.trans (hbb.mono (by omega))).grown hg (by have := hbb.size; omega) (fun qq hq => by have := hown qq hq; omega))
           have hsz4 : w2.heap.size ≤ w4.heap.size := by have := hbb.size; have := hg.size; omega
           obtain ⟨kc2, fc2, ltc2⟩ := L2c.use
           obtain ⟨kd2, fd2, ltd2⟩ := L2d.use
           have Hap := Lib.hid hap; have HR4 := Lib.hid hR4
           clear hr1 hr2 hb3 hR3 hap hg hown L2c L2d hR4 hbb))
      all_goals go_wp2_with fail
      all_goals go_roundw
      all_goals first
        | (simp [intOf]; omega; done)
        | (refine ⟨j + 1, .slice a3 (j + 1) c3, by omega, by go_num, ?_, by simp [World.setCell]; omega, HL2d.out.set 3 _, HL1d.out.far (by simp <;> omega) _, HL0d.out.far (by simp <;> omega) _, Hnd.out.setCell (fun h => h.1.2 rfl) _, Hkd.out.setCell (fun h => by have := h.2; simp at this; omega) _, HBd.out.setCell (by simp; omega) _⟩
           rw [Htk.out, List.map_append]
           have e := HR4.out.far (p := ⟨w.heap.size + 2, 3, none⟩) (by simp; omega) (fun h => h.2 rfl) (.slice a3 (j + 1) c3)
           rw [List.length_map, List.length_map, List.length_take, Nat.min_eq_left hj] at e
           exact e)
    · obtain rfl : j = ks.length := by omega
      have hdl : decide (((ks.length : Nat) : Int) < ks.length) = false := by simp
      obtain ⟨k1, f1, lt1⟩ := L1.use
      obtain ⟨k2, f2, lt2⟩ := L2.use
      have hrd := hR.rd (by omega) (fun k hk => ⟨⟨hS k (by omega), by omega⟩, by omega⟩) (by simp; omega)
      rw [List.take_length] at hrd
      have HR := Lib.hid hrd; have HB := Lib.hid hB; have Hn := Lib.hid (hn.mono fun b _ hb => hb.1 : Rd (Ex (Ex S (w.heap.size + 1)) (w.heap.size + 2)) wr (fl ns') (.slice an' ns'.length cn'))
      clear hR hrd hB hn hk L1 L2 L0
      go_wp2_with fail
      refine bodyPost_ret (v := .agg #[.int .i64 k, .int .i64 t', .slice an' ns'.length cn', .slice av ks.length cv]) (by simp [results, Tryz.results33, go_sem, k1]) rfl ⟨an', cn', av, cv, by rw [List.length_map], ?_, ?_, ?_⟩
      · refine Rd.unex (L := w.heap.size + 1) ?_
        have hd := Hn.out.unex
        repeat (with_reducible first | refine Rd.set ?_ _ _ | exact hd)
      · refine Rd.unex (L := w.heap.size + 1) ?_
        have hd := HR.out.unex
        rw [← G.fsL_map] at hd
        rw [List.length_map]
        repeat (with_reducible first | refine Rd.set ?_ _ _ | exact hd)
      · repeat (with_reducible first | refine Below.setCell ?_ (by simp) _ | exact HB.out)
end Go.Proofs.YtahnhhkbdgaidaaGreatDoor
