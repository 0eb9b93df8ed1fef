/-
  The reference's geometry under another type of coordinates.
  Plain data of a geometry: a datum's parts under way.
-/
import Derived.Deep.RegionLaw
import Derived.Test.YtahnhhkbdgaidaaGreatDoorKao
import Derived.Test.YtahnhhkbdgaidaaGreatDoorKaq
import Derived.Test.YtahnhhkbdgaidaaGreatDoorKam
namespace Go.Proofs.YtahnhhkbdgaidaaGreatDoor
open Go.RowKit
set_option maxRecDepth 100000
/-- An append whose run is known, as a step of a region that draws. -/
theorem step_append_eq {P : Program} {ops : Array Oper} {o : Oper} {a : Act} {w : World} {K : Act → World → Prop} {Q : Exit → Act → World → Prop} {E : Prop} (hgd : o.guard = none) (s x : Operand) (T : TypeId)
    (ho : o.op = .call { callee := .builtin .append, args := #[s, x], argTypes := #[T, T] }) (hty : o.type = T) {v u v' : Value} {w' : World} (hs : a.eval s = v) (hx : a.eval x = u)
    (hrun : (Builtin.append_ #[T, T] T #[v, u]).run P w = .ok v' w') (h : K (a.put o.dst v') w') : if Region.wanted o (yielded ops a.tmps) = true then Oper.wp P o a w K Q else E := by
  have hw : Region.wanted o (yielded ops a.tmps) = true := by simp [Region.wanted, hgd]
  rw [if_pos hw]
  unfold Oper.wp
  simp [execOp, ho, hty, resolve, invoke, builtin, hs, hx, hrun, Result.andThen]
  exact h
theorem Row.far {S : Nat → Prop} {B : Nat} {w : World} {E : TypeId} {sz : Nat} {v : Value} {es : List (List F)} (h : Row S B w E sz v es) {p : Addr} (hp : p.block < B) (hS : ¬ S p.block) (x : Value) : Row S B (w.setCell p x) E sz v es := by
  have hlt := h.lt
  obtain ⟨hl, xs, ho, hr⟩ := h
  have hg : w.grownBy (w.setCell p x) (some p.block) := ⟨rfl, rfl, rfl, by simp [World.setCell], fun k _ hk => Below.heap_setCell w p x k (fun e => hk (by rw [e]))⟩
  refine ⟨hl, xs, ho.kept hg ?_, fun i hi j hj => let ⟨y, hy, r⟩ := hr i hi j hj; ⟨y, hy, r.setCell (fun hs => hS hs.1) x⟩⟩
  rcases hv : v.ownBlock with _ | k
  · exact .inl rfl
  · refine .inr fun e => ?_
    have := hlt k hv
    have := Option.some.inj e
    omega
mutual
/-- All types are ones, no list is too long. -/
def G.fine : G → Prop
  | .mk _ d ns ks => 0 ≤ d ∧ d ≤ 3 ∧ ns.length ≤ 1000000 ∧ ks.length ≤ 1000000 ∧ G.fineL ks
def G.fineL : List G → Prop
  | [] => True
  | g :: r => g.fine ∧ G.fineL r
end
theorem G.fineL_mem : ∀ {l : List G}, G.fineL l → ∀ g ∈ l, g.fine
  | [], _, _, h => by cases h
  | a :: r, hl, g, h => by
    simp only [G.fineL] at hl
    rcases List.mem_cons.1 h with rfl | h
    · exact hl.1
    · exact G.fineL_mem hl.2 g h
theorem info25 : (Tryz.prog.info? 25).map (fun i => (i.zero, i.size, i.bytes)) = some (some (.agg #[.int .i64 0, .int .i64 0, .slice none 0 0, .slice none 0 0]), 4, 64) := by kernel_rfl
set_option maxHeartbeats 4000000 in
theorem c33 : ∀ (m : Nat) (g : G) (t' : Int) (S : Nat → Prop) (vn vk : Value) (w : World), g.size ≤ m → g.fine → 0 ≤ t' → t' ≤ 3 → (∀ b, w.heap.size ≤ b → S b) → Rd S w (fl g.nums) vn → Rd S w (.list (G.fsL g.kids)) vk →
    Calls Tryz.prog 33 #[.agg #[.int .i64 g.kind, .int .i64 g.dim, vn, vk], .int .i64 t'] w fun e w' => ∃ a1 c1 a2 c2, e = .returned (.agg #[.int .i64 g.kind, .int .i64 t', .slice a1 (g.force t').nums.length c1, .slice a2 (g.force t').kids.length c2]) ∧ Rd S w' (fl (g.force t').nums) (.slice a1 (g.force t').nums.length c1) ∧ Rd S w' (.list (G.fsL (g.force t').kids)) (.slice a2 (g.force t').kids.length c2) ∧ Below w.heap.size w w' := by
  intro m
  induction m with
  | zero => intro g _ _ _ _ _ h; have := G.size_eq g; omega
  | succ m ih =>
  intro g t' S vn vk w hm hok g0 g1 hS hn hk
  obtain ⟨k, d, ns, ks⟩ := g
  rw [G.force_eq]
  simp only [G.kind, G.dim, G.nums, G.kids, G.fine] at hok hn hk ⊢
  simp only [G.size] at hm
  obtain ⟨d0, d1, hnl, hkl, hfl⟩ := hok
  obtain ⟨an, cn, rfl⟩ := fl_shape hn
  obtain ⟨ak, ck, rfl⟩ := kids_shape hk
  have hpl : (plsOf d ns).length ≤ 1000000 := by have := Nat.div_le_self ns.length (dN d); simp [plsOf]; omega
  have HB0 := Lib.hid (((bl_a2 w (.cells #[.int .i64 k, .int .i64 d, .slice an ns.length cn, .slice ak ks.length ck] 25) (.cells #[.int .i64 0, .int .i64 0, .slice none 0 0, .slice none 0 0] 25)).alloc (by simp <;> omega) (.cells #[.int .i64 k, .int .i64 t', .slice none 0 0, .slice none 0 0] 25)))
  have L0 := (Lb.new' w #[.int .i64 k, .int .i64 d, .slice an ns.length cn, .slice ak ks.length ck] 25 (.cells #[.int .i64 0, .int .i64 0, .slice none 0 0, .slice none 0 0] 25)).alloc (.cells #[.int .i64 k, .int .i64 t', .slice none 0 0, .slice none 0 0] 25)
  have L1 := (Lb.new2 w (.cells #[.int .i64 k, .int .i64 d, .slice an ns.length cn, .slice ak ks.length ck] 25) #[.int .i64 0, .int .i64 0, .slice none 0 0, .slice none 0 0] 25).alloc (.cells #[.int .i64 k, .int .i64 t', .slice none 0 0, .slice none 0 0] 25)
  have L2 := Lb.new3 w (.cells #[.int .i64 k, .int .i64 d, .slice an ns.length cn, .slice ak ks.length ck] 25) (.cells #[.int .i64 0, .int .i64 0, .slice none 0 0, .slice none 0 0] 25) #[.int .i64 k, .int .i64 t', .slice none 0 0, .slice none 0 0] 25
  have Hn := (((((hn.ex (L := w.heap.size + 1) (by omega)).ex (L := w.heap.size + 2) (by omega)).alloc (.cells #[.int .i64 k, .int .i64 d, .slice an ns.length cn, .slice ak ks.length ck] 25)).alloc (.cells #[.int .i64 0, .int .i64 0, .slice none 0 0, .slice none 0 0] 25)).alloc (.cells #[.int .i64 k, .int .i64 t', .slice none 0 0, .slice none 0 0] 25))
  have Hk := Lib.hid (((hk.old.alloc (.cells #[.int .i64 k, .int .i64 d, .slice an ns.length cn, .slice ak ks.length ck] 25)).alloc (.cells #[.int .i64 0, .int .i64 0, .slice none 0 0, .slice none 0 0] 25)).alloc (.cells #[.int .i64 k, .int .i64 t', .slice none 0 0, .slice none 0 0] 25))
  have hS2 : ∀ n, w.heap.size + 3 ≤ n → ∀ b, n ≤ b → Ex (Ex S (w.heap.size + 1)) (w.heap.size + 2) b := fun n hn b hb => ⟨⟨hS b (by omega), by omega⟩, by omega⟩
  have H80 := Lib.hid (c80 (Ex (Ex S (w.heap.size + 1)) (w.heap.size + 2)) d ns an cn _ d0 d1 hnl (hS2 _ (by simp)) Hn)
  have H82 := Lib.hid fun (a : Option Addr) (c : Nat) (w1 : World) (hw : w.heap.size + 3 ≤ w1.heap.size) h => c82 (Ex (Ex S (w.heap.size + 1)) (w.heap.size + 2)) t' (plsOf d ns) a c w1 g0 g1 hpl (hS2 _ hw) h
  have HS := Lib.hid hS2
  have HL0 := Lib.hid L0; have HL1 := Lib.hid L1
  have Hfl := Lib.hid hfl
  obtain ⟨k2, f2, lt2⟩ := L2.use
  clear hn hk Hn hS2 hfl L0 L1
  generalize plsOf d ns = ps at *
  generalize numsOf t' ps = ns' at *
  go_enter Tryz.func33, Tryz.ntmps33
  go_wp2_with fail
  refine H80.out.mono ?_
  rintro _ w1 ⟨ap, cp, rfl, hp, hb1⟩
  have HB1 := Lib.hid (HB0.out.trans (hb1.mono (by simp <;> omega)))
  have hsz1 : w.heap.size + 3 ≤ w1.heap.size := by have := hb1.size; simp at this; omega
  have HL0a := Lib.hid (HL0.out.blw hb1); have HL1a := Lib.hid (HL1.out.blw hb1)
  have L2a := L2.blw hb1
  have Hka := Lib.hid (Hk.out.blw hb1)
  have H82a := Lib.hid (H82.out ap cp w1 hsz1 hp)
  clear hb1 hp L2 k2 f2 lt2 HL0 HL1 Hk H82 H80 HB0
  go_wp2_with fail
  refine H82a.out.mono ?_
  rintro _ w2 ⟨an', cn', rfl, hn', hb2⟩
  have HB2 := Lib.hid (HB1.out.trans (hb2.mono HB1.out.size))
  have hsz2 : w.heap.size + 3 ≤ w2.heap.size := by have := hb2.size; omega
  have HL0b := Lib.hid (HL0a.out.blw hb2); have HL1b := Lib.hid (HL1a.out.blw hb2)
  have L2b := L2a.blw hb2
  have Hkb := Lib.hid (Hka.out.blw hb2)
  have Hn' := Lib.hid hn'
  obtain ⟨k2, f2, lt2⟩ := L2b.use
  obtain ⟨k0, _, _⟩ := HL0b.out.use
  have HL2b := Lib.hid L2b
  clear hb2 hn' L2a L2b HL0a HL1a Hka H82a HB1
  go_wp2_with fail
  go_loopw [23] (fun i wr => ∃ j : Nat, ∃ v : Value, j ≤ ks.length ∧ i = .int .i64 j ∧ Row (Ex (Ex S (w.heap.size + 1)) (w.heap.size + 2)) w2.heap.size wr 25 4 v (((ks.take j).map (·.force t')).map G.fs) ∧ w2.heap.size ≤ wr.heap.size ∧
      Lb wr (w.heap.size + 2) #[.int .i64 k, .int .i64 t', .slice an' ns'.length cn', v] 25 ∧ Lb wr (w.heap.size + 1) #[.int .i64 0, .int .i64 0, .slice none 0 0, .slice none 0 0] 25 ∧ Lb wr w.heap.size #[.int .i64 k, .int .i64 d, .slice an ns.length cn, .slice ak ks.length ck] 25 ∧
      Rd (Old (Ex (Ex S (w.heap.size + 1)) (w.heap.size + 2)) w2.heap.size) wr (fl ns') (.slice an' ns'.length cn') ∧ Rd (Old S w.heap.size) wr (.list (G.fsL ks)) (.slice ak ks.length ck) ∧ Below w.heap.size w wr) (fun i _ => ks.length - (intOf i).toNat)
  case atStart =>
    refine ⟨0, .slice none 0 0, Nat.zero_le _, rfl, Row.nil _ _ _ _ _, by simp [World.setCell], (HL2b.out.set 2 _), HL1b.out.far (by simp <;> omega) _, HL0b.out.far (by simp <;> omega) _, Hn'.out.old.setCell (fun h => h.1.2 rfl) _, Hkb.out.setCell (fun h => by have := h.2; simp at this; omega) _, HB2.out.setCell (by simp; omega) _⟩
  case round =>
    obtain ⟨j, v, hj, rfl, hR, hw2, L2, L1, L0, hn, hk, hB⟩ := hrel
    clear HL0b HL1b HL2b Hkb Hn' HB2 k2 f2 lt2 k0
    have hsz : w.heap.size + 3 ≤ wr.heap.size := by have := L2.use.2.2; omega
    obtain ⟨av, cv, hv⟩ := hR.shape
    rw [List.length_map, List.length_map, List.length_take, Nat.min_eq_left hj] at hv
    subst hv
    by_cases hlt : j < ks.length
    · obtain ⟨a0, c0, e0, hmx, hat⟩ := kids_inv hk
      obtain ⟨rfl, _, rfl⟩ := Value.slice.inj e0
      obtain ⟨b, off, vn0, vk0, rfl, hSb, hbl, q0, q1, q2, q3, r2, r3⟩ := hat j hlt
      obtain ⟨an0, cn0, rfl⟩ := fl_shape r2
      obtain ⟨ak0, ck0, rfl⟩ := kids_shape r3
      have hbA : Below wr.heap.size wr ((wr.alloc (.cells #[.int .i64 (ks[j]).kind, .int .i64 (ks[j]).dim, .slice an0 (ks[j]).nums.length cn0, .slice ak0 (ks[j]).kids.length ck0] 25)).drew) := (bl_a1 wr _).drew
      have Hdn : ∀ b, b < wr.heap.size → Old S w.heap.size b → Sm (Ex (Ex S (w.heap.size + 1)) (w.heap.size + 2)) (.slice av j cv) b := fun b hb ho => ⟨⟨⟨ho.1, by have := ho.2; omega⟩, by have := ho.2; omega⟩, fun e => by have := hR.lt b e.symm; have := ho.2; omega⟩
      have Hup : ∀ b, (wr.alloc (.cells #[.int .i64 (ks[j]).kind, .int .i64 (ks[j]).dim, .slice an0 (ks[j]).nums.length cn0, .slice ak0 (ks[j]).kids.length ck0] 25)).drew.heap.size ≤ b → Sm (Ex (Ex S (w.heap.size + 1)) (w.heap.size + 2)) (.slice av j cv) b := fun b hb => by
        have hb' : wr.heap.size ≤ b := Nat.le_trans hbA.size hb
        exact ⟨⟨⟨hS b (by omega), by omega⟩, by omega⟩, fun e => by have := hR.lt b e.symm; omega⟩
      have H33 := Lib.hid (ih (ks[j]) t' (Sm (Ex (Ex S (w.heap.size + 1)) (w.heap.size + 2)) (.slice av j cv)) (.slice an0 (ks[j]).nums.length cn0) (.slice ak0 (ks[j]).kids.length ck0) ((wr.alloc (.cells #[.int .i64 (ks[j]).kind, .int .i64 (ks[j]).dim, .slice an0 (ks[j]).nums.length cn0, .slice ak0 (ks[j]).kids.length ck0] 25)).drew)
        (by have := G.size_kid ks j hlt; omega) (G.fineL_mem Hfl.out _ (List.getElem_mem hlt)) g0 g1 Hup ((r2.mono Hdn).blw hbA) ((r3.mono Hdn).blw hbA))
      have hfs : ((ks[j]).force t').fs = [.atom (.int .i64 (ks[j]).kind), .atom (.int .i64 t'), fl ((ks[j]).force t').nums, .list (G.fsL ((ks[j]).force t').kids)] := by
        rw [G.fs_eq, G.force_eq]; simp [G.kind, G.dim, G.nums, G.kids]
      have htk := take_map_succ ks (·.force t') j hlt
      generalize (ks[j]).force t' = q at *
      have Hfs := Lib.hid hfs; have Htk := Lib.hid htk; clear hfs htk
      obtain ⟨kb2, fb2, ltb2⟩ := L2.use
      have HR := Lib.hid hR; have HL2 := Lib.hid L2; have HL1 := Lib.hid L1; have HL0 := Lib.hid L0; have Hn := Lib.hid hn; have Hk := Lib.hid hk; have HB := Lib.hid hB
      have HbA := Lib.hid hbA
      clear hR L2 L1 L0 hn hk hB hat e0 r2 r3 hbA Hdn Hup
      go_wp2_with fail
      go_region_law (first
        | (refine step_append_eq rfl _ _ 23 rfl rfl rfl rfl Hap.out ?_)
        | (go_simp; go_at_call 33; refine H33.out.mono ?_; rintro _ w3 ⟨a1, c1, a2, c2, rfl, hr1, hr2, hb3⟩
           have hbb := HbA.out.trans (hb3.mono HbA.out.size)
           have hR3 := HR.out.step hbb
           obtain ⟨v2, w4, hap, ⟨a3, c3, rfl⟩, hR4, hg⟩ := app_one (P := Tryz.prog) 23 25 4 64 _ Tryz.underlying23 info25 rfl (by omega) (by omega) hR3 q.fs (by rw [Hfs.out]; rfl) #[.int .i64 (ks[j]).kind, .int .i64 t', .slice a1 q.nums.length c1, .slice a2 q.kids.length c2] rfl (by simp [Value.oneCell']) (by
             intro jj hjj
             simp only [Hfs.out] at hjj ⊢
             have hjc : jj = 0 ∨ jj = 1 ∨ jj = 2 ∨ jj = 3 := by have : jj < 4 := hjj; omega
             rcases hjc with rfl | rfl | rfl | rfl
             · exact ⟨_, rfl, .atom _⟩
             · exact ⟨_, rfl, .atom _⟩
             · exact ⟨_, rfl, hr1⟩
             · exact ⟨_, rfl, hr2⟩) (by rw [List.length_map, List.length_map, List.length_take]; omega) (by have := hbb.size; omega)
           rw [List.length_map, List.length_map, List.length_take, Nat.min_eq_left hj] at hap
           have hown : ∀ qq, (Value.slice av j cv).ownBlock = some qq → w2.heap.size ≤ qq := fun qq hq => (hR3.lt qq hq).1
           have L2c := HL2.out.blw hbb
           have L2d := L2c.grown hg (fun e => by have := hown _ e.symm; omega)
           have HL1d := Lib.hid ((HL1.out.blw hbb).grown hg (fun e => by have := hown _ e.symm; omega))
           have HL0d := Lib.hid ((HL0.out.blw hbb).grown hg (fun e => by have := hown _ e.symm; omega))
           have HL2d := Lib.hid L2d
           have Hnd := Lib.hid ((Hn.out.blw hbb).grown hg (fun qq hq e => by have := hown _ e.symm; have := hq.2; omega))
           have Hkd := Lib.hid ((Hk.out.blw hbb).grown hg (fun qq hq e => by have := hown _ e.symm; have := hq.2; omega))
           have HBd := Lib.hid ((HB.out.trans (hbb.mono (by omega))).grown hg (by have := hbb.size; omega) (fun qq hq => by have := hown qq hq; omega))
           have hsz4 : w2.heap.size ≤ w4.heap.size := by have := hbb.size; have := hg.size; omega
           obtain ⟨kc2, fc2, ltc2⟩ := L2c.use
           obtain ⟨kd2, fd2, ltd2⟩ := L2d.use
           have Hap := Lib.hid hap; have HR4 := Lib.hid hR4
           clear hr1 hr2 hb3 hR3 hap hg hown L2c L2d hR4 hbb))
      all_goals go_wp2_with fail
      all_goals go_roundw
      all_goals first
        | (simp [intOf]; omega; done)
        | (refine ⟨j + 1, .slice a3 (j + 1) c3, by omega, by go_num, ?_, by simp [World.setCell]; omega, HL2d.out.set 3 _, HL1d.out.far (by simp <;> omega) _, HL0d.out.far (by simp <;> omega) _, Hnd.out.setCell (fun h => h.1.2 rfl) _, Hkd.out.setCell (fun h => by have := h.2; simp at this; omega) _, HBd.out.setCell (by simp; omega) _⟩
           rw [Htk.out, List.map_append]
           have e := HR4.out.far (p := ⟨w.heap.size + 2, 3, none⟩) (by simp; omega) (fun h => h.2 rfl) (.slice a3 (j + 1) c3)
           rw [List.length_map, List.length_map, List.length_take, Nat.min_eq_left hj] at e
           exact e)
    · obtain rfl : j = ks.length := by omega
      have hdl : decide (((ks.length : Nat) : Int) < ks.length) = false := by simp
      obtain ⟨k1, f1, lt1⟩ := L1.use
      obtain ⟨k2, f2, lt2⟩ := L2.use
      have hrd := hR.rd (by omega) (fun k hk => ⟨⟨hS k (by omega), by omega⟩, by omega⟩) (by simp; omega)
      rw [List.take_length] at hrd
      have HR := Lib.hid hrd; have HB := Lib.hid hB; have Hn := Lib.hid (hn.mono fun b _ hb => hb.1 : Rd (Ex (Ex S (w.heap.size + 1)) (w.heap.size + 2)) wr (fl ns') (.slice an' ns'.length cn'))
      clear hR hrd hB hn hk L1 L2 L0
      go_wp2_with fail
      refine bodyPost_ret (v := .agg #[.int .i64 k, .int .i64 t', .slice an' ns'.length cn', .slice av ks.length cv]) (by simp [results, Tryz.results33, go_sem, k1]) rfl ⟨an', cn', av, cv, by rw [List.length_map], ?_, ?_, ?_⟩
      · refine Rd.unex (L := w.heap.size + 1) ?_
        have hd := Hn.out.unex
        repeat (with_reducible first | refine Rd.set ?_ _ _ | exact hd)
      · refine Rd.unex (L := w.heap.size + 1) ?_
        have hd := HR.out.unex
        rw [← G.fsL_map] at hd
        rw [List.length_map]
        repeat (with_reducible first | refine Rd.set ?_ _ _ | exact hd)
      · repeat (with_reducible first | refine Below.setCell ?_ (by simp) _ | exact HB.out)
end Go.Proofs.YtahnhhkbdgaidaaGreatDoor
namespace Go.Proofs.YtahnhhkbdgaidaaGreatDoor
open Go.RowKit
set_option maxRecDepth 100000
theorem c149 (S : Nat → Prop) (t : Int) (xs : List Nat) (a : Option Addr) (c : Nat) (w : World) (h0 : 0 ≤ t) (h1 : t ≤ 3) (hS : ∀ b, w.heap.size ≤ b → S b) (hq : xs.length / dN t ≤ 1000000) (h : Rd S w (fl xs) (.slice a xs.length c)) :
    Calls Tryz.prog 149 #[.agg #[.int .u8 t, .slice a xs.length c]] w fun e w' => ∃ vn, e = .returned (.agg #[.int .i64 2, .int .i64 t, vn, .slice none 0 0]) ∧ Rd S w' (fl (numsOf t (plsOf t xs))) vn ∧ Below w.heap.size w w' := by
  rcases four t h0 h1 with rfl | rfl | rfl | rfl
  · exact c149_0 S xs a c w hS hq h
  · exact c149_1 S xs a c w hS hq h
  · exact c149_2 S xs a c w hS hq h
  · exact c149_3 S xs a c w hS hq h
set_option maxHeartbeats 1000000 in
theorem c107 (S : Nat → Prop) (t : Int) (xs : List Nat) (a : Option Addr) (c : Nat) (w : World) (h0 : 0 ≤ t) (h1 : t ≤ 3) (hS : ∀ b, w.heap.size ≤ b → S b) (hq : xs.length / dN t ≤ 1000000) (h : Rd S w (fl xs) (.slice a xs.length c)) :
    Calls Tryz.prog 107 #[.agg #[.int .u8 t, .slice a xs.length c]] w fun e w' => ∃ vn, e = .returned (.agg #[.int .i64 2, .int .i64 t, vn, .slice none 0 0]) ∧ Rd S w' (fl (numsOf t (plsOf t xs))) vn ∧ Below w.heap.size w w' := by
  have l1 := Lib.hid (Lb.new2 w (.cells #[.int .u8 t, .slice a xs.length c] 69) #[.int .i64 0, .int .i64 0, .slice none 0 0, .slice none 0 0] 25)
  have HB := Lib.hid (bl_a2 w (.cells #[.int .u8 t, .slice a xs.length c] 69) (.cells #[.int .i64 0, .int .i64 0, .slice none 0 0, .slice none 0 0] 25))
  have HR := Lib.hid (((h.ex (L := w.heap.size + 1) (by omega)).alloc (.cells #[.int .u8 t, .slice a xs.length c] 69)).alloc (.cells #[.int .i64 0, .int .i64 0, .slice none 0 0, .slice none 0 0] 25))
  have HC := Lib.hid fun (w' : World) (hs : w.heap.size + 2 ≤ w'.heap.size) (hr : Rd (Ex S (w.heap.size + 1)) w' (fl xs) (.slice a xs.length c)) => c149 (Ex S (w.heap.size + 1)) t xs a c w' h0 h1 (fun b hb => ⟨hS b (by omega), by omega⟩) hq hr
  clear h hq
  go_enter Tryz.func107, Tryz.ntmps107
  go_wp2_with fail
  refine (c140 _ _ _ _ _).mono ?_
  rintro _ w1 ⟨rfl, hb1⟩
  have hge : w.heap.size + 2 ≤ w1.heap.size := by have := hb1.size; simpa using this
  replace l1 := Lib.hid (l1.out.blw hb1); replace HR := Lib.hid (HR.out.blw hb1)
  replace HB := Lib.hid (HB.out.trans (hb1.mono (by simp <;> omega)))
  clear hb1
  go_wp2_with fail
  refine (HC.out _ hge HR.out).mono ?_
  rintro _ w2 ⟨vn, rfl, hr2, hb2⟩
  obtain ⟨an, cn, rfl⟩ := fl_shape hr2
  obtain ⟨kr, fr, lr⟩ := (l1.out.blw hb2).use
  replace HB := Lib.hid (HB.out.trans (hb2.mono (by omega)))
  have Hr2 := Lib.hid hr2
  clear hr2 hb2 l1 HR HC
  go_wp2_with fail
  refine bodyPost_ret (v := .agg #[.int .i64 2, .int .i64 t, .slice an (numsOf t (plsOf t xs)).length cn, .slice none 0 0]) (by simp [results, Tryz.results107, go_sem, *]) rfl ⟨_, rfl, ?_, ?_⟩
  · refine Rd.unex (L := w.heap.size + 1) ?_
    repeat (with_reducible first | refine Rd.set ?_ _ _ | exact Hr2.out)
  · repeat (with_reducible first | exact HB.out | refine Below.setCell ?_ (by simp <;> omega) _)
set_option maxHeartbeats 1000000 in
theorem c106_f (S : Nat → Prop) (x y z m : Nat) (t : Int) (w : World) (h0 : 0 ≤ t) (h1 : t ≤ 3) (_ : ∀ b, w.heap.size ≤ b → S b) :
    Calls Tryz.prog 106 #[.agg #[.float .f64 x, .float .f64 y, .float .f64 z, .float .f64 m, .int .u8 t, .bool false]] w fun e w' => ∃ vn, e = .returned (.agg #[.int .i64 1, .int .i64 t, vn, .slice none 0 0]) ∧ Rd S w' (fl []) vn ∧ Below w.heap.size w w' := by
  have hsf := st_float
  have l0 := Lib.hid (Lb.new' w #[.float .f64 x, .float .f64 y, .float .f64 z, .float .f64 m, .int .u8 t, .bool false] 63 (.cells #[.int .i64 0, .int .i64 0, .slice none 0 0, .slice none 0 0] 25))
  have l1 := Lib.hid (Lb.new2 w (.cells #[.float .f64 x, .float .f64 y, .float .f64 z, .float .f64 m, .int .u8 t, .bool false] 63) #[.int .i64 0, .int .i64 0, .slice none 0 0, .slice none 0 0] 25)
  have HB := Lib.hid (bl_a2 w (.cells #[.float .f64 x, .float .f64 y, .float .f64 z, .float .f64 m, .int .u8 t, .bool false] 63) (.cells #[.int .i64 0, .int .i64 0, .slice none 0 0, .slice none 0 0] 25))
  go_enter Tryz.func106, Tryz.ntmps106
  go_wp2_with fail
  refine (c142 _ _ _ _ _ _ _).mono ?_
  rintro _ w1 ⟨rfl, hb1⟩
  have hge : w.heap.size + 2 ≤ w1.heap.size := by have := hb1.size; simpa using this
  replace l0 := Lib.hid (l0.out.blw hb1); replace l1 := Lib.hid (l1.out.blw hb1)
  replace HB := Lib.hid (HB.out.trans (hb1.mono (by simp <;> omega)))
  obtain ⟨k1, _, _⟩ := l0.out.use
  clear hb1
  go_wp2_with fail
  refine (c97 _ _ _ _ _ _ _).mono ?_
  rintro _ w2 ⟨rfl, hb2⟩
  have hlg := Lb.new w1 #[.int .i64 1, .int .i64 t, .slice none 0 0, .slice none 0 0] 25 |>.blw hb2
  have hl1 := (l1.out.alloc (.cells #[.int .i64 1, .int .i64 t, .slice none 0 0, .slice none 0 0] 25)).blw hb2
  obtain ⟨kg, _, lg⟩ := hlg.use
  obtain ⟨kr, fr, lr⟩ := hl1.use
  replace HB := Lib.hid ((HB.out.alloc (by omega) (.cells #[.int .i64 1, .int .i64 t, .slice none 0 0, .slice none 0 0] 25)).trans (hb2.mono (by simp; omega)))
  clear hb2 hlg hl1 l0 l1
  go_wp2_with fail
  refine bodyPost_ret (v := .agg #[.int .i64 1, .int .i64 t, .slice none 0 0, .slice none 0 0]) (by simp [results, Tryz.results106, go_sem, *]) rfl ⟨_, rfl, .nil _ _, ?_⟩
  repeat (with_reducible first | exact HB.out | refine Below.setCell ?_ (by simp <;> omega) _ | refine Below.alloc ?_ (by simp <;> omega) _)
theorem c106 (S : Nat → Prop) (p : Pt) (w : World) (hok : p.ok) (hS : ∀ b, w.heap.size ≤ b → S b) :
    Calls Tryz.prog 106 #[.agg p.cells] w fun e w' => ∃ vn, e = .returned (.agg #[.int .i64 1, .int .i64 p.c.t, vn, .slice none 0 0]) ∧ Rd S w' (fl (if p.full then crdNums p.c.t p.c else [])) vn ∧ Below w.heap.size w w' := by
  obtain ⟨⟨x, y, z, m, t⟩, full⟩ := p
  obtain ⟨h0, h1⟩ := hok
  simp only at h0 h1
  cases full
  · exact c106_f S x y z m t w h0 h1 hS
  · rcases four t h0 h1 with rfl | rfl | rfl | rfl
    · exact c106_0 S x y z m w hS
    · exact c106_1 S x y z m w hS
    · exact c106_2 S x y z m w hS
    · exact c106_3 S x y z m w hS
end Go.Proofs.YtahnhhkbdgaidaaGreatDoor
namespace Go.Proofs.YtahnhhkbdgaidaaGreatDoor
open Go.RowKit
set_option maxRecDepth 100000
/-- A whole row of wide elements copied over another of its length. -/
theorem run_copy_wide {P : Program} (w : World) (dT sT ty elem : TypeId) (g n c1 : Nat) (a : Addr) (c2 : Nat) (cur : Array Value) (t : TypeId) (cs : List Value) (sz : Nat)
    (hu : P.underlying dT = some (.slice elem)) (hs : (P.info? elem).map (·.size) = some sz)
    (hg : w.heap[g]? = some (.cells cur t (0, 0))) (hn : cs.length = n * sz)
    (hsrc : ∀ j v, cs[j]? = some v → w.cell? (a.add j) = some v) (hfit : cs.length = cur.size) (h1 : ∀ v ∈ cs, v.oneCell' = true) :
    (Builtin.copy_ #[dT, sT] ty #[.slice (some ⟨g, 0, none⟩) n c1, .slice (some a) n c2]).run P w = .ok (goInt n) (w.setRow g cs.toArray) := by
  have hl := run_loadCells_list (P := P) w a cs hsrc
  have hst := run_storeCells_at P g 0 t cs 0 cur w hg (by omega) h1
  have e : (cur.toList.take (0 + 0) ++ cs ++ cur.toList.drop (0 + 0 + cs.length)).toArray = cs.toArray := by
    rw [hfit]; simp
  rw [e] at hst
  cases hq : P.info? elem with
  | none => simp [hq] at hs
  | some i =>
    have hi : i.size = sz := by simpa [hq] using hs
    rw [hn] at hl
    simp [Builtin.copy_, run_underlying hu, Builtin.lenOf, Builtin.firstCells, sizeOf, typeInfo, hq, hi, hl, hst]
theorem copy_lines (S : Nat → Prop) (ls : List Ln) (a : Option Addr) (c : Nat) (w : World) (g : Nat) (h0 : 0 < ls.length) (hg : w.heap[g]? = some (.cells (madeCells #[.int .u8 0, .slice none 0 0] (ls.length * 2)) 69 (0, 0))) (hS : S g)
    (h : Rd (Ex S g) w (.list (ls.map Ln.fs)) (.slice a ls.length c)) :
    ∃ cs, (Builtin.copy_ #[71, 71] 3 #[.slice (some ⟨g, 0, none⟩) ls.length ls.length, .slice a ls.length c]).run Tryz.prog w = .ok (goInt ls.length) (w.setRow g cs) ∧ Rd S (w.setRow g cs) (.list (ls.map Ln.fs)) (.slice (some ⟨g, 0, none⟩) ls.length ls.length) := by
  obtain ⟨a0, c0, e0, hm, hat⟩ := lines_at h
  obtain ⟨ea, _, rfl⟩ := Value.slice.inj e0
  obtain ⟨b, off, _, _, eb, hSb, hbl, _⟩ := hat 0 h0
  obtain rfl : a = some ⟨b, off, none⟩ := ea.trans eb
  have key : ∀ i (hi : i < ls.length), ∃ a' c', w.cell? ⟨b, off + i * 2, none⟩ = some (.int .u8 (ls[i]).t) ∧ w.cell? ⟨b, off + i * 2 + 1, none⟩ = some (.slice a' (ls[i]).xs.length c') ∧ Rd (Ex S g) w (fl (ls[i]).xs) (.slice a' (ls[i]).xs.length c') := fun i hi => by
    obtain ⟨b', off', a', c', e', _, _, q0, q1, hr⟩ := hat i hi
    obtain ⟨rfl, rfl⟩ : b = b' ∧ off = off' := by rw [← ea] at e'; simpa using e'
    exact ⟨a', c', q0, q1, hr⟩
  have hkey : ∀ k, k < ls.length * 2 → ∃ v, w.cell? ⟨b, off + k, none⟩ = some v ∧ v.oneCell' = true := fun k hk => by
    obtain ⟨a', c', q0, q1, _⟩ := key (k / 2) (by omega)
    rcases Nat.mod_two_eq_zero_or_one k with hr | hr
    · exact ⟨_, by rw [show off + k = off + k / 2 * 2 by omega]; exact q0, rfl⟩
    · exact ⟨_, by rw [show off + k = off + k / 2 * 2 + 1 by omega]; exact q1, rfl⟩
  have hlt : g < w.heap.size := (Array.getElem?_eq_some_iff.1 hg).1
  have hrun := run_copy_wide (P := Tryz.prog) w 71 71 3 69 g ls.length ls.length ⟨b, off, none⟩ c _ 69 ((List.range (ls.length * 2)).map fun k => (w.cell? ⟨b, off + k, none⟩).getD undef) 2 Tryz.underlying71 (by
      obtain ⟨i, hi, _, hz, _⟩ := info_parts info69
      rw [hi]; simp [hz]) hg (by simp) (fun j v hv => by
      obtain ⟨hj, e⟩ := List.getElem?_eq_some_iff.1 hv
      have hj' : j < ls.length * 2 := by simpa using hj
      obtain ⟨u, hu, _⟩ := hkey j hj'
      rw [Addr.add_lit, hu]
      simp [hu] at e
      rw [e]) (by simp [size_madeCells]) (fun v hv => by
      obtain ⟨k, hk, rfl⟩ := List.mem_map.1 hv
      obtain ⟨u, hu, h1⟩ := hkey k (by simpa using hk)
      rw [hu]; exact h1)
  refine ⟨_, hrun, ?_⟩
  have hself : (w.setRow g ((List.range (ls.length * 2)).map fun k => (w.cell? ⟨b, off + k, none⟩).getD undef).toArray).heap[g]? = some (.cells ((List.range (ls.length * 2)).map fun k => (w.cell? ⟨b, off + k, none⟩).getD undef).toArray 69 (0, 0)) := setRow_heap w g _ _ 69 _ hg
  refine Fill.done (E := 69) (sz := 2) (cs := ((List.range (ls.length * 2)).map fun k => (w.cell? ⟨b, off + k, none⟩).getD undef).toArray) ⟨by simp, hself, by simp [Ln.fs], fun i hi j hj => ?_⟩ _ (by omega) (by simp) hS hm
  have hi' : i < ls.length := by simpa using hi
  obtain ⟨a', c', q0, q1, hr⟩ := key i hi'
  have e : (ls.map Ln.fs)[i] = [.atom (.int .u8 (ls[i]).t), fl (ls[i]).xs] := by simp [Ln.fs]
  have hj3 : j < 2 := by rw [e] at hj; exact hj
  have hj2 : j = 0 ∨ j = 1 := by omega
  simp only [e]
  rcases hj2 with rfl | rfl
  · exact ⟨.int .u8 (ls[i]).t, by simp [show i * 2 < ls.length * 2 by omega, q0], .atom _⟩
  · refine ⟨.slice a' (ls[i]).xs.length c', by simp [show i * 2 + 1 < ls.length * 2 by omega, ← Nat.add_assoc, q1], ?_⟩
    exact hr.step (fun k hk hS' => ⟨setRow_other w g k _ hS'.2, hS'⟩) (by simp [World.setRow])
theorem copy_zero (ad : Addr) (a : Option Addr) (c : Nat) (w : World) : (Builtin.copy_ #[71, 71] 3 #[.slice (some ad) 0 0, .slice a 0 c]).run Tryz.prog w = .ok (.int .i64 0) w := by
  obtain ⟨i, hi, _, hz, _⟩ := info_parts info69
  cases a <;> simp [Builtin.copy_, run_underlying Tryz.underlying71, Builtin.lenOf, Builtin.firstCells, sizeOf, typeInfo, hi, storeCells, loadCells, loadCellsFrom, goInt]
theorem c150 (S : Nat → Prop) (ls : List Ln) (t : Int) (a : Option Addr) (c : Nat) (w : World) (hlen : ls.length ≤ 1000000) (hS : ∀ b, w.heap.size ≤ b → S b) (h : Rd S w (.list (ls.map Ln.fs)) (.slice a ls.length c)) :
    Calls Tryz.prog 150 #[.agg #[.slice a ls.length c, .int .u8 t]] w fun e w' => ∃ a' c', e = .returned (.slice a' ls.length c') ∧ Rd S w' (.list (ls.map Ln.fs)) (.slice a' ls.length c') ∧ Below w.heap.size w w' := by
  have hmk : ∀ w, (Instr.makeSlice 71 (.int .i64 (ls.length : Int)) (.int .i64 (ls.length : Int))).run Tryz.prog w = .ok (.slice (some ⟨w.heap.size, 0, none⟩) ls.length ls.length) (w.alloc (.cells (madeCells #[.int .u8 0, .slice none 0 0] (ls.length * 2)) 69)) :=
    mk_any (P := Tryz.prog) 71 69 _ 2 32 Tryz.underlying71 info69 ls.length (by omega) (by omega)
  have HB := Lib.hid (bl_a2 w (.cells #[.slice a ls.length c, .int .u8 t] 73) (.cells (madeCells #[.int .u8 0, .slice none 0 0] (ls.length * 2)) 69))
  rcases Nat.eq_zero_or_pos ls.length with h0 | h0
  · have hz : (Builtin.copy_ #[71, 71] 3 #[.slice (some ⟨w.heap.size + 1, 0, none⟩) ls.length ls.length, .slice a ls.length c]).run Tryz.prog ((w.alloc (.cells #[.slice a ls.length c, .int .u8 t] 73)).alloc (.cells (madeCells #[.int .u8 0, .slice none 0 0] (ls.length * 2)) 69)) = .ok (goInt ls.length) ((w.alloc (.cells #[.slice a ls.length c, .int .u8 t] 73)).alloc (.cells (madeCells #[.int .u8 0, .slice none 0 0] (ls.length * 2)) 69)) := by
      rw [h0]; exact copy_zero _ _ _ _
    have hd := (Fill.start (S := S) (sz := 2) (n := ls.length) (by simp [size_madeCells]) (Lb.new2 w (.cells #[.slice a ls.length c, .int .u8 t] 73) (madeCells #[.int .u8 0, .slice none 0 0] (ls.length * 2)) 69)).done ls.length (by omega) (by simp [h0]) (hS _ (by omega)) (by omega)
    have Hd : Hid (Rd S ((w.alloc (.cells #[.slice a ls.length c, .int .u8 t] 73)).alloc (.cells (madeCells #[.int .u8 0, .slice none 0 0] (ls.length * 2)) 69)) (.list (ls.map Ln.fs)) (.slice (some ⟨w.heap.size + 1, 0, none⟩) ls.length ls.length)) := Lib.hid (by
      have e : ls.map Ln.fs = [] := by rw [List.eq_nil_of_length_eq_zero h0]; rfl
      rw [e]; exact hd)
    clear h hd h0
    go_enter Tryz.func150, Tryz.ntmps150
    go_wp2_with fail
    go_ret
    exact ⟨_, _, rfl, Hd.out, HB.out⟩
  · obtain ⟨cs, hcp, hr3⟩ := copy_lines S ls a c _ (w.heap.size + 1) h0 (Lb.new2 w (.cells #[.slice a ls.length c, .int .u8 t] 73) (madeCells #[.int .u8 0, .slice none 0 0] (ls.length * 2)) 69) (hS _ (by omega)) (((h.ex (L := w.heap.size + 1) (by omega)).alloc (.cells #[.slice a ls.length c, .int .u8 t] 73)).alloc (.cells (madeCells #[.int .u8 0, .slice none 0 0] (ls.length * 2)) 69))
    have Hr3 := Lib.hid hr3
    clear hr3 h
    go_enter Tryz.func150, Tryz.ntmps150
    go_wp2_with fail
    go_ret
    exact ⟨_, _, rfl, Hr3.out, below_setRow HB.out (by omega) _⟩
end Go.Proofs.YtahnhhkbdgaidaaGreatDoor
namespace Go.Proofs.YtahnhhkbdgaidaaGreatDoor
open Go.RowKit
set_option maxRecDepth 100000
theorem c152 (t : Int) (a : Option Addr) (n c : Nat) (w : World) : Calls Tryz.prog 152 #[.agg #[.slice a n c, .int .u8 t]] w fun e w' => e = .returned (.int .i64 (n : Int)) ∧ Below w.heap.size w w' := by
  go_enter Tryz.func152, Tryz.ntmps152
  go_wp2
  go_ret
  exact ⟨rfl, by repeat (with_reducible first | exact Below.refl _ _ | refine Below.alloc ?_ (by simp) _)⟩
set_option maxHeartbeats 1000000 in
theorem c153 (S : Nat → Prop) (ls : List Pt) (j : Nat) (hj : j < ls.length) (t : Int) (a : Option Addr) (c : Nat) (w : World) (h : Rd S w (.list (ls.map Pt.fs)) (.slice a ls.length c)) :
    Calls Tryz.prog 153 #[.agg #[.slice a ls.length c, .int .u8 t], .int .i64 j] w fun e w' => e = .returned (.agg (ls[j]).cells) ∧ Below w.heap.size w w' := by
  have hsf := st_float
  obtain ⟨a0, c0, e0, hm, hat⟩ := pts_at h
  obtain ⟨rfl, _, rfl⟩ := Value.slice.inj e0
  obtain ⟨b, off, rfl, hSb, hb, q0, q1, q2, q3, q4, q5⟩ := hat j hj
  clear hat e0 h
  simp only [Pt.cells]
  go_enter Tryz.func153, Tryz.ntmps153
  go_wp2
  refine bodyPost_ret (v := .agg #[.float .f64 (ls[j]).c.x, .float .f64 (ls[j]).c.y, .float .f64 (ls[j]).c.z, .float .f64 (ls[j]).c.m, .int .u8 (ls[j]).c.t, .bool (ls[j]).full]) (by simp [results, Tryz.results153, go_sem]) rfl ⟨rfl, ?_⟩
  repeat (with_reducible first | refine Below.setCell ?_ (by simp) _ | exact ((Below.refl _ _).alloc (Nat.le_refl _) _).alloc (by simp) _)
end Go.Proofs.YtahnhhkbdgaidaaGreatDoor
namespace Go.Proofs.YtahnhhkbdgaidaaGreatDoor
open Go.RowKit
set_option maxRecDepth 100000
/-- A datum under way: its own block holds the parts so far; the row of parts lies from block B on. -/
structure Kl (w0 : World) (S : Nat → Prop) (g B : Nat) (k t : Int) (A : Array Value) (TA : TypeId) (f : F) (fv : Value) (es : List (List F)) (v : Value) (w : World) : Prop where
  lb0 : Lb w w0.heap.size A TA
  lb1 : Lb w (w0.heap.size + 1) #[.int .i64 0, .int .i64 0, .slice none 0 0, .slice none 0 0] 25
  lbg : Lb w g #[.int .i64 k, .int .i64 t, .slice none 0 0, v] 25
  own : Row (Ex (Ex S (w0.heap.size + 1)) g) B w 25 4 v es
  rd : Rd (Old (Ex (Ex S (w0.heap.size + 1)) g) B) w f fv
  bl : Below w0.heap.size w0 w
  ge : w0.heap.size + 2 ≤ g
  gB : g + 1 ≤ B
  lt : B ≤ w.heap.size
theorem Kl.step {w0 : World} {S : Nat → Prop} {g B : Nat} {k t : Int} {A : Array Value} {TA : TypeId} {f : F} {fv : Value} {es : List (List F)} {v : Value} {w w' : World} (h : Kl w0 S g B k t A TA f fv es v w) (hb : Below w.heap.size w w') : Kl w0 S g B k t A TA f fv es v w' :=
  ⟨h.lb0.blw hb, h.lb1.blw hb, h.lbg.blw hb, h.own.step hb, h.rd.blw hb, h.bl.trans (hb.mono (by have := h.ge; have := h.gB; have := h.lt; omega)), h.ge, h.gB, Nat.le_trans h.lt hb.size⟩
theorem Kl.app {w0 : World} {S : Nat → Prop} {g B : Nat} {k t : Int} {A : Array Value} {TA : TypeId} {f : F} {fv : Value} {es : List (List F)} {v : Value} {w : World} (h : Kl w0 S g B k t A TA f fv es v w) (k' d' : Int) (f1 f2 : F) (a1 a2 : Option Addr) (n1 n2 c1 c2 : Nat)
    (h1 : Rd (Sm (Ex (Ex S (w0.heap.size + 1)) g) v) w f1 (.slice a1 n1 c1)) (h2 : Rd (Sm (Ex (Ex S (w0.heap.size + 1)) g) v) w f2 (.slice a2 n2 c2)) (hlen : es.length ≤ 1000000000) :
    ∃ a' c' w', (Builtin.append_ #[23, 23] 23 #[v, .slice (some ⟨w.heap.size, 0, none⟩) 1 1]).run Tryz.prog (w.alloc (.cells #[.int .i64 k', .int .i64 d', .slice a1 n1 c1, .slice a2 n2 c2] 25)) = .ok (.slice a' (es.length + 1) c') w' ∧ Lb w' g #[.int .i64 k, .int .i64 t, .slice none 0 0, v] 25 ∧
      Kl w0 S g B k t A TA f fv (es ++ [[.atom (.int .i64 k'), .atom (.int .i64 d'), f1, f2]]) (.slice a' (es.length + 1) c') (w'.setCell ⟨g, 3, none⟩ (.slice a' (es.length + 1) c')) ∧ w.heap.size ≤ w'.heap.size := by
  have hge := h.ge; have hlt := h.lt; have hgB := h.gB
  obtain ⟨v', w', hrun, ⟨a', c', rfl⟩, hR, hg⟩ := app_one (P := Tryz.prog) 23 25 4 64 _ Tryz.underlying23 info25 rfl (by omega) (by omega) h.own [.atom (.int .i64 k'), .atom (.int .i64 d'), f1, f2] rfl #[.int .i64 k', .int .i64 d', .slice a1 n1 c1, .slice a2 n2 c2] rfl (by simp [Value.oneCell']) (by
    intro jj hjj
    have hjc : jj = 0 ∨ jj = 1 ∨ jj = 2 ∨ jj = 3 := by have : jj < 4 := hjj; omega
    rcases hjc with rfl | rfl | rfl | rfl
    · exact ⟨_, rfl, .atom _⟩
    · exact ⟨_, rfl, .atom _⟩
    · exact ⟨_, rfl, h1⟩
    · exact ⟨_, rfl, h2⟩) hlen (by omega)
  have hown : ∀ q, v.ownBlock = some q → B ≤ q ∧ q < w.heap.size := h.own.lt
  have hne : ∀ b, b < B → some b ≠ v.ownBlock := fun b hb e => by have := (hown _ e.symm).1; omega
  have l0 := h.lb0.grown hg (hne _ (by omega))
  have l1 := h.lb1.grown hg (hne _ (by omega))
  have lg := h.lbg.grown hg (hne _ (by omega))
  have hr : Rd (Old (Ex (Ex S (w0.heap.size + 1)) g) B) w' f fv := h.rd.grown hg (fun b hb => hne b hb.2)
  have hB : Below w0.heap.size w0 w' := h.bl.grown hg (by omega) (fun q hq => by have := (hown q hq).1; omega)
  refine ⟨a', c', w', hrun, lg, ⟨l0.far (by simp; omega) _, l1.far (by simp; omega) _, ?_, hR.far (by simp; omega) (fun hs => hs.2 rfl) _, hr.setCell (fun hb => hb.1.2 rfl) _, hB.setCell (by simp; omega) _, hge, hgB, ?_⟩, hg.size⟩
  · have := lg.set 3 (.slice a' (es.length + 1) c')
    simpa using this
  · have := hg.size
    simp [World.setCell]; omega
end Go.Proofs.YtahnhhkbdgaidaaGreatDoor
