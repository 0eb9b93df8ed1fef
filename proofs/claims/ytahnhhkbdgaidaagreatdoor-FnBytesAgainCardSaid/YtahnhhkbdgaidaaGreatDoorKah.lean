/-
  Polygons, several points, lines and polygons of plain data.
-/
import Derived.Test.YtahnhhkbdgaidaaGreatDoorKag
namespace Go.Proofs.YtahnhhkbdgaidaaGreatDoor
open Go.RowKit
theorem c95 (S : Nat → Prop) (ls : List Pt) (t t' : Int) (a : Option Addr) (c : Nat) (w : World) (hok : ∀ l ∈ ls, l.ok) (g0 : 0 ≤ t') (g1 : t' ≤ 3) (hlen : ls.length ≤ 1000000) (hS : ∀ b, w.heap.size ≤ b → S b)
    (h : Rd S w (.list (ls.map Pt.fs)) (.slice a ls.length c)) :
    Calls Tryz.prog 95 #[.agg #[.slice a ls.length c, .int .u8 t], .int .u8 t'] w fun e w' => ∃ a' c', e = .returned (.agg #[.slice a' ls.length c', .int .u8 t']) ∧
      Rd S w' (.list ((ls.map (·.force t')).map Pt.fs)) (.slice a' ls.length c') ∧ Below w.heap.size w w' := by
  have H := Lib.hid fun (S : Nat → Prop) (w : World) => c141 S ls t' a c w hok g0 g1 hlen
  go_enter Tryz.func95, Tryz.ntmps95
  go_wp2_with fail
  refine (H.out (Ex S (w.heap.size + 1)) _ (Ex.up hS (by simp <;> omega) (by simp <;> omega)) (((h.ex (by simp)).alloc _).alloc _)).mono ?_
  rintro e w1 ⟨a', c', rfl, hr, hb1⟩
  have L1 := (Lb.new2 w _ _ _).blw hb1
  have HB := Lib.hid ((bl_a2 w _ _).trans (hb1.mono (by simp <;> omega)))
  obtain ⟨k1, f1, lt1⟩ := L1.use
  have Hr := Lib.hid hr
  clear hb1 L1 H h hr
  go_wp2_with fail
  refine bodyPost_ret (v := .agg #[.slice a' ls.length c', .int .u8 t']) (by simp [results, Tryz.results95, go_sem, k1]) rfl ⟨_, _, rfl, ?_, ?_⟩
  · refine Rd.unex (L := w.heap.size + 1) ?_
    have hz := Hr.out
    rw [List.map_map] at hz ⊢
    repeat (with_reducible first | refine Rd.set ?_ _ _ | exact hz)
  · repeat (with_reducible first | refine Below.setCell ?_ (by simp) _ | exact HB.out)
set_option maxRecDepth 100000 in
set_option maxHeartbeats 2000000 in
theorem c96 (S : Nat → Prop) (ls : List Pt) (a : Option Addr) (c : Nat) (w : World) (hok : ∀ l ∈ ls, l.ok) (hpos : 0 < ls.length) (hlen : ls.length ≤ 1000000) (hS : ∀ b, w.heap.size ≤ b → S b)
    (h : Rd S w (.list (ls.map Pt.fs)) (.slice a ls.length c)) :
    Calls Tryz.prog 96 #[.slice a ls.length c] w fun e w' => ∃ a' c', e = .returned (.agg #[.slice a' ls.length c', .int .u8 (foldT (ls.map (·.c.t)))]) ∧
      Rd S w' (.list ((ls.map (·.force (foldT (ls.map (·.c.t))))).map Pt.fs)) (.slice a' ls.length c') ∧ Below w.heap.size w w' := by
  have hsf := st_float
  have hT := foldT_bd (ls.map (·.c.t)) (fun t ht => by obtain ⟨l, hl, rfl⟩ := List.mem_map.1 ht; exact hok l hl)
  have hl1 : ((ls.length : Int) == 0) = false := by rw [beq_eq_false_iff_ne]; omega
  have H141 := Lib.hid fun (S : Nat → Prop) (w : World) => c141 S ls (foldT (ls.map (·.c.t))) a c w hok hT.1 hT.2 hlen
  go_enter Tryz.func96, Tryz.ntmps96
  go_wp2_with fail
  go_loopw [3, 13] (fun T i wr => ∃ j : Nat, j ≤ ls.length ∧ i = .int .i64 j ∧ T = .int .u8 (preT (ls.map (·.c.t)) j) ∧ Lb wr w.heap.size #[.slice none 0 0, .int .u8 0] 77 ∧
      Rd (Ex S w.heap.size) wr (.list (ls.map Pt.fs)) (.slice a ls.length c) ∧ Below w.heap.size w wr ∧ w.heap.size + 1 ≤ wr.heap.size) (fun _ i _ => ls.length - (intOf i).toNat)
  case atStart => exact ⟨0, Nat.zero_le _, rfl, rfl, Lb.new w _ _, (h.ex (Nat.le_refl _)).alloc _, bl_a1 w _, by simp⟩
  case round =>
    obtain ⟨j, hj, rfl, rfl, L0, hr, hB, hsz⟩ := hrel
    have HL0 := Lib.hid L0; have HB := Lib.hid hB
    clear L0 hB
    by_cases hlt : j < ls.length
    · obtain ⟨a0, c0, e0, hm, hat⟩ := pts_at hr
      obtain ⟨rfl, _, rfl⟩ := Value.slice.inj e0
      obtain ⟨b, off, rfl, hSb, hb, k0, k1, k2, k3, k4, k5⟩ := hat j hlt
      have Hst := Lib.hid (preT_step ls (·.c.t) j hlt)
      have Hr := Lib.hid hr
      clear hat e0 hr hT
      go_wp2_with fail
      refine (c142 _ _ _ _ _ _ _).mono ?_
      rintro e w1 ⟨rfl, hb2'⟩
      have hb2 := (bl_a1 wr _).trans (hb2'.mono (by simp))
      have HL0' := Lib.hid (HL0.out.blw hb2); have HB' := Lib.hid (HB.out.trans (hb2.mono (by omega))); have Hr' := Lib.hid (Hr.out.blw hb2)
      have hsz2 : w.heap.size + 1 ≤ w1.heap.size := Nat.le_trans hsz hb2.size
      clear hb2 hb2' k0 k1 k2 k3 k4 k5 hb
      go_wp2_with fail
      go_roundw
      case rel => exact ⟨j + 1, by omega, by go_num, by rw [Hst.out]; rfl, HL0'.out, Hr'.out, HB'.out, hsz2⟩
      case measure => simp [intOf]; omega
    · obtain rfl : j = ls.length := by omega
      have hdl : decide (((ls.length : Nat) : Int) < ls.length) = false := by simp
      have Hr := Lib.hid hr
      rw [preT_all _ _ (by simp)]
      clear hr h
      go_wp2_with fail
      refine (H141.out (Ex S w.heap.size) wr (Ex.up hS (by omega) (by omega)) Hr.out).mono ?_
      rintro e w1 ⟨a', c', rfl, hr2, hb1⟩
      have L1 := HL0.out.blw hb1
      have HB2 := Lib.hid (HB.out.trans (hb1.mono (by omega)))
      obtain ⟨k1, f1, lt1⟩ := L1.use
      have Hr2 := Lib.hid hr2
      clear hb1 L1 H141 hr2
      go_wp2_with fail
      refine bodyPost_ret (v := .agg #[.slice a' ls.length c', .int .u8 (foldT (ls.map (·.c.t)))]) (by simp [results, Tryz.results96, go_sem, k1]) rfl ⟨_, _, rfl, ?_, ?_⟩
      · refine Rd.unex (L := w.heap.size) ?_
        have hz := Hr2.out
        rw [List.map_map] at hz ⊢
        repeat (with_reducible first | refine Rd.set ?_ _ _ | exact hz)
      · repeat (with_reducible first | refine Below.setCell ?_ (by simp) _ | exact HB2.out)
end Go.Proofs.YtahnhhkbdgaidaaGreatDoor
namespace Go.Proofs.YtahnhhkbdgaidaaGreatDoor
open Go.RowKit
/-- The parts of the right kind. -/
def partsOf {α : Type} (c : Bool) (kk : Int) (mk : G → α) (ks : List G) : List α := ks.filterMap fun g => if c && g.kind == kk then some (mk g) else none
theorem partsOf_step {α : Type} (c : Bool) (kk : Int) (mk : G → α) (ks : List G) (j : Nat) (h : j < ks.length) :
    partsOf c kk mk (ks.take (j + 1)) = partsOf c kk mk (ks.take j) ++ (if c && (ks[j]).kind == kk then [mk ks[j]] else []) := by
  unfold partsOf
  rw [List.take_succ_eq_append_getElem h, List.filterMap_append]
  congr 1
  simp only [List.filterMap_cons, List.filterMap_nil]
  split <;> simp_all
theorem partsOf_len {α : Type} (c : Bool) (kk : Int) (mk : G → α) (ks : List G) : (partsOf c kk mk ks).length ≤ ks.length := List.length_filterMap_le _ _
theorem partsOf_fun {α : Type} (k kk kid : Int) (mk : G → α) (ks : List G) (hlen : ks.length ≤ 1000000) : ∃ Ps : Nat → List α, Hid (Ps 0 = []) ∧ Hid (∀ j (h : j < ks.length), k = kk → (ks[j]).kind = kid → Ps (j + 1) = Ps j ++ [mk ks[j]]) ∧
    Hid (∀ j (h : j < ks.length), ¬ (k = kk ∧ (ks[j]).kind = kid) → Ps (j + 1) = Ps j) ∧ (∀ j, (Ps j).length ≤ 1000000) ∧ Hid (Ps ks.length = partsOf (k == kk) kid mk ks) :=
  ⟨fun j => partsOf (k == kk) kid mk (ks.take j), by simp [Hid, partsOf], fun j h h1 h2 => (partsOf_step _ _ _ _ _ h).trans (by rw [if_pos (by simp [h1, h2])]),
    fun j h hn => (partsOf_step _ _ _ _ _ h).trans (by rw [if_neg (by simpa using hn), List.append_nil]), fun j => Nat.le_trans (partsOf_len _ _ _ _) (by simp; omega), by simp [Hid]⟩
theorem partsOf_mem {α : Type} {c : Bool} {kk : Int} {mk : G → α} {ks : List G} {x : α} (h : x ∈ partsOf c kk mk ks) : ∃ g ∈ ks, x = mk g := by
  unfold partsOf at h
  obtain ⟨g, hg, e⟩ := List.mem_filterMap.1 h
  split at e
  · exact ⟨g, hg, (Option.some.inj e).symm⟩
  · cases e
/-- What was there when a call began. -/
def Old (S : Nat → Prop) (n : Nat) : Nat → Prop := fun k => S k ∧ k < n
theorem Rd.old {S : Nat → Prop} {w : World} {f : F} {v : Value} (h : Rd S w f v) : Rd (Old S w.heap.size) w f v := h.mono fun _ hb hS => ⟨hS, hb⟩
mutual
/-- No list is too long. -/
def G.ok : G → Prop
  | .mk _ _ ns ks => ns.length ≤ 1000000 ∧ ks.length ≤ 1000000 ∧ G.okL ks
def G.okL : List G → Prop
  | [] => True
  | g :: r => g.ok ∧ G.okL r
end
theorem G.okL_mem : ∀ {l : List G}, G.okL l → ∀ g ∈ l, g.ok
  | [], _, _, h => by cases h
  | a :: r, hl, g, h => by
    simp only [G.okL] at hl
    rcases List.mem_cons.1 h with rfl | h
    · exact hl.1
    · exact G.okL_mem hl.2 g h
theorem G.ok_eq (g : G) : g.ok = (g.nums.length ≤ 1000000 ∧ g.kids.length ≤ 1000000 ∧ G.okL g.kids) := by cases g; simp [G.ok, G.nums, G.kids]
theorem seqX_ok (t : Int) (ns : List Nat) (h0 : 0 ≤ t) (h1 : t ≤ 3) (hn : ns.length ≤ 1000000) : (⟨t, seqX t ns⟩ : Ln).ok := by
  have hd := dN_bd t
  have hl : (seqX t ns).length = ns.length - ns.length % dN t := by unfold seqX; simp
  refine ⟨h0, h1, ?_, ?_⟩
  · show (seqX t ns).length % dN t = 0
    rw [hl]; exact Nat.mod_eq_zero_of_dvd (Nat.dvd_sub_mod _)
  · show (seqX t ns).length / dN t ≤ 1000000
    exact Nat.le_trans (Nat.div_le_self _ _) (by omega)
theorem lineOf_ok (k d : Int) (ns : List Nat) (hn : ns.length ≤ 1000000) : (lineOf k d ns).ok := by
  unfold lineOf
  split
  · exact seqX_ok _ _ (by omega) (by omega) hn
  · have := seqX_ok (d % 4) [] (by omega) (by omega) (by simp)
    simpa [seqX] using this
theorem pointOf_ok (k d : Int) (ns : List Nat) : (pointOf k d ns).ok := by
  unfold pointOf
  split
  · exact ⟨by simp [crdOf]; omega, by simp [crdOf]; omega⟩
  · exact ⟨by simp [emptyPt]; omega, by simp [emptyPt]; omega⟩
def lineG (g : G) : Ln := lineOf g.kind g.dim g.nums
def pointG (g : G) : Pt := pointOf g.kind g.dim g.nums
def lnT (l : Ln) : Int := l.t
def ptT (l : Pt) : Int := l.c.t
def pgT (l : Pg) : Int := l.t
/-- Parts brought to their lowest common type; without parts a type of its own. -/
def joined {α : Type} (tOf : α → Int) (force : α → Int → α) (d : Int) (l : List α) : List α × Int :=
  if l.length = 0 then ([], d % 4) else (l.map (force · (foldT (l.map tOf))), foldT (l.map tOf))
def ringsOf (k d : Int) (ks : List G) : Pg :=
  ⟨(joined lnT Ln.force d (partsOf (k == 3) 2 lineG ks)).1, (joined lnT Ln.force d (partsOf (k == 3) 2 lineG ks)).2⟩
def polyG (g : G) : Pg := ringsOf g.kind g.dim g.kids
set_option maxRecDepth 100000 in
set_option maxHeartbeats 4000000 in
theorem c39 (S : Nat → Prop) (k d : Int) (ks : List G) (an : Option Addr) (ln cn : Nat) (vk : Value) (w : World) (hlen : ks.length ≤ 1000000) (hgok : G.okL ks) (hS : ∀ b, w.heap.size ≤ b → S b)
    (h : Rd S w (.list (G.fsL ks)) vk) :
    Calls Tryz.prog 39 #[.agg #[.int .i64 k, .int .i64 d, .slice an ln cn, vk]] w fun e w' => ∃ a' c', e = .returned (.agg #[.slice a' (joined lnT Ln.force d (partsOf (k == 3) 2 lineG ks)).1.length c', .int .u8 (joined lnT Ln.force d (partsOf (k == 3) 2 lineG ks)).2]) ∧
      Rd S w' (.list ((joined lnT Ln.force d (partsOf (k == 3) 2 lineG ks)).1.map Ln.fs)) (.slice a' (joined lnT Ln.force d (partsOf (k == 3) 2 lineG ks)).1.length c') ∧ Below w.heap.size w w' := by
  have hsf := st_float
  obtain ⟨ak, ck, rfl⟩ := kids_shape h
  have hokp : ∀ l ∈ partsOf (k == 3) 2 lineG ks, l.ok := fun l hl => by
    obtain ⟨g, hg, rfl⟩ := partsOf_mem hl
    have hgk := G.okL_mem hgok g hg
    rw [G.ok_eq] at hgk
    exact lineOf_ok _ _ _ hgk.1
  have Hokp := Lib.hid hokp; clear hokp
  obtain ⟨Ps, HP0, HPt, HPf, HPl, HPn⟩ := partsOf_fun k 3 2 lineG ks hlen
  go_enter Tryz.func39, Tryz.ntmps39
  go_wp2_with fail
  go_loopw [3, 9] (fun v i wr => ∃ j : Nat, j ≤ ks.length ∧ i = .int .i64 j ∧ Row (Ex S (w.heap.size + 1)) (w.heap.size + 2) wr 69 2 v ((Ps j).map Ln.fs) ∧
      Lb wr w.heap.size #[.int .i64 k, .int .i64 d, .slice an ln cn, .slice ak ks.length ck] 25 ∧ Lb wr (w.heap.size + 1) #[.slice none 0 0, .int .u8 0] 73 ∧ Rd (Old S w.heap.size) wr (.list (G.fsL ks)) (.slice ak ks.length ck) ∧ Below w.heap.size w wr) (fun _ i _ => ks.length - (intOf i).toNat)
  case atStart => exact ⟨0, Nat.zero_le _, rfl, by rw [HP0.out]; exact Row.nil _ _ _ _ _, Lb.new' w _ _ _, Lb.new2 w _ _ _, (h.old.alloc _).alloc _, bl_a2 w _ _⟩
  case round =>
    obtain ⟨j, hj, rfl, hR, L0, L1, hr, hB⟩ := hrel
    have hsz : w.heap.size + 2 ≤ wr.heap.size := L1.use.2.2
    obtain ⟨av, cv, hv⟩ := hR.shape
    rw [List.length_map] at hv
    subst hv
    have hlp := HPl j
    have HR := Lib.hid hR; have HL0 := Lib.hid L0; have HL1 := Lib.hid L1; have HB := Lib.hid hB
    obtain ⟨k0, _, lt0⟩ := L0.use
    clear hR L0 L1 hB
    by_cases hlt : j < ks.length
    · obtain ⟨a0, c0, e0, hm, hat⟩ := kids_inv hr
      obtain ⟨rfl, _, rfl⟩ := Value.slice.inj e0
      obtain ⟨b, off, vn', vk', rfl, hSb, hb, q0, q1, q2, q3, r2, r3⟩ := hat j hlt
      obtain ⟨an', cn', rfl⟩ := fl_shape r2
      obtain ⟨ak', ck', rfl⟩ := kids_shape r3
      have Hgk : Hid ((ks[j]).ok) := Lib.hid (G.okL_mem hgok _ (List.getElem_mem hlt))
      have Hr := Lib.hid hr; have Hr2 := Lib.hid r2; have Hr3 := Lib.hid r3
      clear hat e0 hr r2 r3
      by_cases hc : k = 3
      · by_cases hc2 : (ks[j]).kind = 2
        · have hkd : (ks[j]).kind = 2 := hc2
          have Hst := Lib.hid (HPt.out j hlt hc hc2)
          have hb1 : (k == 3) = true := by simpa using hc
          have hb2 : ((ks[j]).kind == 2) = true := by simpa using hc2
          have Hkd := Lib.hid hkd; have Hck := Lib.hid hc
          clear hkd hc hc2
          have Hup : Hid (∀ b, wr.heap.size + 1 ≤ b → Sm (Ex S (w.heap.size + 1)) (.slice av (Ps j).length cv) b) := Lib.hid fun b hb => ⟨⟨hS b (by omega), by omega⟩, fun e => by have := HR.out.lt b e.symm; omega⟩
          have Hdn : Hid (∀ b, b < wr.heap.size → Old S w.heap.size b → Sm (Ex S (w.heap.size + 1)) (.slice av (Ps j).length cv) b) := Lib.hid fun b hb ho => ⟨⟨ho.1, by have := ho.2; omega⟩, fun e => by have := HR.out.lt b e.symm; have := ho.2; omega⟩
          have H := Lib.hid fun (w1 : World) => c37 (Sm (Ex S (w.heap.size + 1)) (.slice av (Ps j).length cv)) (ks[j]).kind (ks[j]).dim (ks[j]).nums (.slice an' (ks[j]).nums.length cn') ak' (ks[j]).kids.length ck' w1
          go_wp2_with fail
          refine (H.out _ (fun b hb => Hup.out b (by simpa using hb)) ((Hr2.out.mono Hdn.out).alloc _)).mono ?_
          rintro e w1 ⟨a2, c2, rfl, hr2, hb1'⟩
          have hbb := (bl_a1 wr _).trans (hb1'.mono (by simp))
          have hR1 := HR.out.step hbb
          obtain ⟨v2, w2, hap, ⟨a3, c3, rfl⟩, hR2, hg⟩ := app_one (P := Tryz.prog) 71 69 2 32 _ Tryz.underlying71 info69 rfl (by omega) (by omega) hR1 (lineG ks[j]).fs rfl #[.int .u8 (lineOf (ks[j]).kind (ks[j]).dim (ks[j]).nums).t, .slice a2 (lineOf (ks[j]).kind (ks[j]).dim (ks[j]).nums).xs.length c2] rfl (by simp [Value.oneCell']) (by
            intro jj hjj
            have hjc : jj = 0 ∨ jj = 1 := by have : (lineG ks[j]).fs.length = 2 := rfl; omega
            rcases hjc with rfl | rfl
            · exact ⟨_, rfl, .atom _⟩
            · exact ⟨_, rfl, hr2⟩) (by rw [List.length_map]; omega) (by have := hbb.size; omega)
          rw [List.length_map] at hap
          have hown : ∀ q, (Value.slice av (Ps j).length cv).ownBlock = some q → w.heap.size + 2 ≤ q := fun q hq => (hR1.lt q hq).1
          have HL0' := Lib.hid ((HL0.out.blw hbb).grown hg (fun e => by have := hown _ e.symm; omega))
          have HL1' := Lib.hid ((HL1.out.blw hbb).grown hg (fun e => by have := hown _ e.symm; omega))
          have Hr' := Lib.hid ((Hr.out.blw hbb).grown hg (fun q hq e => by have := hown _ e.symm; have := hq.2; omega))
          have HB' := Lib.hid ((HB.out.trans (hbb.mono (by omega))).grown hg (by have := hbb.size; omega) (fun q hq => by have := hown q hq; omega))
          have HR' := Lib.hid hR2
          have Hap := Lib.hid hap
          clear hap hR2 hg hown hR1 hbb hb1' k0 q0 q1 q2 q3
          go_wp2_with (at_builtin; refine wpList_append_eq rfl _ _ 71 rfl rfl rfl rfl Hap.out ?_)
          go_roundw
          case rel =>
            refine ⟨j + 1, by omega, by go_num, ?_, HL0'.out, HL1'.out, Hr'.out, HB'.out⟩
            have e2 : (Ps (j + 1)).map Ln.fs = (Ps j).map Ln.fs ++ [(lineG ks[j]).fs] := by rw [Hst.out, List.map_append]; rfl
            rw [e2]
            have e3 := HR'.out
            rw [List.length_map] at e3
            exact e3
          case measure => simp [intOf]; omega
        · have hb2 : ((ks[j]).kind == 2) = false := by simpa using hc2
          have hb1 : (k == 3) = true := by simpa using hc
          have Hst := Lib.hid (HPf.out j hlt (fun h => hc2 h.2))
          clear hc hc2
          go_wp2_with fail
          go_roundw
          case rel =>
            refine ⟨j + 1, by omega, by go_num, ?_, HL0.out.alloc _, HL1.out.alloc _, Hr.out.alloc _, HB.out.alloc (by omega) _⟩
            rw [Hst.out]
            exact HR.out.alloc _
          case measure => simp [intOf]; omega
      · have hb1 : (k == 3) = false := by simpa using hc
        have Hst := Lib.hid (HPf.out j hlt (fun h => hc h.1))
        clear hc
        go_wp2_with fail
        go_roundw
        case rel =>
          refine ⟨j + 1, by omega, by go_num, ?_, HL0.out.alloc _, HL1.out.alloc _, Hr.out.alloc _, HB.out.alloc (by omega) _⟩
          rw [Hst.out]
          exact HR.out.alloc _
        case measure => simp [intOf]; omega
    · obtain rfl : j = ks.length := by omega
      have hdl : decide (((ks.length : Nat) : Int) < ks.length) = false := by simp
      generalize Ps ks.length = Q at *
      have Hokq : Hid (∀ l ∈ Q, l.ok) := Lib.hid (by rw [HPn.out]; exact Hokp.out)
      obtain ⟨k1', f1', lt1'⟩ := HL1.out.use
      clear hr h
      by_cases hq : Q.length = 0
      · have hq0 : Q = [] := List.eq_nil_of_length_eq_zero hq
        have HJ : Hid (joined lnT Ln.force d (partsOf (k == 3) 2 lineG ks) = ([], d % 4)) := Lib.hid (by rw [← HPn.out, hq0]; simp [joined])
        have hz : ((Q.length : Int) == 0) = true := by rw [hq]; rfl
        clear hq0 hq k1' f1' lt1'
        go_wp2_with (go_at_call 49; refine (c49 _ _).mono ?_; rintro e w' ⟨rfl, rfl⟩)
        refine (c91 (Ex S (w.heap.size + 1)) [] 0 (d % 4) none 0 wr (by simp) (by omega) (by omega) (by simp) (Ex.up hS (by omega) (by omega)) (Rd.nil _ _)).mono ?_
        rintro e w1 ⟨a', c', rfl, hr2, hb1⟩
        have L1 := HL1.out.blw hb1
        have HB2 := Lib.hid (HB.out.trans (hb1.mono (by omega)))
        obtain ⟨k1, f1, lt1⟩ := L1.use
        have Hr2 := Lib.hid hr2
        clear hb1 L1 hr2
        go_wp2_with fail
        rw [HJ.out]
        refine bodyPost_ret (v := .agg #[.slice a' ([] : List Ln).length c', .int .u8 (d % 4)]) (by simp [results, Tryz.results39, go_sem, k1]) rfl ⟨_, _, rfl, ?_, ?_⟩
        · refine Rd.unex (L := w.heap.size + 1) ?_
          have hz : Rd (Ex S (w.heap.size + 1)) w1 (.list []) (.slice a' 0 c') := by simpa using Hr2.out
          simp only [List.map_nil, List.length_nil]
          repeat (with_reducible first | refine Rd.set ?_ _ _ | exact hz)
        · repeat (with_reducible first | refine Below.setCell ?_ (by simp) _ | exact HB2.out)
      · have HJ : Hid (joined lnT Ln.force d (partsOf (k == 3) 2 lineG ks) = (Q.map (Ln.force · (foldT (Q.map lnT))), foldT (Q.map lnT))) := Lib.hid (by rw [← HPn.out]; simp [joined, hq])
        have hz : ((Q.length : Int) == 0) = false := by rw [beq_eq_false_iff_ne]; omega
        have H := Lib.hid fun (S : Nat → Prop) (w1 : World) (hS : ∀ b, w1.heap.size ≤ b → S b) (h : Rd S w1 (.list (Q.map Ln.fs)) (.slice av Q.length cv)) =>
          (show Calls Tryz.prog 92 _ w1 (fun e w' => ∃ a' c', e = .returned (.agg #[.slice a' Q.length c', .int .u8 (foldT (Q.map lnT))]) ∧ Rd S w' (.list ((Q.map (Ln.force · (foldT (Q.map lnT)))).map Ln.fs)) (.slice a' Q.length c') ∧ Below w1.heap.size w1 w') from c92 S Q av cv w1 Hokq.out (by omega) hlp hS h)
        have Hrd := Lib.hid (HR.out.rd (by omega) (Ex.up hS (by omega) (by omega)) (by rw [List.length_map]; omega))
        have hq' : 0 < Q.length := by omega
        clear hq k1' f1' lt1'
        go_wp2_with fail
        refine (H.out (Ex S (w.heap.size + 1)) wr (Ex.up hS (by omega) (by omega)) Hrd.out).mono ?_
        rintro e w1 ⟨a', c', rfl, hr2, hb1⟩
        have L1 := HL1.out.blw hb1
        have HB2 := Lib.hid (HB.out.trans (hb1.mono (by omega)))
        obtain ⟨k1, f1, lt1⟩ := L1.use
        have Hr2 := Lib.hid hr2
        clear hb1 L1 hr2 H Hrd
        go_wp2_with fail
        rw [HJ.out]
        refine bodyPost_ret (v := .agg #[.slice a' Q.length c', .int .u8 (foldT (Q.map lnT))]) (by simp [results, Tryz.results39, go_sem, k1]) rfl ⟨a', c', by rw [List.length_map], ?_, ?_⟩
        · simp only [List.length_map]
          refine Rd.unex (L := w.heap.size + 1) ?_
          have hz := Hr2.out
          repeat (with_reducible first | refine Rd.set ?_ _ _ | exact hz)
        · repeat (with_reducible first | refine Below.setCell ?_ (by simp) _ | exact HB2.out)
theorem c39' (S : Nat → Prop) (k d : Int) (ks : List G) (an : Option Addr) (ln cn : Nat) (vk : Value) (w : World) (hlen : ks.length ≤ 1000000) (hgok : G.okL ks) (hS : ∀ b, w.heap.size ≤ b → S b) (h : Rd S w (.list (G.fsL ks)) vk) :
    Calls Tryz.prog 39 #[.agg #[.int .i64 k, .int .i64 d, .slice an ln cn, vk]] w fun e w' => ∃ a' c', e = .returned (.agg #[.slice a' (ringsOf k d ks).rings.length c', .int .u8 (ringsOf k d ks).t]) ∧
      Rd S w' (.list ((ringsOf k d ks).rings.map Ln.fs)) (.slice a' (ringsOf k d ks).rings.length c') ∧ Below w.heap.size w w' := c39 S k d ks an ln cn vk w hlen hgok hS h
theorem forceX_len (t t' : Int) (xs : List Nat) (hm : xs.length % dN t = 0) (g0 : 0 ≤ t') (g1 : t' ≤ 3) : (forceX t t' xs).length = xs.length / dN t * dN t' := by
  unfold forceX
  split
  · next h => subst h; have := Nat.div_add_mod xs.length (dN t); rw [hm] at this; rw [Nat.mul_comm]; omega
  · refine flat_len _ _ _ fun i => ?_
    rcases four t' g0 g1 with rfl | rfl | rfl | rfl <;> simp [crdNums, dN, dimN]
theorem Ln.force_ok (l : Ln) (t' : Int) (h : l.ok) (g0 : 0 ≤ t') (g1 : t' ≤ 3) : (l.force t').ok := by
  have hl := forceX_len l.t t' l.xs h.2.2.1 g0 g1
  have hd := dN_bd t'
  refine ⟨g0, g1, ?_, ?_⟩
  · show (forceX l.t t' l.xs).length % dN t' = 0
    rw [hl]; exact Nat.mul_mod_left _ _
  · show (forceX l.t t' l.xs).length / dN t' ≤ 1000000
    rw [hl, Nat.mul_div_cancel _ (by omega)]; exact h.2.2.2
theorem ringsOf_ok (k d : Int) (ks : List G) (hok : G.okL ks) (hlen : ks.length ≤ 1000000) : (ringsOf k d ks).ok := by
  have hp : ∀ l ∈ partsOf (k == 3) 2 lineG ks, l.ok := fun l hl => by
    obtain ⟨g, hg, rfl⟩ := partsOf_mem hl
    have := G.okL_mem hok g hg
    rw [G.ok_eq] at this
    exact lineOf_ok _ _ _ this.1
  have hpl := partsOf_len (k == 3) 2 lineG ks
  have hT := foldT_bd ((partsOf (k == 3) 2 lineG ks).map lnT) (fun t ht => by obtain ⟨l, hl, rfl⟩ := List.mem_map.1 ht; exact ⟨(hp l hl).1, (hp l hl).2.1⟩)
  unfold ringsOf joined
  split
  · exact ⟨by simp, by simp, by simp; omega, by simp; omega⟩
  · refine ⟨fun l hl => ?_, by simp; omega, hT.1, hT.2⟩
    obtain ⟨l', hl', rfl⟩ := List.mem_map.1 hl
    exact l'.force_ok _ (hp l' hl') hT.1 hT.2
set_option maxRecDepth 100000 in
set_option maxHeartbeats 4000000 in
theorem c41 (S : Nat → Prop) (k d : Int) (ks : List G) (an : Option Addr) (ln cn : Nat) (vk : Value) (w : World) (hlen : ks.length ≤ 1000000) (hgok : G.okL ks) (hS : ∀ b, w.heap.size ≤ b → S b)
    (h : Rd S w (.list (G.fsL ks)) vk) :
    Calls Tryz.prog 41 #[.agg #[.int .i64 k, .int .i64 d, .slice an ln cn, vk]] w fun e w' => ∃ a' c', e = .returned (.agg #[.slice a' (joined ptT Pt.force d (partsOf (k == 4) 1 pointG ks)).1.length c', .int .u8 (joined ptT Pt.force d (partsOf (k == 4) 1 pointG ks)).2]) ∧
      Rd S w' (.list ((joined ptT Pt.force d (partsOf (k == 4) 1 pointG ks)).1.map Pt.fs)) (.slice a' (joined ptT Pt.force d (partsOf (k == 4) 1 pointG ks)).1.length c') ∧ Below w.heap.size w w' := by
  have hsf := st_float
  obtain ⟨ak, ck, rfl⟩ := kids_shape h
  have hokp : ∀ l ∈ partsOf (k == 4) 1 pointG ks, l.ok := fun l hl => by
    obtain ⟨g, hg, rfl⟩ := partsOf_mem hl
    have hgk := G.okL_mem hgok g hg
    rw [G.ok_eq] at hgk
    exact pointOf_ok _ _ _
  have Hokp := Lib.hid hokp; clear hokp
  obtain ⟨Ps, HP0, HPt, HPf, HPl, HPn⟩ := partsOf_fun k 4 1 pointG ks hlen
  go_enter Tryz.func41, Tryz.ntmps41
  go_wp2_with fail
  go_loopw [3, 9] (fun v i wr => ∃ j : Nat, j ≤ ks.length ∧ i = .int .i64 j ∧ Row (Ex S (w.heap.size + 1)) (w.heap.size + 2) wr 63 6 v ((Ps j).map Pt.fs) ∧
      Lb wr w.heap.size #[.int .i64 k, .int .i64 d, .slice an ln cn, .slice ak ks.length ck] 25 ∧ Lb wr (w.heap.size + 1) #[.slice none 0 0, .int .u8 0] 77 ∧ Rd (Old S w.heap.size) wr (.list (G.fsL ks)) (.slice ak ks.length ck) ∧ Below w.heap.size w wr) (fun _ i _ => ks.length - (intOf i).toNat)
  case atStart => exact ⟨0, Nat.zero_le _, rfl, by rw [HP0.out]; exact Row.nil _ _ _ _ _, Lb.new' w _ _ _, Lb.new2 w _ _ _, (h.old.alloc _).alloc _, bl_a2 w _ _⟩
  case round =>
    obtain ⟨j, hj, rfl, hR, L0, L1, hr, hB⟩ := hrel
    have hsz : w.heap.size + 2 ≤ wr.heap.size := L1.use.2.2
    obtain ⟨av, cv, hv⟩ := hR.shape
    rw [List.length_map] at hv
    subst hv
    have hlp := HPl j
    have HR := Lib.hid hR; have HL0 := Lib.hid L0; have HL1 := Lib.hid L1; have HB := Lib.hid hB
    obtain ⟨k0, _, lt0⟩ := L0.use
    clear hR L0 L1 hB
    by_cases hlt : j < ks.length
    · obtain ⟨a0, c0, e0, hm, hat⟩ := kids_inv hr
      obtain ⟨rfl, _, rfl⟩ := Value.slice.inj e0
      obtain ⟨b, off, vn', vk', rfl, hSb, hb, q0, q1, q2, q3, r2, r3⟩ := hat j hlt
      obtain ⟨an', cn', rfl⟩ := fl_shape r2
      obtain ⟨ak', ck', rfl⟩ := kids_shape r3
      have Hgk : Hid ((ks[j]).ok) := Lib.hid (G.okL_mem hgok _ (List.getElem_mem hlt))
      have Hr := Lib.hid hr; have Hr2 := Lib.hid r2; have Hr3 := Lib.hid r3
      clear hat e0 hr r2 r3
      by_cases hc : k = 4
      · by_cases hc2 : (ks[j]).kind = 1
        · have hkd : (ks[j]).kind = 1 := hc2
          have Hst := Lib.hid (HPt.out j hlt hc hc2)
          have hb1 : (k == 4) = true := by simpa using hc
          have hb2 : ((ks[j]).kind == 1) = true := by simpa using hc2
          have Hkd := Lib.hid hkd; have Hck := Lib.hid hc
          clear hkd hc hc2
          have Hup : Hid (∀ b, wr.heap.size + 1 ≤ b → Sm (Ex S (w.heap.size + 1)) (.slice av (Ps j).length cv) b) := Lib.hid fun b hb => ⟨⟨hS b (by omega), by omega⟩, fun e => by have := HR.out.lt b e.symm; omega⟩
          have Hdn : Hid (∀ b, b < wr.heap.size → Old S w.heap.size b → Sm (Ex S (w.heap.size + 1)) (.slice av (Ps j).length cv) b) := Lib.hid fun b hb ho => ⟨⟨ho.1, by have := ho.2; omega⟩, fun e => by have := HR.out.lt b e.symm; have := ho.2; omega⟩
          have H := Lib.hid fun (w1 : World) => c35 (Sm (Ex S (w.heap.size + 1)) (.slice av (Ps j).length cv)) (ks[j]).kind (ks[j]).dim (ks[j]).nums (.slice an' (ks[j]).nums.length cn') ak' (ks[j]).kids.length ck' w1
          go_wp2_with fail
          refine (H.out _ (fun b hb => Hup.out b (by simpa using hb)) ((Hr2.out.mono Hdn.out).alloc _)).mono ?_
          rintro e w1 ⟨rfl, hb1'⟩
          simp only [Pt.cells]
          have hbb := (bl_a1 wr _).trans (hb1'.mono (by simp))
          have hR1 := HR.out.step hbb
          obtain ⟨v2, w2, hap, ⟨a3, c3, rfl⟩, hR2, hg⟩ := app_one (P := Tryz.prog) 75 63 6 48 _ Tryz.underlying75 info63 rfl (by omega) (by omega) hR1 (pointG ks[j]).fs rfl #[.float .f64 (pointOf (ks[j]).kind (ks[j]).dim (ks[j]).nums).c.x, .float .f64 (pointOf (ks[j]).kind (ks[j]).dim (ks[j]).nums).c.y, .float .f64 (pointOf (ks[j]).kind (ks[j]).dim (ks[j]).nums).c.z, .float .f64 (pointOf (ks[j]).kind (ks[j]).dim (ks[j]).nums).c.m, .int .u8 (pointOf (ks[j]).kind (ks[j]).dim (ks[j]).nums).c.t, .bool (pointOf (ks[j]).kind (ks[j]).dim (ks[j]).nums).full] rfl (by simp [Value.oneCell']) (by
            intro jj hjj
            have hjc : jj = 0 ∨ jj = 1 ∨ jj = 2 ∨ jj = 3 ∨ jj = 4 ∨ jj = 5 := by have : (pointG ks[j]).fs.length = 6 := rfl; omega
            rcases hjc with rfl | rfl | rfl | rfl | rfl | rfl <;> exact ⟨_, rfl, .atom _⟩) (by rw [List.length_map]; omega) (by have := hbb.size; omega)
          rw [List.length_map] at hap
          have hown : ∀ q, (Value.slice av (Ps j).length cv).ownBlock = some q → w.heap.size + 2 ≤ q := fun q hq => (hR1.lt q hq).1
          have HL0' := Lib.hid ((HL0.out.blw hbb).grown hg (fun e => by have := hown _ e.symm; omega))
          have HL1' := Lib.hid ((HL1.out.blw hbb).grown hg (fun e => by have := hown _ e.symm; omega))
          have Hr' := Lib.hid ((Hr.out.blw hbb).grown hg (fun q hq e => by have := hown _ e.symm; have := hq.2; omega))
          have HB' := Lib.hid ((HB.out.trans (hbb.mono (by omega))).grown hg (by have := hbb.size; omega) (fun q hq => by have := hown q hq; omega))
          have HR' := Lib.hid hR2
          have Hap := Lib.hid hap
          clear hap hR2 hg hown hR1 hbb hb1' k0 q0 q1 q2 q3
          go_wp2_with (at_builtin; refine wpList_append_eq rfl _ _ 75 rfl rfl rfl rfl Hap.out ?_)
          go_roundw
          case rel =>
            refine ⟨j + 1, by omega, by go_num, ?_, HL0'.out, HL1'.out, Hr'.out, HB'.out⟩
            have e2 : (Ps (j + 1)).map Pt.fs = (Ps j).map Pt.fs ++ [(pointG ks[j]).fs] := by rw [Hst.out, List.map_append]; rfl
            rw [e2]
            have e3 := HR'.out
            rw [List.length_map] at e3
            exact e3
          case measure => simp [intOf]; omega
        · have hb2 : ((ks[j]).kind == 1) = false := by simpa using hc2
          have hb1 : (k == 4) = true := by simpa using hc
          have Hst := Lib.hid (HPf.out j hlt (fun h => hc2 h.2))
          clear hc hc2
          go_wp2_with fail
          go_roundw
          case rel =>
            refine ⟨j + 1, by omega, by go_num, ?_, HL0.out.alloc _, HL1.out.alloc _, Hr.out.alloc _, HB.out.alloc (by omega) _⟩
            rw [Hst.out]
            exact HR.out.alloc _
          case measure => simp [intOf]; omega
      · have hb1 : (k == 4) = false := by simpa using hc
        have Hst := Lib.hid (HPf.out j hlt (fun h => hc h.1))
        clear hc
        go_wp2_with fail
        go_roundw
        case rel =>
          refine ⟨j + 1, by omega, by go_num, ?_, HL0.out.alloc _, HL1.out.alloc _, Hr.out.alloc _, HB.out.alloc (by omega) _⟩
          rw [Hst.out]
          exact HR.out.alloc _
        case measure => simp [intOf]; omega
    · obtain rfl : j = ks.length := by omega
      have hdl : decide (((ks.length : Nat) : Int) < ks.length) = false := by simp
      generalize Ps ks.length = Q at *
      have Hokq : Hid (∀ l ∈ Q, l.ok) := Lib.hid (by rw [HPn.out]; exact Hokp.out)
      obtain ⟨k1', f1', lt1'⟩ := HL1.out.use
      clear hr h
      by_cases hq : Q.length = 0
      · have hq0 : Q = [] := List.eq_nil_of_length_eq_zero hq
        have HJ : Hid (joined ptT Pt.force d (partsOf (k == 4) 1 pointG ks) = ([], d % 4)) := Lib.hid (by rw [← HPn.out, hq0]; simp [joined])
        have hz : ((Q.length : Int) == 0) = true := by rw [hq]; rfl
        clear hq0 hq k1' f1' lt1'
        go_wp2_with (go_at_call 49; refine (c49 _ _).mono ?_; rintro e w' ⟨rfl, rfl⟩)
        refine (c95 (Ex S (w.heap.size + 1)) [] 0 (d % 4) none 0 wr (by simp) (by omega) (by omega) (by simp) (Ex.up hS (by omega) (by omega)) (Rd.nil _ _)).mono ?_
        rintro e w1 ⟨a', c', rfl, hr2, hb1⟩
        have L1 := HL1.out.blw hb1
        have HB2 := Lib.hid (HB.out.trans (hb1.mono (by omega)))
        obtain ⟨k1, f1, lt1⟩ := L1.use
        have Hr2 := Lib.hid hr2
        clear hb1 L1 hr2
        go_wp2_with fail
        rw [HJ.out]
        refine bodyPost_ret (v := .agg #[.slice a' ([] : List Pt).length c', .int .u8 (d % 4)]) (by simp [results, Tryz.results41, go_sem, k1]) rfl ⟨_, _, rfl, ?_, ?_⟩
        · refine Rd.unex (L := w.heap.size + 1) ?_
          have hz : Rd (Ex S (w.heap.size + 1)) w1 (.list []) (.slice a' 0 c') := by simpa using Hr2.out
          simp only [List.map_nil, List.length_nil]
          repeat (with_reducible first | refine Rd.set ?_ _ _ | exact hz)
        · repeat (with_reducible first | refine Below.setCell ?_ (by simp) _ | exact HB2.out)
      · have HJ : Hid (joined ptT Pt.force d (partsOf (k == 4) 1 pointG ks) = (Q.map (Pt.force · (foldT (Q.map ptT))), foldT (Q.map ptT))) := Lib.hid (by rw [← HPn.out]; simp [joined, hq])
        have hz : ((Q.length : Int) == 0) = false := by rw [beq_eq_false_iff_ne]; omega
        have H := Lib.hid fun (S : Nat → Prop) (w1 : World) (hS : ∀ b, w1.heap.size ≤ b → S b) (h : Rd S w1 (.list (Q.map Pt.fs)) (.slice av Q.length cv)) =>
          (show Calls Tryz.prog 96 _ w1 (fun e w' => ∃ a' c', e = .returned (.agg #[.slice a' Q.length c', .int .u8 (foldT (Q.map ptT))]) ∧ Rd S w' (.list ((Q.map (Pt.force · (foldT (Q.map ptT)))).map Pt.fs)) (.slice a' Q.length c') ∧ Below w1.heap.size w1 w') from c96 S Q av cv w1 Hokq.out (by omega) hlp hS h)
        have Hrd := Lib.hid (HR.out.rd (by omega) (Ex.up hS (by omega) (by omega)) (by rw [List.length_map]; omega))
        have hq' : 0 < Q.length := by omega
        clear hq k1' f1' lt1'
        go_wp2_with fail
        refine (H.out (Ex S (w.heap.size + 1)) wr (Ex.up hS (by omega) (by omega)) Hrd.out).mono ?_
        rintro e w1 ⟨a', c', rfl, hr2, hb1⟩
        have L1 := HL1.out.blw hb1
        have HB2 := Lib.hid (HB.out.trans (hb1.mono (by omega)))
        obtain ⟨k1, f1, lt1⟩ := L1.use
        have Hr2 := Lib.hid hr2
        clear hb1 L1 hr2 H Hrd
        go_wp2_with fail
        rw [HJ.out]
        refine bodyPost_ret (v := .agg #[.slice a' Q.length c', .int .u8 (foldT (Q.map ptT))]) (by simp [results, Tryz.results41, go_sem, k1]) rfl ⟨a', c', by rw [List.length_map], ?_, ?_⟩
        · simp only [List.length_map]
          refine Rd.unex (L := w.heap.size + 1) ?_
          have hz := Hr2.out
          repeat (with_reducible first | refine Rd.set ?_ _ _ | exact hz)
        · repeat (with_reducible first | refine Below.setCell ?_ (by simp) _ | exact HB2.out)
set_option maxRecDepth 100000 in
set_option maxHeartbeats 4000000 in
theorem c43 (S : Nat → Prop) (k d : Int) (ks : List G) (an : Option Addr) (ln cn : Nat) (vk : Value) (w : World) (hlen : ks.length ≤ 1000000) (hgok : G.okL ks) (hS : ∀ b, w.heap.size ≤ b → S b)
    (h : Rd S w (.list (G.fsL ks)) vk) :
    Calls Tryz.prog 43 #[.agg #[.int .i64 k, .int .i64 d, .slice an ln cn, vk]] w fun e w' => ∃ a' c', e = .returned (.agg #[.slice a' (joined lnT Ln.force d (partsOf (k == 5) 2 lineG ks)).1.length c', .int .u8 (joined lnT Ln.force d (partsOf (k == 5) 2 lineG ks)).2]) ∧
      Rd S w' (.list ((joined lnT Ln.force d (partsOf (k == 5) 2 lineG ks)).1.map Ln.fs)) (.slice a' (joined lnT Ln.force d (partsOf (k == 5) 2 lineG ks)).1.length c') ∧ Below w.heap.size w w' := by
  have hsf := st_float
  obtain ⟨ak, ck, rfl⟩ := kids_shape h
  have hokp : ∀ l ∈ partsOf (k == 5) 2 lineG ks, l.ok := fun l hl => by
    obtain ⟨g, hg, rfl⟩ := partsOf_mem hl
    have hgk := G.okL_mem hgok g hg
    rw [G.ok_eq] at hgk
    exact lineOf_ok _ _ _ hgk.1
  have Hokp := Lib.hid hokp; clear hokp
  obtain ⟨Ps, HP0, HPt, HPf, HPl, HPn⟩ := partsOf_fun k 5 2 lineG ks hlen
  go_enter Tryz.func43, Tryz.ntmps43
  go_wp2_with fail
  go_loopw [3, 9] (fun v i wr => ∃ j : Nat, j ≤ ks.length ∧ i = .int .i64 j ∧ Row (Ex S (w.heap.size + 1)) (w.heap.size + 2) wr 69 2 v ((Ps j).map Ln.fs) ∧
      Lb wr w.heap.size #[.int .i64 k, .int .i64 d, .slice an ln cn, .slice ak ks.length ck] 25 ∧ Lb wr (w.heap.size + 1) #[.slice none 0 0, .int .u8 0] 80 ∧ Rd (Old S w.heap.size) wr (.list (G.fsL ks)) (.slice ak ks.length ck) ∧ Below w.heap.size w wr) (fun _ i _ => ks.length - (intOf i).toNat)
  case atStart => exact ⟨0, Nat.zero_le _, rfl, by rw [HP0.out]; exact Row.nil _ _ _ _ _, Lb.new' w _ _ _, Lb.new2 w _ _ _, (h.old.alloc _).alloc _, bl_a2 w _ _⟩
  case round =>
    obtain ⟨j, hj, rfl, hR, L0, L1, hr, hB⟩ := hrel
    have hsz : w.heap.size + 2 ≤ wr.heap.size := L1.use.2.2
    obtain ⟨av, cv, hv⟩ := hR.shape
    rw [List.length_map] at hv
    subst hv
    have hlp := HPl j
    have HR := Lib.hid hR; have HL0 := Lib.hid L0; have HL1 := Lib.hid L1; have HB := Lib.hid hB
    obtain ⟨k0, _, lt0⟩ := L0.use
    clear hR L0 L1 hB
    by_cases hlt : j < ks.length
    · obtain ⟨a0, c0, e0, hm, hat⟩ := kids_inv hr
      obtain ⟨rfl, _, rfl⟩ := Value.slice.inj e0
      obtain ⟨b, off, vn', vk', rfl, hSb, hb, q0, q1, q2, q3, r2, r3⟩ := hat j hlt
      obtain ⟨an', cn', rfl⟩ := fl_shape r2
      obtain ⟨ak', ck', rfl⟩ := kids_shape r3
      have Hgk : Hid ((ks[j]).ok) := Lib.hid (G.okL_mem hgok _ (List.getElem_mem hlt))
      have Hr := Lib.hid hr; have Hr2 := Lib.hid r2; have Hr3 := Lib.hid r3
      clear hat e0 hr r2 r3
      by_cases hc : k = 5
      · by_cases hc2 : (ks[j]).kind = 2
        · have hkd : (ks[j]).kind = 2 := hc2
          have Hst := Lib.hid (HPt.out j hlt hc hc2)
          have hb1 : (k == 5) = true := by simpa using hc
          have hb2 : ((ks[j]).kind == 2) = true := by simpa using hc2
          have Hkd := Lib.hid hkd; have Hck := Lib.hid hc
          clear hkd hc hc2
          have Hup : Hid (∀ b, wr.heap.size + 1 ≤ b → Sm (Ex S (w.heap.size + 1)) (.slice av (Ps j).length cv) b) := Lib.hid fun b hb => ⟨⟨hS b (by omega), by omega⟩, fun e => by have := HR.out.lt b e.symm; omega⟩
          have Hdn : Hid (∀ b, b < wr.heap.size → Old S w.heap.size b → Sm (Ex S (w.heap.size + 1)) (.slice av (Ps j).length cv) b) := Lib.hid fun b hb ho => ⟨⟨ho.1, by have := ho.2; omega⟩, fun e => by have := HR.out.lt b e.symm; have := ho.2; omega⟩
          have H := Lib.hid fun (w1 : World) => c37 (Sm (Ex S (w.heap.size + 1)) (.slice av (Ps j).length cv)) (ks[j]).kind (ks[j]).dim (ks[j]).nums (.slice an' (ks[j]).nums.length cn') ak' (ks[j]).kids.length ck' w1
          go_wp2_with fail
          refine (H.out _ (fun b hb => Hup.out b (by simpa using hb)) ((Hr2.out.mono Hdn.out).alloc _)).mono ?_
          rintro e w1 ⟨a2, c2, rfl, hr2, hb1'⟩
          have hbb := (bl_a1 wr _).trans (hb1'.mono (by simp))
          have hR1 := HR.out.step hbb
          obtain ⟨v2, w2, hap, ⟨a3, c3, rfl⟩, hR2, hg⟩ := app_one (P := Tryz.prog) 71 69 2 32 _ Tryz.underlying71 info69 rfl (by omega) (by omega) hR1 (lineG ks[j]).fs rfl #[.int .u8 (lineOf (ks[j]).kind (ks[j]).dim (ks[j]).nums).t, .slice a2 (lineOf (ks[j]).kind (ks[j]).dim (ks[j]).nums).xs.length c2] rfl (by simp [Value.oneCell']) (by
            intro jj hjj
            have hjc : jj = 0 ∨ jj = 1 := by have : (lineG ks[j]).fs.length = 2 := rfl; omega
            rcases hjc with rfl | rfl
            · exact ⟨_, rfl, .atom _⟩
            · exact ⟨_, rfl, hr2⟩) (by rw [List.length_map]; omega) (by have := hbb.size; omega)
          rw [List.length_map] at hap
          have hown : ∀ q, (Value.slice av (Ps j).length cv).ownBlock = some q → w.heap.size + 2 ≤ q := fun q hq => (hR1.lt q hq).1
          have HL0' := Lib.hid ((HL0.out.blw hbb).grown hg (fun e => by have := hown _ e.symm; omega))
          have HL1' := Lib.hid ((HL1.out.blw hbb).grown hg (fun e => by have := hown _ e.symm; omega))
          have Hr' := Lib.hid ((Hr.out.blw hbb).grown hg (fun q hq e => by have := hown _ e.symm; have := hq.2; omega))
          have HB' := Lib.hid ((HB.out.trans (hbb.mono (by omega))).grown hg (by have := hbb.size; omega) (fun q hq => by have := hown q hq; omega))
          have HR' := Lib.hid hR2
          have Hap := Lib.hid hap
          clear hap hR2 hg hown hR1 hbb hb1' k0 q0 q1 q2 q3
          go_wp2_with (at_builtin; refine wpList_append_eq rfl _ _ 71 rfl rfl rfl rfl Hap.out ?_)
          go_roundw
          case rel =>
            refine ⟨j + 1, by omega, by go_num, ?_, HL0'.out, HL1'.out, Hr'.out, HB'.out⟩
            have e2 : (Ps (j + 1)).map Ln.fs = (Ps j).map Ln.fs ++ [(lineG ks[j]).fs] := by rw [Hst.out, List.map_append]; rfl
            rw [e2]
            have e3 := HR'.out
            rw [List.length_map] at e3
            exact e3
          case measure => simp [intOf]; omega
        · have hb2 : ((ks[j]).kind == 2) = false := by simpa using hc2
          have hb1 : (k == 5) = true := by simpa using hc
          have Hst := Lib.hid (HPf.out j hlt (fun h => hc2 h.2))
          clear hc hc2
          go_wp2_with fail
          go_roundw
          case rel =>
            refine ⟨j + 1, by omega, by go_num, ?_, HL0.out.alloc _, HL1.out.alloc _, Hr.out.alloc _, HB.out.alloc (by omega) _⟩
            rw [Hst.out]
            exact HR.out.alloc _
          case measure => simp [intOf]; omega
      · have hb1 : (k == 5) = false := by simpa using hc
        have Hst := Lib.hid (HPf.out j hlt (fun h => hc h.1))
        clear hc
        go_wp2_with fail
        go_roundw
        case rel =>
          refine ⟨j + 1, by omega, by go_num, ?_, HL0.out.alloc _, HL1.out.alloc _, Hr.out.alloc _, HB.out.alloc (by omega) _⟩
          rw [Hst.out]
          exact HR.out.alloc _
        case measure => simp [intOf]; omega
    · obtain rfl : j = ks.length := by omega
      have hdl : decide (((ks.length : Nat) : Int) < ks.length) = false := by simp
      generalize Ps ks.length = Q at *
      have Hokq : Hid (∀ l ∈ Q, l.ok) := Lib.hid (by rw [HPn.out]; exact Hokp.out)
      obtain ⟨k1', f1', lt1'⟩ := HL1.out.use
      clear hr h
      by_cases hq : Q.length = 0
      · have hq0 : Q = [] := List.eq_nil_of_length_eq_zero hq
        have HJ : Hid (joined lnT Ln.force d (partsOf (k == 5) 2 lineG ks) = ([], d % 4)) := Lib.hid (by rw [← HPn.out, hq0]; simp [joined])
        have hz : ((Q.length : Int) == 0) = true := by rw [hq]; rfl
        clear hq0 hq k1' f1' lt1'
        go_wp2_with (go_at_call 49; refine (c49 _ _).mono ?_; rintro e w' ⟨rfl, rfl⟩)
        refine (c98 (Ex S (w.heap.size + 1)) [] 0 (d % 4) none 0 wr (by simp) (by omega) (by omega) (by simp) (Ex.up hS (by omega) (by omega)) (Rd.nil _ _)).mono ?_
        rintro e w1 ⟨a', c', rfl, hr2, hb1⟩
        have L1 := HL1.out.blw hb1
        have HB2 := Lib.hid (HB.out.trans (hb1.mono (by omega)))
        obtain ⟨k1, f1, lt1⟩ := L1.use
        have Hr2 := Lib.hid hr2
        clear hb1 L1 hr2
        go_wp2_with fail
        rw [HJ.out]
        refine bodyPost_ret (v := .agg #[.slice a' ([] : List Ln).length c', .int .u8 (d % 4)]) (by simp [results, Tryz.results43, go_sem, k1]) rfl ⟨_, _, rfl, ?_, ?_⟩
        · refine Rd.unex (L := w.heap.size + 1) ?_
          have hz : Rd (Ex S (w.heap.size + 1)) w1 (.list []) (.slice a' 0 c') := by simpa using Hr2.out
          simp only [List.map_nil, List.length_nil]
          repeat (with_reducible first | refine Rd.set ?_ _ _ | exact hz)
        · repeat (with_reducible first | refine Below.setCell ?_ (by simp) _ | exact HB2.out)
      · have HJ : Hid (joined lnT Ln.force d (partsOf (k == 5) 2 lineG ks) = (Q.map (Ln.force · (foldT (Q.map lnT))), foldT (Q.map lnT))) := Lib.hid (by rw [← HPn.out]; simp [joined, hq])
        have hz : ((Q.length : Int) == 0) = false := by rw [beq_eq_false_iff_ne]; omega
        have H := Lib.hid fun (S : Nat → Prop) (w1 : World) (hS : ∀ b, w1.heap.size ≤ b → S b) (h : Rd S w1 (.list (Q.map Ln.fs)) (.slice av Q.length cv)) =>
          (show Calls Tryz.prog 99 _ w1 (fun e w' => ∃ a' c', e = .returned (.agg #[.slice a' Q.length c', .int .u8 (foldT (Q.map lnT))]) ∧ Rd S w' (.list ((Q.map (Ln.force · (foldT (Q.map lnT)))).map Ln.fs)) (.slice a' Q.length c') ∧ Below w1.heap.size w1 w') from c99 S Q av cv w1 Hokq.out (by omega) hlp hS h)
        have Hrd := Lib.hid (HR.out.rd (by omega) (Ex.up hS (by omega) (by omega)) (by rw [List.length_map]; omega))
        have hq' : 0 < Q.length := by omega
        clear hq k1' f1' lt1'
        go_wp2_with fail
        refine (H.out (Ex S (w.heap.size + 1)) wr (Ex.up hS (by omega) (by omega)) Hrd.out).mono ?_
        rintro e w1 ⟨a', c', rfl, hr2, hb1⟩
        have L1 := HL1.out.blw hb1
        have HB2 := Lib.hid (HB.out.trans (hb1.mono (by omega)))
        obtain ⟨k1, f1, lt1⟩ := L1.use
        have Hr2 := Lib.hid hr2
        clear hb1 L1 hr2 H Hrd
        go_wp2_with fail
        rw [HJ.out]
        refine bodyPost_ret (v := .agg #[.slice a' Q.length c', .int .u8 (foldT (Q.map lnT))]) (by simp [results, Tryz.results43, go_sem, k1]) rfl ⟨a', c', by rw [List.length_map], ?_, ?_⟩
        · simp only [List.length_map]
          refine Rd.unex (L := w.heap.size + 1) ?_
          have hz := Hr2.out
          repeat (with_reducible first | refine Rd.set ?_ _ _ | exact hz)
        · repeat (with_reducible first | refine Below.setCell ?_ (by simp) _ | exact HB2.out)
set_option maxRecDepth 100000 in
set_option maxHeartbeats 4000000 in
theorem c45 (S : Nat → Prop) (k d : Int) (ks : List G) (an : Option Addr) (ln cn : Nat) (vk : Value) (w : World) (hlen : ks.length ≤ 1000000) (hgok : G.okL ks) (hS : ∀ b, w.heap.size ≤ b → S b)
    (h : Rd S w (.list (G.fsL ks)) vk) :
    Calls Tryz.prog 45 #[.agg #[.int .i64 k, .int .i64 d, .slice an ln cn, vk]] w fun e w' => ∃ a' c', e = .returned (.agg #[.slice a' (joined pgT Pg.force d (partsOf (k == 6) 3 polyG ks)).1.length c', .int .u8 (joined pgT Pg.force d (partsOf (k == 6) 3 polyG ks)).2]) ∧
      Rd S w' (.list ((joined pgT Pg.force d (partsOf (k == 6) 3 polyG ks)).1.map Pg.fs)) (.slice a' (joined pgT Pg.force d (partsOf (k == 6) 3 polyG ks)).1.length c') ∧ Below w.heap.size w w' := by
  have hsf := st_float
  obtain ⟨ak, ck, rfl⟩ := kids_shape h
  have hokp : ∀ l ∈ partsOf (k == 6) 3 polyG ks, l.ok := fun l hl => by
    obtain ⟨g, hg, rfl⟩ := partsOf_mem hl
    have hgk := G.okL_mem hgok g hg
    rw [G.ok_eq] at hgk
    exact ringsOf_ok _ _ _ hgk.2.2 hgk.2.1
  have Hokp := Lib.hid hokp; clear hokp
  obtain ⟨Ps, HP0, HPt, HPf, HPl, HPn⟩ := partsOf_fun k 6 3 polyG ks hlen
  go_enter Tryz.func45, Tryz.ntmps45
  go_wp2_with fail
  go_loopw [3, 9] (fun v i wr => ∃ j : Nat, j ≤ ks.length ∧ i = .int .i64 j ∧ Row (Ex S (w.heap.size + 1)) (w.heap.size + 2) wr 73 2 v ((Ps j).map Pg.fs) ∧
      Lb wr w.heap.size #[.int .i64 k, .int .i64 d, .slice an ln cn, .slice ak ks.length ck] 25 ∧ Lb wr (w.heap.size + 1) #[.slice none 0 0, .int .u8 0] 84 ∧ Rd (Old S w.heap.size) wr (.list (G.fsL ks)) (.slice ak ks.length ck) ∧ Below w.heap.size w wr) (fun _ i _ => ks.length - (intOf i).toNat)
  case atStart => exact ⟨0, Nat.zero_le _, rfl, by rw [HP0.out]; exact Row.nil _ _ _ _ _, Lb.new' w _ _ _, Lb.new2 w _ _ _, (h.old.alloc _).alloc _, bl_a2 w _ _⟩
  case round =>
    obtain ⟨j, hj, rfl, hR, L0, L1, hr, hB⟩ := hrel
    have hsz : w.heap.size + 2 ≤ wr.heap.size := L1.use.2.2
    obtain ⟨av, cv, hv⟩ := hR.shape
    rw [List.length_map] at hv
    subst hv
    have hlp := HPl j
    have HR := Lib.hid hR; have HL0 := Lib.hid L0; have HL1 := Lib.hid L1; have HB := Lib.hid hB
    obtain ⟨k0, _, lt0⟩ := L0.use
    clear hR L0 L1 hB
    by_cases hlt : j < ks.length
    · obtain ⟨a0, c0, e0, hm, hat⟩ := kids_inv hr
      obtain ⟨rfl, _, rfl⟩ := Value.slice.inj e0
      obtain ⟨b, off, vn', vk', rfl, hSb, hb, q0, q1, q2, q3, r2, r3⟩ := hat j hlt
      obtain ⟨an', cn', rfl⟩ := fl_shape r2
      obtain ⟨ak', ck', rfl⟩ := kids_shape r3
      have Hgk : Hid ((ks[j]).ok) := Lib.hid (G.okL_mem hgok _ (List.getElem_mem hlt))
      have Hr := Lib.hid hr; have Hr2 := Lib.hid r2; have Hr3 := Lib.hid r3
      clear hat e0 hr r2 r3
      by_cases hc : k = 6
      · by_cases hc2 : (ks[j]).kind = 3
        · have hkd : (ks[j]).kind = 3 := hc2
          have Hst := Lib.hid (HPt.out j hlt hc hc2)
          have hb1 : (k == 6) = true := by simpa using hc
          have hb2 : ((ks[j]).kind == 3) = true := by simpa using hc2
          have Hkd := Lib.hid hkd; have Hck := Lib.hid hc
          clear hkd hc hc2
          have Hup : Hid (∀ b, wr.heap.size + 1 ≤ b → Sm (Ex S (w.heap.size + 1)) (.slice av (Ps j).length cv) b) := Lib.hid fun b hb => ⟨⟨hS b (by omega), by omega⟩, fun e => by have := HR.out.lt b e.symm; omega⟩
          have Hdn : Hid (∀ b, b < wr.heap.size → Old S w.heap.size b → Sm (Ex S (w.heap.size + 1)) (.slice av (Ps j).length cv) b) := Lib.hid fun b hb ho => ⟨⟨ho.1, by have := ho.2; omega⟩, fun e => by have := HR.out.lt b e.symm; have := ho.2; omega⟩
          have H := Lib.hid fun (w1 : World) => c39' (Sm (Ex S (w.heap.size + 1)) (.slice av (Ps j).length cv)) (ks[j]).kind (ks[j]).dim (ks[j]).kids an' (ks[j]).nums.length cn' (.slice ak' (ks[j]).kids.length ck') w1 (by have := Hgk.out; rw [G.ok_eq] at this; exact this.2.1) (by have := Hgk.out; rw [G.ok_eq] at this; exact this.2.2)
          go_wp2_with fail
          refine (H.out _ (fun b hb => Hup.out b (by simpa using hb)) ((Hr3.out.mono Hdn.out).alloc _)).mono ?_
          rintro e w1 ⟨a2, c2, rfl, hr2, hb1'⟩
          have hbb := (bl_a1 wr _).trans (hb1'.mono (by simp))
          have hR1 := HR.out.step hbb
          obtain ⟨v2, w2, hap, ⟨a3, c3, rfl⟩, hR2, hg⟩ := app_one (P := Tryz.prog) 82 73 2 32 _ Tryz.underlying82 info73 rfl (by omega) (by omega) hR1 (polyG ks[j]).fs rfl #[.slice a2 (ringsOf (ks[j]).kind (ks[j]).dim (ks[j]).kids).rings.length c2, .int .u8 (ringsOf (ks[j]).kind (ks[j]).dim (ks[j]).kids).t] rfl (by simp [Value.oneCell']) (by
            intro jj hjj
            have hjc : jj = 0 ∨ jj = 1 := by have : (polyG ks[j]).fs.length = 2 := rfl; omega
            rcases hjc with rfl | rfl
            · exact ⟨_, rfl, hr2⟩
            · exact ⟨_, rfl, .atom _⟩) (by rw [List.length_map]; omega) (by have := hbb.size; omega)
          rw [List.length_map] at hap
          have hown : ∀ q, (Value.slice av (Ps j).length cv).ownBlock = some q → w.heap.size + 2 ≤ q := fun q hq => (hR1.lt q hq).1
          have HL0' := Lib.hid ((HL0.out.blw hbb).grown hg (fun e => by have := hown _ e.symm; omega))
          have HL1' := Lib.hid ((HL1.out.blw hbb).grown hg (fun e => by have := hown _ e.symm; omega))
          have Hr' := Lib.hid ((Hr.out.blw hbb).grown hg (fun q hq e => by have := hown _ e.symm; have := hq.2; omega))
          have HB' := Lib.hid ((HB.out.trans (hbb.mono (by omega))).grown hg (by have := hbb.size; omega) (fun q hq => by have := hown q hq; omega))
          have HR' := Lib.hid hR2
          have Hap := Lib.hid hap
          clear hap hR2 hg hown hR1 hbb hb1' k0 q0 q1 q2 q3
          go_wp2_with (at_builtin; refine wpList_append_eq rfl _ _ 82 rfl rfl rfl rfl Hap.out ?_)
          go_roundw
          case rel =>
            refine ⟨j + 1, by omega, by go_num, ?_, HL0'.out, HL1'.out, Hr'.out, HB'.out⟩
            have e2 : (Ps (j + 1)).map Pg.fs = (Ps j).map Pg.fs ++ [(polyG ks[j]).fs] := by rw [Hst.out, List.map_append]; rfl
            rw [e2]
            have e3 := HR'.out
            rw [List.length_map] at e3
            exact e3
          case measure => simp [intOf]; omega
        · have hb2 : ((ks[j]).kind == 3) = false := by simpa using hc2
          have hb1 : (k == 6) = true := by simpa using hc
          have Hst := Lib.hid (HPf.out j hlt (fun h => hc2 h.2))
          clear hc hc2
          go_wp2_with fail
          go_roundw
          case rel =>
            refine ⟨j + 1, by omega, by go_num, ?_, HL0.out.alloc _, HL1.out.alloc _, Hr.out.alloc _, HB.out.alloc (by omega) _⟩
            rw [Hst.out]
            exact HR.out.alloc _
          case measure => simp [intOf]; omega
      · have hb1 : (k == 6) = false := by simpa using hc
        have Hst := Lib.hid (HPf.out j hlt (fun h => hc h.1))
        clear hc
        go_wp2_with fail
        go_roundw
        case rel =>
          refine ⟨j + 1, by omega, by go_num, ?_, HL0.out.alloc _, HL1.out.alloc _, Hr.out.alloc _, HB.out.alloc (by omega) _⟩
          rw [Hst.out]
          exact HR.out.alloc _
        case measure => simp [intOf]; omega
    · obtain rfl : j = ks.length := by omega
      have hdl : decide (((ks.length : Nat) : Int) < ks.length) = false := by simp
      generalize Ps ks.length = Q at *
      have Hokq : Hid (∀ l ∈ Q, l.ok) := Lib.hid (by rw [HPn.out]; exact Hokp.out)
      obtain ⟨k1', f1', lt1'⟩ := HL1.out.use
      clear hr h
      by_cases hq : Q.length = 0
      · have hq0 : Q = [] := List.eq_nil_of_length_eq_zero hq
        have HJ : Hid (joined pgT Pg.force d (partsOf (k == 6) 3 polyG ks) = ([], d % 4)) := Lib.hid (by rw [← HPn.out, hq0]; simp [joined])
        have hz : ((Q.length : Int) == 0) = true := by rw [hq]; rfl
        clear hq0 hq k1' f1' lt1'
        go_wp2_with (go_at_call 49; refine (c49 _ _).mono ?_; rintro e w' ⟨rfl, rfl⟩)
        refine (c101 (Ex S (w.heap.size + 1)) [] 0 (d % 4) none 0 wr (by simp) (by omega) (by omega) (by simp) (Ex.up hS (by omega) (by omega)) (Rd.nil _ _)).mono ?_
        rintro e w1 ⟨a', c', rfl, hr2, hb1⟩
        have L1 := HL1.out.blw hb1
        have HB2 := Lib.hid (HB.out.trans (hb1.mono (by omega)))
        obtain ⟨k1, f1, lt1⟩ := L1.use
        have Hr2 := Lib.hid hr2
        clear hb1 L1 hr2
        go_wp2_with fail
        rw [HJ.out]
        refine bodyPost_ret (v := .agg #[.slice a' ([] : List Pg).length c', .int .u8 (d % 4)]) (by simp [results, Tryz.results45, go_sem, k1]) rfl ⟨_, _, rfl, ?_, ?_⟩
        · refine Rd.unex (L := w.heap.size + 1) ?_
          have hz : Rd (Ex S (w.heap.size + 1)) w1 (.list []) (.slice a' 0 c') := by simpa using Hr2.out
          simp only [List.map_nil, List.length_nil]
          repeat (with_reducible first | refine Rd.set ?_ _ _ | exact hz)
        · repeat (with_reducible first | refine Below.setCell ?_ (by simp) _ | exact HB2.out)
      · have HJ : Hid (joined pgT Pg.force d (partsOf (k == 6) 3 polyG ks) = (Q.map (Pg.force · (foldT (Q.map pgT))), foldT (Q.map pgT))) := Lib.hid (by rw [← HPn.out]; simp [joined, hq])
        have hz : ((Q.length : Int) == 0) = false := by rw [beq_eq_false_iff_ne]; omega
        have H := Lib.hid fun (S : Nat → Prop) (w1 : World) (hS : ∀ b, w1.heap.size ≤ b → S b) (h : Rd S w1 (.list (Q.map Pg.fs)) (.slice av Q.length cv)) =>
          (show Calls Tryz.prog 102 _ w1 (fun e w' => ∃ a' c', e = .returned (.agg #[.slice a' Q.length c', .int .u8 (foldT (Q.map pgT))]) ∧ Rd S w' (.list ((Q.map (Pg.force · (foldT (Q.map pgT)))).map Pg.fs)) (.slice a' Q.length c') ∧ Below w1.heap.size w1 w') from c102 S Q av cv w1 Hokq.out (by omega) hlp hS h)
        have Hrd := Lib.hid (HR.out.rd (by omega) (Ex.up hS (by omega) (by omega)) (by rw [List.length_map]; omega))
        have hq' : 0 < Q.length := by omega
        clear hq k1' f1' lt1'
        go_wp2_with fail
        refine (H.out (Ex S (w.heap.size + 1)) wr (Ex.up hS (by omega) (by omega)) Hrd.out).mono ?_
        rintro e w1 ⟨a', c', rfl, hr2, hb1⟩
        have L1 := HL1.out.blw hb1
        have HB2 := Lib.hid (HB.out.trans (hb1.mono (by omega)))
        obtain ⟨k1, f1, lt1⟩ := L1.use
        have Hr2 := Lib.hid hr2
        clear hb1 L1 hr2 H Hrd
        go_wp2_with fail
        rw [HJ.out]
        refine bodyPost_ret (v := .agg #[.slice a' Q.length c', .int .u8 (foldT (Q.map pgT))]) (by simp [results, Tryz.results45, go_sem, k1]) rfl ⟨a', c', by rw [List.length_map], ?_, ?_⟩
        · simp only [List.length_map]
          refine Rd.unex (L := w.heap.size + 1) ?_
          have hz := Hr2.out
          repeat (with_reducible first | refine Rd.set ?_ _ _ | exact hz)
        · repeat (with_reducible first | refine Below.setCell ?_ (by simp) _ | exact HB2.out)
end Go.Proofs.YtahnhhkbdgaidaaGreatDoor
