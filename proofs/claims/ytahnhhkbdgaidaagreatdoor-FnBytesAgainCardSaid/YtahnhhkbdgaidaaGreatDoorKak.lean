/-
  Geometries of plain data, of every kind.
-/
import Derived.Test.YtahnhhkbdgaidaaGreatDoorKaj
namespace Go.Proofs.YtahnhhkbdgaidaaGreatDoor
open Go.RowKit
set_option maxRecDepth 100000 in
set_option maxHeartbeats 2000000 in
theorem c124 (S : Nat → Prop) (ls : List Geo) (a : Option Addr) (c : Nat) (w : World) (hok : ∀ l ∈ ls, l.ok) (hpos : 0 < ls.length) (hlen : ls.length ≤ 1000000) (hS : ∀ b, w.heap.size ≤ b → S b)
    (h : Rd S w (.list (ls.map Geo.fs)) (.slice a ls.length c)) :
    Calls Tryz.prog 124 #[.slice a ls.length c] w fun e w' => ∃ a' c', e = .returned (.agg #[.slice a' ls.length c', .int .u8 (foldT (ls.map (·.t)))]) ∧
      Rd S w' (.list ((ls.map (·.force (foldT (ls.map (·.t))))).map Geo.fs)) (.slice a' ls.length c') ∧ Below w.heap.size w w' := by
  have hT := foldT_bd (ls.map (·.t)) (fun t ht => by obtain ⟨l, hl, rfl⟩ := List.mem_map.1 ht; exact Geo.ok_t l (hok l hl))
  have hl1 : ((ls.length : Int) == 0) = false := by rw [beq_eq_false_iff_ne]; omega
  have hl2 : decide ((0 : Int) < ls.length) = true := by simp; omega
  go_enter Tryz.func124, Tryz.ntmps124
  go_wp2_with fail
  go_loopw [3, 13] (fun T i wr => ∃ j : Nat, j ≤ ls.length ∧ i = .int .i64 j ∧ T = .int .u8 (preT (ls.map (·.t)) j) ∧ Lb wr w.heap.size #[.slice none 0 0, .int .u8 0] 104 ∧
      Rd (Ex S w.heap.size) wr (.list (ls.map Geo.fs)) (.slice a ls.length c) ∧ Below w.heap.size w wr ∧ w.heap.size + 1 ≤ wr.heap.size) (fun _ i _ => ls.length - (intOf i).toNat)
  case atStart => exact ⟨0, Nat.zero_le _, rfl, rfl, Lb.new w _ _, (h.ex (Nat.le_refl _)).alloc _, bl_a1 w _, by simp⟩
  case round =>
    obtain ⟨j, hj, rfl, rfl, L0, hr, hB, hsz⟩ := hrel
    have HL0 := Lib.hid L0; have HB := Lib.hid hB
    clear L0 hB
    by_cases hlt : j < ls.length
    · obtain ⟨a0, c0, e0, hm, hat⟩ := geos_at hr
      obtain ⟨rfl, _, rfl⟩ := Value.slice.inj e0
      obtain ⟨b, off, b0, rfl, hSb, hb, k0, k1, hrj⟩ := hat j hlt
      have Hst := Lib.hid (preT_step ls (·.t) j hlt)
      have Hr := Lib.hid hr
      clear hat e0 hr hT
      go_wp2_with fail
      refine (c177 _ ls[j] _ _ (hrj.alloc _)).mono ?_
      rintro e w1 ⟨rfl, hb2'⟩
      have hb2 := (bl_a1 wr _).trans (hb2'.mono (by simp))
      have HL0' := Lib.hid (HL0.out.blw hb2); have HB' := Lib.hid (HB.out.trans (hb2.mono (by omega))); have Hr' := Lib.hid (Hr.out.blw hb2)
      have hsz2 : w.heap.size + 1 ≤ w1.heap.size := Nat.le_trans hsz hb2.size
      clear hb2 hb2' k0 k1 hb
      go_wp2_with fail
      go_roundw
      case rel => exact ⟨j + 1, by omega, by go_num, by rw [Hst.out]; rfl, HL0'.out, Hr'.out, HB'.out, hsz2⟩
      case measure => simp [intOf]; omega
    · obtain rfl : j = ls.length := by omega
      have hdl : decide (((ls.length : Nat) : Int) < ls.length) = false := by simp
      have hr' : Rd (Ex S w.heap.size) wr (.list (ls.map Geo.fs)) (.slice a (ls.map Geo.fs).length c) := by rw [List.length_map]; exact hr
      obtain ⟨g, cap, cs0, w2, hap, hg, hC, hb2⟩ := app_all (P := Tryz.prog) 102 47 2 24 _ Tryz.underlying102 info47 rfl (by omega) (by omega) hr' (by simp [Geo.fs]) (by
        intro i hi f hf v hv; simp [Geo.fs] at hf; rcases hf with rfl | rfl <;> first | (cases hv; rfl) | cases hv) (by simpa using hpos) (by simp; omega)
      rw [List.length_map] at hap
      rw [preT_all _ _ (by simp)]
      have HC := Lib.hid hC; have HL1 := Lib.hid (HL0.out.blw hb2); have HB1 := Lib.hid (HB.out.trans (hb2.mono (by omega)))
      have hg1 : w.heap.size < g := by omega
      clear hC hb2 hr hr' h hdl
      have hdl : decide (((ls.length : Nat) : Int) < ls.length) = false := by simp
      generalize hTT : foldT (ls.map (·.t)) = TT at *
      have HTT := Lib.hid hTT; clear hTT
      have Hap := Lib.hid hap; clear hap
      go_wp2_with (at_builtin; refine wpList_append_eq rfl _ _ 102 rfl rfl rfl rfl Hap.out ?_)
      clear Hap
      go_loopw [26] (fun i wr => ∃ j : Nat, ∃ cs : Array Value, j ≤ ls.length ∧ i = .int .i64 j ∧ Cont (Ex S w.heap.size) wr g 47 2 (mixL ls (fun l => (l.force TT).fs) Geo.fs j) cs ∧ Lb wr w.heap.size #[.slice none 0 0, .int .u8 0] 104 ∧ Below w.heap.size w wr) (fun i _ => ls.length - (intOf i).toNat)
      case atStart => exact ⟨0, cs0, Nat.zero_le _, rfl, by rw [mix_zero]; exact HC.out, HL1.out, HB1.out⟩
      case round =>
        clear HC HL1 HB1
        obtain ⟨j, cs, hj, rfl, hC, L0, hB⟩ := hrel
        have hml := mix_len ls (fun l => (l.force TT).fs) Geo.fs j
        by_cases hlt : j < ls.length
        · have hmg := mix_get ls (fun l => (l.force TT).fs) Geo.fs j hlt
          obtain ⟨x0, k0, r0⟩ := hC.rd j (by rw [hml]; exact hlt) 0 (by rw [hmg]; simp [Geo.fs])
          obtain ⟨x1, k1, r1⟩ := hC.rd j (by rw [hml]; exact hlt) 1 (by rw [hmg]; simp [Geo.fs])
          simp only [hmg] at r0 r1
          rw [Nat.add_zero] at k0
          have q0 : Rd (Ex (Ex S w.heap.size) g) wr (.atom (.int .i64 (ls[j]).kind)) x0 := r0
          have q1 : GeoV (Ex (Ex S w.heap.size) g) wr ls[j] x1 := r1
          clear r0 r1
          have e0 := q0.atom_inv
          subst e0
          obtain ⟨b0, e1⟩ := q1.shape
          subst e1
          have hcs := hC.size
          rw [hml] at hcs
          obtain ⟨kR, fR, ltR⟩ := hC.blk.use
          have HC := Lib.hid hC; have HL0 := Lib.hid L0; have HB := Lib.hid hB
          have H := Lib.hid fun (S : Nat → Prop) => c48 (ls[j]).size ls[j] TT S wr (.iface (ls[j]).tid (.pointer (some ⟨b0, 0, none⟩))) (Nat.le_refl _) (hok _ (List.getElem_mem hlt)) hT.1 hT.2
          clear hC L0 hB hml hmg
          go_wp2_with fail
          refine (H.out _ (fun b hb => ⟨⟨hS b (by have := HB.out.size; omega), by have := HB.out.size; omega⟩, by omega⟩) q1).mono ?_
          rintro e w1 ⟨b2, rfl, hr2, hb2⟩
          have hC2 := HC.out.blw hb2
          have HC2 := Lib.hid hC2
          obtain ⟨kR2, fR2, ltR2⟩ := hC2.blk.use
          have HL1 := Lib.hid (HL0.out.blw hb2); have HB2 := Lib.hid (HB.out.trans (hb2.mono HB.out.size))
          have hr4 := Lib.hid hr2
          clear hb2 hC2 kR fR hr2 q0 q1
          go_wp2_with fail
          go_roundw
          case rel =>
            refine ⟨j + 1, (cs.setIfInBounds (j * 2) (.int .i64 (ls[j]).kind)).setIfInBounds (j * 2 + 1) (.iface (ls[j]).tid (.pointer (some ⟨b2, 0, none⟩))), by omega, by go_num, ?_, (HL1.out.far (by simp <;> omega) _).far (by simp <;> omega) _, (HB2.out.setCell (by simp <;> omega) _).setCell (by simp <;> omega) _⟩
            rw [← mix_set ls _ _ j hlt]
            refine HC2.out.put j (by rw [mix_len]; exact hlt) _ rfl (by simp) ((HC2.out.blk.set _ _).set _ _) keep_two (by simp [World.setCell]) (fun p hp => two_out hp) (fun jj hjj => ?_)
            have hjc : jj = 0 ∨ jj = 1 := by have : ((ls[j]).force TT).fs.length = 2 := rfl; omega
            rcases hjc with rfl | rfl
            · exact ⟨_, two_new0 (by omega), by show Rd _ _ (.atom (.int .i64 ((ls[j]).force TT).kind)) _; rw [← (Geo.force_kind ls[j] TT).1]; exact .atom _⟩
            · exact ⟨_, two_new1 (by omega), (hr4.out.set _ _).set _ _⟩
          case measure => simp [intOf]; omega
        · obtain rfl : j = ls.length := by omega
          have hdl : decide (((ls.length : Nat) : Int) < ls.length) = false := by simp
          obtain ⟨k1, f1, lt1⟩ := L0.use
          have HC := Lib.hid hC; have HB := Lib.hid hB
          clear hC L0 hB
          go_wp2_with fail
          refine bodyPost_ret (v := .agg #[.slice (some ⟨g, 0, none⟩) ls.length cap, .int .u8 TT]) (by simp [results, Tryz.results124, go_sem, k1]) rfl ⟨_, _, by rw [HTT.out], ?_, ?_⟩
          · refine Rd.unex (L := w.heap.size) ?_
            have hd := HC.out.done cap (by omega) ⟨hS _ (by omega), by omega⟩ (by rw [mix_len]; omega)
            rw [mix_len, mix_all] at hd
            rw [HTT.out, List.map_map]
            have hd2 : Rd (Ex S w.heap.size) wr (.list (ls.map (Geo.fs ∘ fun x => x.force TT))) (.slice (some ⟨g, 0, none⟩) ls.length cap) := hd
            repeat (with_reducible first | refine Rd.set ?_ _ _ | exact hd2)
          · repeat (with_reducible first | refine Below.setCell ?_ (by simp) _ | exact HB.out)
end Go.Proofs.YtahnhhkbdgaidaaGreatDoor
namespace Go.Proofs.YtahnhhkbdgaidaaGreatDoor
open Go.RowKit
/-- The parts of a collection, brought to their lowest common type. -/
def gather (d : Int) (l : List Geo) : Geo := .gc (joined Geo.t Geo.force d l).1 (joined Geo.t Geo.force d l).2
/-- A geometry that holds no other geometries. -/
def flatGeo (k d : Int) (ns : List Nat) (ks : List G) (rest : Geo) : Geo :=
  if k = 1 then .pt (pointOf k d ns) else if k = 2 then .ln (lineOf k d ns) else if k = 3 then .pg (ringsOf k d ks)
  else if k = 4 then .mp (joined ptT Pt.force d (partsOf (k == 4) 1 pointG ks)).1 (joined ptT Pt.force d (partsOf (k == 4) 1 pointG ks)).2
  else if k = 5 then .ml (joined lnT Ln.force d (partsOf (k == 5) 2 lineG ks)).1 (joined lnT Ln.force d (partsOf (k == 5) 2 lineG ks)).2
  else if k = 6 then .mg (joined pgT Pg.force d (partsOf (k == 6) 3 polyG ks)).1 (joined pgT Pg.force d (partsOf (k == 6) 3 polyG ks)).2
  else rest
mutual
def geoOf : G → Geo
  | .mk k d ns ks => flatGeo k d ns ks (gather d (geoOfL ks))
def geoOfL : List G → List Geo
  | [] => []
  | g :: r => geoOf g :: geoOfL r
end
theorem geoOfL_map : ∀ l : List G, geoOfL l = l.map geoOf
  | [] => by simp [geoOfL]
  | g :: r => by simp [geoOfL, geoOfL_map r]
theorem geoOf_eq (g : G) : geoOf g = flatGeo g.kind g.dim g.nums g.kids (gather g.dim (g.kids.map geoOf)) := by
  cases g; simp only [geoOf, G.kind, G.dim, G.nums, G.kids, geoOfL_map]
theorem Geo.okL_of : ∀ {l : List Geo}, (∀ g ∈ l, g.ok) → Geo.okL l
  | [], _ => by simp [Geo.okL]
  | a :: r, h => by
    simp only [Geo.okL]
    exact ⟨h a (by simp), Geo.okL_of fun g hg => h g (by simp [hg])⟩
theorem Pt.force_ok (p : Pt) (t' : Int) (_ : p.ok) (g0 : 0 ≤ t') (g1 : t' ≤ 3) : (p.force t').ok := by
  first | exact ⟨g0, g1⟩ | (unfold Pt.force; split <;> first | exact ⟨g0, g1⟩ | exact h)
theorem Pg.force_ok (p : Pg) (t' : Int) (h : p.ok) (g0 : 0 ≤ t') (g1 : t' ≤ 3) : (p.force t').ok := by
  refine ⟨fun l hl => ?_, by simpa [Pg.force] using h.2.1, g0, g1⟩
  obtain ⟨l', hl', rfl⟩ := List.mem_map.1 hl
  exact l'.force_ok _ (h.1 l' hl') g0 g1
mutual
theorem Geo.force_ok : ∀ (g : Geo) (t' : Int), g.ok → 0 ≤ t' → t' ≤ 3 → (g.force t').ok
  | .pt p, t', h, g0, g1 => by simp only [Geo.ok] at h; simp only [Geo.force, Geo.ok]; exact p.force_ok t' h g0 g1
  | .ln l, t', h, g0, g1 => by simp only [Geo.ok] at h; simp only [Geo.force, Geo.ok]; exact l.force_ok t' h g0 g1
  | .pg p, t', h, g0, g1 => by simp only [Geo.ok] at h; simp only [Geo.force, Geo.ok]; exact p.force_ok t' h g0 g1
  | .mp ps _, t', h, g0, g1 => by
    simp only [Geo.ok] at h; simp only [Geo.force, Geo.ok]
    exact ⟨fun p hp => by obtain ⟨q, hq, rfl⟩ := List.mem_map.1 hp; exact q.force_ok t' (h.1 q hq) g0 g1, by simpa using h.2.1, g0, g1⟩
  | .ml ps _, t', h, g0, g1 => by
    simp only [Geo.ok] at h; simp only [Geo.force, Geo.ok]
    exact ⟨fun p hp => by obtain ⟨q, hq, rfl⟩ := List.mem_map.1 hp; exact q.force_ok t' (h.1 q hq) g0 g1, by simpa using h.2.1, g0, g1⟩
  | .mg ps _, t', h, g0, g1 => by
    simp only [Geo.ok] at h; simp only [Geo.force, Geo.ok]
    exact ⟨fun p hp => by obtain ⟨q, hq, rfl⟩ := List.mem_map.1 hp; exact q.force_ok t' (h.1 q hq) g0 g1, by simpa using h.2.1, g0, g1⟩
  | .gc gs _, t', h, g0, g1 => by
    simp only [Geo.ok] at h; simp only [Geo.force, Geo.ok]
    exact ⟨Geo.forceL_ok gs t' h.1 g0 g1, by rw [Geo.forceL_map]; simpa using h.2.1, g0, g1⟩
theorem Geo.forceL_ok : ∀ (l : List Geo) (t' : Int), Geo.okL l → 0 ≤ t' → t' ≤ 3 → Geo.okL (Geo.forceL l t')
  | [], _, _, _, _ => by simp [Geo.forceL, Geo.okL]
  | g :: r, t', h, g0, g1 => by
    simp only [Geo.okL] at h; simp only [Geo.forceL, Geo.okL]
    exact ⟨g.force_ok t' h.1 g0 g1, Geo.forceL_ok r t' h.2 g0 g1⟩
end
theorem joined_ok {α : Type} (tOf : α → Int) (force : α → Int → α) (ok : α → Prop) (ht : ∀ x, ok x → 0 ≤ tOf x ∧ tOf x ≤ 3) (hf : ∀ x t', ok x → 0 ≤ t' → t' ≤ 3 → ok (force x t')) (d : Int) (l : List α) (hl : ∀ x ∈ l, ok x) (hn : l.length ≤ 1000000) :
    (∀ x ∈ (joined tOf force d l).1, ok x) ∧ (joined tOf force d l).1.length ≤ 1000000 ∧ 0 ≤ (joined tOf force d l).2 ∧ (joined tOf force d l).2 ≤ 3 := by
  have hT := foldT_bd (l.map tOf) (fun t h => by obtain ⟨x, hx, rfl⟩ := List.mem_map.1 h; exact ht x (hl x hx))
  unfold joined
  split
  · exact ⟨by simp, by simp, by simp; omega, by simp; omega⟩
  · refine ⟨fun x hx => ?_, by simpa using hn, hT.1, hT.2⟩
    obtain ⟨y, hy, rfl⟩ := List.mem_map.1 hx
    exact hf y _ (hl y hy) hT.1 hT.2
theorem flat_ok (k d : Int) (ns : List Nat) (ks : List G) (rest : Geo) (hn : ns.length ≤ 1000000) (hk : ks.length ≤ 1000000) (hok : G.okL ks) (hr : rest.ok) : (flatGeo k d ns ks rest).ok := by
  have hg : ∀ g ∈ ks, g.ok := G.okL_mem hok
  have h1 : ∀ c, ∀ p ∈ partsOf c 1 pointG ks, p.ok := fun c p hp => by obtain ⟨g, _, rfl⟩ := partsOf_mem hp; exact pointOf_ok _ _ _
  have h2 : ∀ c, ∀ p ∈ partsOf c 2 lineG ks, p.ok := fun c p hp => by
    obtain ⟨g, hgm, rfl⟩ := partsOf_mem hp
    have := hg g hgm; rw [G.ok_eq] at this; exact lineOf_ok _ _ _ this.1
  have h3 : ∀ c, ∀ p ∈ partsOf c 3 polyG ks, p.ok := fun c p hp => by
    obtain ⟨g, hgm, rfl⟩ := partsOf_mem hp
    have := hg g hgm; rw [G.ok_eq] at this; exact ringsOf_ok _ _ _ this.2.2 this.2.1
  unfold flatGeo
  split
  · simp only [Geo.ok]; exact pointOf_ok _ _ _
  split
  · simp only [Geo.ok]; exact lineOf_ok _ _ _ hn
  split
  · simp only [Geo.ok]; exact ringsOf_ok _ _ _ hok hk
  split
  · simp only [Geo.ok]; exact joined_ok ptT Pt.force Pt.ok (fun x h => h) (fun x t' h => x.force_ok t' h) d _ (h1 _) (Nat.le_trans (partsOf_len _ _ _ _) hk)
  split
  · simp only [Geo.ok]; exact joined_ok lnT Ln.force Ln.ok (fun x h => ⟨h.1, h.2.1⟩) (fun x t' h => x.force_ok t' h) d _ (h2 _) (Nat.le_trans (partsOf_len _ _ _ _) hk)
  split
  · simp only [Geo.ok]; exact joined_ok pgT Pg.force Pg.ok (fun x h => ⟨h.2.2.1, h.2.2.2⟩) (fun x t' h => x.force_ok t' h) d _ (h3 _) (Nat.le_trans (partsOf_len _ _ _ _) hk)
  · exact hr
theorem gather_ok (d : Int) (l : List Geo) (h : ∀ g ∈ l, g.ok) (hn : l.length ≤ 1000000) : (gather d l).ok := by
  have := joined_ok Geo.t Geo.force Geo.ok (fun x h => x.ok_t h) (fun x t' h => x.force_ok t' h) d l h hn
  simp only [gather, Geo.ok]
  exact ⟨Geo.okL_of this.1, this.2.1, this.2.2.1, this.2.2.2⟩
mutual
theorem geoOf_ok : ∀ (g : G), g.ok → (geoOf g).ok
  | .mk k d ns ks, h => by
    simp only [G.ok] at h
    simp only [geoOf]
    refine flat_ok k d ns ks _ h.1 h.2.1 h.2.2 (gather_ok _ _ (geoOfL_ok ks h.2.2) (by rw [geoOfL_map]; simpa using h.2.1))
theorem geoOfL_ok : ∀ (l : List G), G.okL l → ∀ g ∈ geoOfL l, g.ok
  | [], _ => by simp [geoOfL]
  | a :: r, h => by
    simp only [G.okL] at h
    intro g hg
    simp only [geoOfL, List.mem_cons] at hg
    rcases hg with rfl | hg
    · exact geoOf_ok a h.1
    · exact geoOfL_ok r h.2 g hg
end
/-- What `geometry` does at one geometry. -/
def Made (g : G) : Prop := ∀ (S : Nat → Prop) (vn vk : Value) (w : World), (∀ b, w.heap.size ≤ b → S b) → Rd S w (fl g.nums) vn → Rd S w (.list (G.fsL g.kids)) vk →
  Calls Tryz.prog 25 #[.agg #[.int .i64 g.kind, .int .i64 g.dim, vn, vk]] w fun e w' => ∃ b', e = .returned (.agg #[.int .i64 (geoOf g).kind, .iface (geoOf g).tid (.pointer (some ⟨b', 0, none⟩))]) ∧
    GeoV S w' (geoOf g) (.iface (geoOf g).tid (.pointer (some ⟨b', 0, none⟩))) ∧ Below w.heap.size w w'
set_option maxRecDepth 100000 in
set_option maxHeartbeats 1000000 in
theorem c125 (S : Nat → Prop) (ks : List G) (a : Option Addr) (c : Nat) (w : World) (IH : ∀ (j : Nat) (hj : j < ks.length), Made ks[j]) (hlen : ks.length ≤ 1000000) (hS : ∀ b, w.heap.size ≤ b → S b)
    (h : Rd S w (.list (G.fsL ks)) (.slice a ks.length c)) :
    Calls Tryz.prog 125 #[.slice a ks.length c] w fun e w' => ∃ a' c', e = .returned (.slice a' ks.length c') ∧
      Rd S w' (.list ((ks.map geoOf).map Geo.fs)) (.slice a' ks.length c') ∧ Below w.heap.size w w' := by
  have hmk : ∀ w, (Instr.makeSlice 102 (.int .i64 (ks.length : Int)) (.int .i64 (ks.length : Int))).run Tryz.prog w = .ok (.slice (some ⟨w.heap.size, 0, none⟩) ks.length ks.length) (w.alloc (.cells (madeCells #[.int .i64 0, .nilIface] (ks.length * 2)) 47)) :=
    mk_any (P := Tryz.prog) 102 47 _ 2 24 Tryz.underlying102 info47 ks.length (by omega) (by omega)
  go_enter Tryz.func125, Tryz.ntmps125
  go_wp2_with fail
  go_loopw [11] (fun i wr => ∃ j : Nat, ∃ cs : Array Value, j ≤ ks.length ∧ i = .int .i64 j ∧ Fill S wr w.heap.size 47 2 ks.length (((ks.take j).map geoOf).map Geo.fs) cs ∧
      Rd (Old S w.heap.size) wr (.list (G.fsL ks)) (.slice a ks.length c) ∧ Below w.heap.size w wr ∧ w.heap.size + 1 ≤ wr.heap.size) (fun i _ => ks.length - (intOf i).toNat)
  case atStart =>
    refine ⟨0, madeCells #[.int .i64 0, .nilIface] (ks.length * 2), Nat.zero_le _, rfl, Fill.start (size_madeCells _ _) (Lb.new w _ _), h.old.alloc _, bl_a1 w _, by simp⟩
  case round =>
    obtain ⟨j, cs, hj, rfl, hF, hr, hB, hsz⟩ := hrel
    by_cases hlt : j < ks.length
    · obtain ⟨a0, c0, e0, hm, hat⟩ := kids_inv hr
      obtain ⟨rfl, _, rfl⟩ := Value.slice.inj e0
      obtain ⟨b, off, vn', vk', rfl, hSb, hb, q0, q1, q2, q3, r2, r3⟩ := hat j hlt
      obtain ⟨an', cn', rfl⟩ := fl_shape r2
      obtain ⟨ak', ck', rfl⟩ := kids_shape r3
      have H := Lib.hid (IH j hlt (Ex S w.heap.size))
      have HF := Lib.hid hF; clear hF
      have HB := Lib.hid hB; have Hr := Lib.hid hr
      have Hr2 := Lib.hid r2; have Hr3 := Lib.hid r3
      clear hB hat e0 hmk hr r2 r3 IH
      have Hdn : Hid (∀ b, b < wr.heap.size → Old S w.heap.size b → Ex S w.heap.size b) := Lib.hid fun b hb ho => ⟨ho.1, by have := ho.2; omega⟩
      go_wp2_with fail
      refine (H.out _ _ _ (fun b hb => ⟨hS b (by simp at hb; omega), by simp at hb; omega⟩) ((Hr2.out.mono Hdn.out).alloc _) ((Hr3.out.mono Hdn.out).alloc _)).mono ?_
      rintro e w1 ⟨b2, rfl, hr2, hb2'⟩
      have hb2 := (bl_a1 wr _).trans (hb2'.mono (by simp))
      have hF2 := HF.out.blw hb2
      have hcs := hF2.size
      obtain ⟨kR, fR, ltR⟩ := hF2.blk.use
      obtain ⟨u0, hu0⟩ : ∃ u, cs[j * 2]? = some u := ⟨_, Array.getElem?_eq_getElem (by rw [hcs]; omega)⟩
      obtain ⟨u1, hu1⟩ : ∃ u, cs[j * 2 + 1]? = some u := ⟨_, Array.getElem?_eq_getElem (by rw [hcs]; omega)⟩
      have HF2 := Lib.hid hF2; clear hF2
      have HB' := Lib.hid (HB.out.trans (hb2.mono (by omega)))
      have hr3 := Lib.hid (Hr.out.blw hb2); have hr4 := Lib.hid hr2
      have hsz2 : w.heap.size + 1 ≤ w1.heap.size := Nat.le_trans hsz hb2.size
      clear hr2 hb2 hb2' q0 q1 q2 q3
      go_wp2_with fail
      go_roundw
      case rel =>
        refine ⟨j + 1, (cs.setIfInBounds (j * 2) (.int .i64 (geoOf ks[j]).kind)).setIfInBounds (j * 2 + 1) (.iface (geoOf ks[j]).tid (.pointer (some ⟨b2, 0, none⟩))), by omega, by go_num, ?_, ?_, ?_, by simp [World.setCell]; omega⟩
        · have el : (((ks.take j).map geoOf).map Geo.fs).length = j := by simp; omega
          have es : ((ks.take (j + 1)).map geoOf).map Geo.fs = ((ks.take j).map geoOf).map Geo.fs ++ [(geoOf ks[j]).fs] := by rw [take_map_succ _ _ _ hlt, List.map_append]; rfl
          rw [es]
          refine HF2.out.next _ rfl (by simp [hcs]) (((HF2.out.blk).set _ _).set _ _) keep_two (by simp [World.setCell]) (fun p hp => two_old (by rw [el] at hp; exact hp)) (fun jj hjj => ?_)
          rw [el]
          have hjc : jj = 0 ∨ jj = 1 := by have : (geoOf ks[j]).fs.length = 2 := rfl; omega
          rcases hjc with rfl | rfl
          · exact ⟨_, two_new0 (by rw [hcs]; omega), .atom _⟩
          · exact ⟨_, two_new1 (by rw [hcs]; omega), (hr4.out.set _ _).set _ _⟩
        · exact (hr3.out.setCell (fun h => by have := h.2; simp at this) _).setCell (fun h => by have := h.2; simp at this) _
        · exact (HB'.out.setCell (by simp <;> omega) _).setCell (by simp <;> omega) _
      case measure => simp [intOf]; omega
    · obtain rfl : j = ks.length := by omega
      have hdl : decide (((ks.length : Nat) : Int) < ks.length) = false := by simp
      have HF := Lib.hid hF; have HB := Lib.hid hB
      clear hF hB hmk hr IH h
      go_wp2_with fail
      go_ret
      refine ⟨_, _, rfl, ?_, HB.out⟩
      have hd := HF.out.done ks.length (by omega) (by simp) (hS _ (by omega)) (by omega)
      rw [List.take_length] at hd
      exact hd
set_option maxRecDepth 100000 in
set_option maxHeartbeats 1000000 in
theorem c63 (S : Nat → Prop) (k d : Int) (vn : Value) (ks : List G) (vk : Value) (w : World) (IH : ∀ (j : Nat) (hj : j < ks.length), Made ks[j]) (hlen : ks.length ≤ 1000000) (hok : G.okL ks) (hS : ∀ b, w.heap.size ≤ b → S b)
    (h : Rd S w (.list (G.fsL ks)) vk) :
    Calls Tryz.prog 63 #[.agg #[.int .i64 k, .int .i64 d, vn, vk]] w fun e w' => ∃ a' c', e = .returned (.agg #[.slice a' (joined Geo.t Geo.force d (ks.map geoOf)).1.length c', .int .u8 (joined Geo.t Geo.force d (ks.map geoOf)).2]) ∧
      Rd S w' (.list ((joined Geo.t Geo.force d (ks.map geoOf)).1.map Geo.fs)) (.slice a' (joined Geo.t Geo.force d (ks.map geoOf)).1.length c') ∧ Below w.heap.size w w' := by
  obtain ⟨ak, ck, rfl⟩ := kids_shape h
  have h2 := Lib.hid ((h.old.alloc (.cells #[.int .i64 k, .int .i64 d, vn, .slice ak ks.length ck] 25)).alloc (.cells #[.slice none 0 0, .int .u8 0] 104))
  have B0 := Lib.hid (bl_a2 w (.cells #[.int .i64 k, .int .i64 d, vn, .slice ak ks.length ck] 25) (.cells #[.slice none 0 0, .int .u8 0] 104))
  have L1 := Lib.hid (Lb.new2 w (.cells #[.int .i64 k, .int .i64 d, vn, .slice ak ks.length ck] 25) #[.slice none 0 0, .int .u8 0] 104)
  have Hdn : Hid (∀ b, b < w.heap.size + 2 → Old S w.heap.size b → Ex S (w.heap.size + 1) b) := Lib.hid fun b hb ho => ⟨ho.1, by have := ho.2; omega⟩
  by_cases hz : ks.length = 0
  · have hk0 : ks = [] := List.eq_nil_of_length_eq_zero hz
    subst hk0
    have HJ : Hid (joined Geo.t Geo.force d (([] : List G).map geoOf) = ([], d % 4)) := Lib.hid (by simp [joined])
    clear hz h h2 IH
    go_enter Tryz.func63, Tryz.ntmps63
    go_wp2_with fail
    refine (c49 _ _).mono ?_
    rintro e w' ⟨rfl, rfl⟩
    go_wp2_with fail
    refine (c113 (Ex S (w.heap.size + 1)) [] 0 (d % 4) none 0 _ (by simp [Geo.okL]) (fun j hj => absurd hj (by simp)) (by omega) (by omega) (by simp) (Ex.up hS (by simp; omega) (by simp)) (Rd.nil _ _)).mono ?_
    rintro e w1 ⟨a', c', rfl, hr2, hb1⟩
    have HL1 := L1.out.blw hb1
    have HB2 := Lib.hid (B0.out.trans (hb1.mono (by simp; omega)))
    obtain ⟨k1, f1, lt1⟩ := HL1.use
    have Hr2 := Lib.hid hr2
    clear hb1 HL1 hr2
    go_wp2_with fail
    rw [HJ.out]
    refine bodyPost_ret (v := .agg #[.slice a' ([] : List Geo).length c', .int .u8 (d % 4)]) (by simp [results, Tryz.results63, go_sem, k1]) rfl ⟨_, _, rfl, ?_, ?_⟩
    · refine Rd.unex (L := w.heap.size + 1) ?_
      have hz : Rd (Ex S (w.heap.size + 1)) w1 (.list []) (.slice a' 0 c') := by simpa using Hr2.out
      simp only [List.map_nil, List.length_nil]
      repeat (with_reducible first | refine Rd.set ?_ _ _ | exact hz)
    · repeat (with_reducible first | refine Below.setCell ?_ (by simp) _ | exact HB2.out)
  · have HJ : Hid (joined Geo.t Geo.force d (ks.map geoOf) = ((ks.map geoOf).map (Geo.force · (foldT ((ks.map geoOf).map Geo.t))), foldT ((ks.map geoOf).map Geo.t))) := Lib.hid (by simp [joined, hz])
    have hzb : ((ks.length : Int) == 0) = false := by rw [beq_eq_false_iff_ne]; omega
    have Hgk : Hid (∀ l ∈ ks.map geoOf, l.ok) := Lib.hid fun l hl => by
      obtain ⟨g, hg, rfl⟩ := List.mem_map.1 hl
      exact geoOf_ok g (G.okL_mem hok g hg)
    have H125 := Lib.hid fun (W : World) hS h => c125 (Ex S (w.heap.size + 1)) ks ak ck W IH hlen hS h
    have H124 : Hid (∀ (W : World) (a : Option Addr) (c : Nat) (hS : ∀ b, W.heap.size ≤ b → Ex S (w.heap.size + 1) b), Rd (Ex S (w.heap.size + 1)) W (.list ((ks.map geoOf).map Geo.fs)) (.slice a ks.length c) → Calls Tryz.prog 124 #[.slice a ks.length c] W fun e w' => ∃ a' c', e = .returned (.agg #[.slice a' ks.length c', .int .u8 (foldT ((ks.map geoOf).map Geo.t))]) ∧
        Rd (Ex S (w.heap.size + 1)) w' (.list (((ks.map geoOf).map (Geo.force · (foldT ((ks.map geoOf).map Geo.t)))).map Geo.fs)) (.slice a' ks.length c') ∧ Below W.heap.size W w') := Lib.hid fun W a c hS h => by
      have := c124 (Ex S (w.heap.size + 1)) (ks.map geoOf) a c W Hgk.out (by simp; omega) (by simpa using hlen) hS (by simpa using h)
      simpa only [List.length_map] using this
    clear h IH hok
    generalize hT : foldT ((ks.map geoOf).map Geo.t) = T at *
    have hT := Lib.hid hT
    go_enter Tryz.func63, Tryz.ntmps63
    go_wp2_with fail
    refine (H125.out _ (Ex.up hS (by simp; omega) (by simp)) (h2.out.mono (by simpa using Hdn.out))).mono ?_
    rintro e w1 ⟨a1, c1, rfl, hr1, hb1⟩
    have HL1 := Lib.hid (L1.out.blw hb1)
    have HB1 := Lib.hid (B0.out.trans (hb1.mono (by simp; omega)))
    have Hr1 := Lib.hid hr1
    have hsz1 : w.heap.size + 2 ≤ w1.heap.size := by have := hb1.size; simp at this; omega
    clear hb1 hr1
    go_wp2_with fail
    refine (H124.out w1 a1 c1 (Ex.up hS (by omega) (by omega)) Hr1.out).mono ?_
    rintro e w2 ⟨a2, c2, rfl, hr2, hb2⟩
    have HL2 := HL1.out.blw hb2
    have HB2 := Lib.hid (HB1.out.trans (hb2.mono (by omega)))
    obtain ⟨k1, f1, lt1⟩ := HL2.use
    have Hr2 := Lib.hid hr2
    clear hb2 HL2 hr2
    go_wp2_with fail
    rw [HJ.out]
    refine bodyPost_ret (v := .agg #[.slice a2 ks.length c2, .int .u8 T]) (by simp [results, Tryz.results63, go_sem, k1]) rfl ⟨a2, c2, by simp only [List.length_map], ?_, ?_⟩
    · simp only [List.length_map]
      refine Rd.unex (L := w.heap.size + 1) ?_
      have hz := Hr2.out
      repeat (with_reducible first | refine Rd.set ?_ _ _ | exact hz)
    · repeat (with_reducible first | refine Below.setCell ?_ (by simp) _ | exact HB2.out)
end Go.Proofs.YtahnhhkbdgaidaaGreatDoor
