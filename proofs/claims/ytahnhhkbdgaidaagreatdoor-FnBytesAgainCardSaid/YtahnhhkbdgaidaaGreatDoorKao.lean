/-
  The reference's numbers of places.
-/
import Derived.Test.YtahnhhkbdgaidaaGreatDoorKan
namespace Go.Proofs.YtahnhhkbdgaidaaGreatDoor
open Go.RowKit
set_option maxRecDepth 100000
/-- A row of numbers of the call's own. -/
structure Fl (B : Nat) (w : World) (v : Value) (xs : List Nat) : Prop where
  own : w.ownsRow B 43 1 v xs.length (xs.map (Value.float .f64))
theorem Fl.nil (B : Nat) (w : World) : Fl B w (.slice none 0 0) [] := ⟨World.ownsRow_nil w B 43 1⟩
theorem Fl.shape {B : Nat} {w : World} {v : Value} {xs : List Nat} (h : Fl B w v xs) : ∃ a c, v = .slice a xs.length c := by
  rcases h.own.2 with ⟨rfl, h0⟩ | ⟨g, cap, cur, rfl, _⟩
  · exact ⟨none, 0, by rw [h0]⟩
  · exact ⟨_, _, rfl⟩
theorem Fl.lt {B : Nat} {w : World} {v : Value} {xs : List Nat} (h : Fl B w v xs) : ∀ k, v.ownBlock = some k → B ≤ k ∧ k < w.heap.size := h.own.lt
theorem Fl.step {B : Nat} {w w' : World} {v : Value} {xs : List Nat} (h : Fl B w v xs) (hk : Below w.heap.size w w') : Fl B w' v xs :=
  ⟨h.own.kept (row := none) ⟨hk.os, hk.tape, hk.output, hk.size, fun k hk' _ => hk.block k hk'⟩ (by cases hv : v.ownBlock <;> simp)⟩
theorem Fl.rd {B : Nat} {w : World} {v : Value} {xs : List Nat} (h : Fl B w v xs) {S : Nat → Prop} (hS : ∀ k, B ≤ k → S k) (hm : xs.length ≤ 17592186044416) : Rd S w (fl xs) v := by
  rcases h.own.2 with ⟨rfl, h0⟩ | ⟨g, cap, cur, rfl, hg, hb, hn, hc, hs, ht⟩
  · obtain rfl : xs = [] := List.eq_nil_of_length_eq_zero h0
    exact .nil _ _
  · refine fl_row hb (hS g hg) hm fun i hi => ?_
    have e : (cur.toList.take (xs.length * 1))[i]? = (xs.map (Value.float .f64))[i]? := by rw [ht]
    rw [List.getElem?_take, if_pos (by omega)] at e
    simpa [hi] using e
theorem app_fl {B : Nat} {w : World} {v : Value} {xs : List Nat} (h : Fl B w v xs) (ys : List Nat) (n : Nat) (cs : Array Value) (hn : ys.length = n) (hcs : cs.toList = ys.map (Value.float .f64)) (_ : 0 < n) (hlen : xs.length + n ≤ 1000000000) (hB : B ≤ w.heap.size) :
    ∃ v' w', (Builtin.append_ #[22, 22] 22 #[v, .slice (some ⟨w.heap.size, 0, none⟩) n n]).run Tryz.prog (w.alloc (.cells cs 43)) = .ok v' w' ∧ Fl B w' v' (xs ++ ys) ∧ w.grownBy w' v.ownBlock ∧ (∀ q, v'.ownBlock = some q → v.ownBlock = some q ∨ w.heap.size < q) := by
  obtain ⟨i0, hi0, hz0, hz1, hz2⟩ := info_parts info43
  have h1 := h.step (bl_a1 w (.cells cs 43))
  obtain ⟨v', w', hrun, ho', hg, _, hat⟩ := run_append_own_at (P := Tryz.prog) (w.alloc (.cells cs 43)) B 22 22 43 i0 (.float .f64 0) 1 8 Tryz.underlying22 hi0 hz0 hz1 hz2 rfl (by decide) v xs.length (xs.map (Value.float .f64)) h1.own
    ⟨w.heap.size, 0, none⟩ n n cs.toList (by rw [hcs]; simp [hn]) (fun j u hj => by
      rw [Addr.add_lit, World.cell?_alloc_at _ _ _ _ rfl]; simpa using hj) (by rw [hcs]; intro u hu; obtain ⟨x, _, rfl⟩ := List.mem_map.1 hu; rfl) (by simp only [maxLen]; omega) (by omega) (by simp; omega)
  refine ⟨v', w', hrun, ⟨?_⟩, ⟨hg.os, hg.tape, hg.output, Nat.le_trans (by simp) hg.size, fun k hk hne => (hg.block k (by simp; omega) hne).trans (heap_alloc_old w _ hk)⟩, fun q hq => ?_⟩
  · rw [hcs, ← List.map_append] at ho'
    rw [List.length_append, hn]
    exact ho'
  · rcases hat with e | e
    · exact .inl (e ▸ hq)
    · rw [e] at hq; simp at hq; exact .inr (by omega)
theorem pl_at {S : Nat → Prop} {w : World} {ls : List Crd} {v : Value} (h : Rd S w (.list (ls.map plF)) v) : ∃ a c, v = .slice a ls.length c ∧ ls.length ≤ 17592186044416 ∧
    ∀ i (hi : i < ls.length), ∃ b off, a = some ⟨b, off, none⟩ ∧ S b ∧ b < w.heap.size ∧ w.cell? ⟨b, off + i * 4, none⟩ = some (.float .f64 (ls[i]).x) ∧ w.cell? ⟨b, off + i * 4 + 1, none⟩ = some (.float .f64 (ls[i]).y) ∧
      w.cell? ⟨b, off + i * 4 + 2, none⟩ = some (.float .f64 (ls[i]).z) ∧ w.cell? ⟨b, off + i * 4 + 3, none⟩ = some (.float .f64 (ls[i]).m) := by
  obtain ⟨a, c, rfl, hm, hi⟩ := list_at h 4 (by simp [plF])
  simp only [List.length_map] at *
  refine ⟨a, c, rfl, hm, fun i hlt => ?_⟩
  obtain ⟨b, off, rfl, hS, hb, x, hx⟩ := hi i hlt
  have e : (ls.map plF)[i]'(by simpa using hlt) = [.atom (.float .f64 (ls[i]).x), .atom (.float .f64 (ls[i]).y), .atom (.float .f64 (ls[i]).z), .atom (.float .f64 (ls[i]).m)] := by simp [plF]
  obtain ⟨c0, r0⟩ := hx 0 (by rw [e]; simp)
  obtain ⟨c1, r1⟩ := hx 1 (by rw [e]; simp)
  obtain ⟨c2, r2⟩ := hx 2 (by rw [e]; simp)
  obtain ⟨c3, r3⟩ := hx 3 (by rw [e]; simp)
  simp only [e, List.getElem_cons_zero, List.getElem_cons_succ] at r0 r1 r2 r3
  rw [r0.atom_inv] at c0
  rw [r1.atom_inv] at c1
  rw [r2.atom_inv] at c2
  rw [r3.atom_inv] at c3
  exact ⟨b, off, rfl, hS, hb, by simpa using c0, c1, c2, c3⟩
theorem numsOf_take (t : Int) (l : List Crd) (j : Nat) (h : j < l.length) : numsOf t (l.take (j + 1)) = numsOf t (l.take j) ++ crdNums t l[j] := by
  unfold numsOf; rw [List.take_succ_eq_append_getElem h]; simp only [List.flatMap_append, List.flatMap_cons, List.flatMap_nil, List.append_nil]
set_option maxHeartbeats 2000000 in
theorem c82_0 (S : Nat → Prop) (ps : List Crd) (a : Option Addr) (c : Nat) (w : World) (hlen : ps.length ≤ 1000000) (hS : ∀ b, w.heap.size ≤ b → S b) (h : Rd S w (.list (ps.map plF)) (.slice a ps.length c)) :
    Calls Tryz.prog 82 #[.slice a ps.length c, .int .i64 0] w fun e w' => ∃ a' c', e = .returned (.slice a' (numsOf 0 ps).length c') ∧ Rd S w' (fl (numsOf 0 ps)) (.slice a' (numsOf 0 ps).length c') ∧ Below w.heap.size w w' := by
  have hsf := st_float
  have ha1 : bits .and .i64 0 1 = 0 := by decide
  have ha2 : bits .and .i64 0 2 = 0 := by decide
  go_enter Tryz.func82, Tryz.ntmps82
  go_wp2_with fail
  go_loopw [5, 10] (fun v i wr => ∃ j : Nat, j ≤ ps.length ∧ i = .int .i64 j ∧ Fl w.heap.size wr v (numsOf 0 (ps.take j)) ∧ Rd (Old S w.heap.size) wr (.list (ps.map plF)) (.slice a ps.length c) ∧ Below w.heap.size w wr) (fun _ i _ => ps.length - (intOf i).toNat)
  case atStart => exact ⟨0, Nat.zero_le _, rfl, by simpa [numsOf] using Fl.nil _ _, h.old, Below.refl _ _⟩
  case round =>
    obtain ⟨j, hj, rfl, hR, hr, hB⟩ := hrel
    have hnl : (numsOf 0 (ps.take j)).length ≤ 4000000 := by
      have h1 := numsOf_len 0 (ps.take j); have h2 := (dN_bd 0).2
      have h3 := Nat.mul_le_mul (show (ps.take j).length ≤ 1000000 by rw [List.length_take]; omega) h2
      omega
    by_cases hlt : j < ps.length
    · obtain ⟨a0, c0, e0, hm, hat⟩ := pl_at hr
      obtain ⟨rfl, _, rfl⟩ := Value.slice.inj e0
      obtain ⟨b, off, rfl, hSb, hbl, q0, q1, q2, q3⟩ := hat j hlt
      have HN := Lib.hid (numsOf_take 0 ps j hlt)
      generalize numsOf 0 (ps.take j) = ns at *
      have hLA := Lb.new wr #[.float .f64 (ps[j]).x, .float .f64 (ps[j]).y, .float .f64 (ps[j]).z, .float .f64 (ps[j]).m] 117
      have hbA := bl_a1 wr (.cells #[.float .f64 (ps[j]).x, .float .f64 (ps[j]).y, .float .f64 (ps[j]).z, .float .f64 (ps[j]).m] 117)
      obtain ⟨v2, w2, hap, hR2, hg, hl2⟩ := app_fl (hR.step hbA) [(ps[j]).x, (ps[j]).y] 2 #[.float .f64 (ps[j]).x, .float .f64 (ps[j]).y] rfl rfl (by omega) (by omega) (by have := hB.size; simp; omega)
      rw [World.size_alloc] at hap
      have hown : ∀ q, (_ : Option Nat) = some q → w.heap.size ≤ q ∧ q < wr.heap.size := fun q hq => hR.lt q hq
      have hL2 := hLA.grown hg (fun e => by have := (hown _ e.symm).2; omega)
      have hr2 := (hr.blw hbA).grown hg (fun q hq e => by have := (hown _ e.symm).1; have := hq.2; omega)
      have hB2 := (hB.trans (hbA.mono hB.size)).grown hg (by have := hbA.size; have := hB.size; omega) (fun q hq => (hown q hq).1)
      have Hap := Lib.hid hap
      have hnx3 : some wr.heap.size ≠ v2.ownBlock := fun e => by
        rcases hl2 _ e.symm with h | h
        · have := (hown _ h).2; omega
        · simp at h; omega
      obtain ⟨kb2, _, _⟩ := hL2.use
      have HRf := Lib.hid hR2; have Hrf := Lib.hid hr2; have HBf := Lib.hid hB2
      clear hR hr hB hat e0 hap hg hown hbA hl2 hR2 hr2 hB2 hL2 hLA 
      have hcn : Hid (crdNums 0 ps[j] = [(ps[j]).x, (ps[j]).y]) := Lib.hid (by simp [crdNums])
      go_wp2_with (first | (at_builtin; refine wpList_append_eq rfl _ _ 22 rfl rfl rfl rfl Hap.out ?_))
      go_roundw
      case rel =>
        refine ⟨j + 1, by omega, by go_num, ?_, Hrf.out, HBf.out⟩
        rw [HN.out, hcn.out]
        simpa using HRf.out
      case measure => simp [intOf]; omega
    · obtain rfl : j = ps.length := by omega
      rw [List.take_length] at hR hnl
      have hdl : decide (((ps.length : Nat) : Int) < ps.length) = false := by simp
      obtain ⟨av, cv, hv⟩ := hR.shape
      have hrd := hR.rd hS (by omega)
      subst hv
      have Hrd := Lib.hid hrd; have HB := Lib.hid hB
      clear hR hr hB hrd h hnl
      go_wp2_with fail
      go_ret
      exact ⟨_, _, rfl, Hrd.out, HB.out⟩
set_option maxHeartbeats 2000000 in
theorem c82_1 (S : Nat → Prop) (ps : List Crd) (a : Option Addr) (c : Nat) (w : World) (hlen : ps.length ≤ 1000000) (hS : ∀ b, w.heap.size ≤ b → S b) (h : Rd S w (.list (ps.map plF)) (.slice a ps.length c)) :
    Calls Tryz.prog 82 #[.slice a ps.length c, .int .i64 1] w fun e w' => ∃ a' c', e = .returned (.slice a' (numsOf 1 ps).length c') ∧ Rd S w' (fl (numsOf 1 ps)) (.slice a' (numsOf 1 ps).length c') ∧ Below w.heap.size w w' := by
  have hsf := st_float
  have ha1 : bits .and .i64 1 1 = 1 := by decide
  have ha2 : bits .and .i64 1 2 = 0 := by decide
  go_enter Tryz.func82, Tryz.ntmps82
  go_wp2_with fail
  go_loopw [5, 10] (fun v i wr => ∃ j : Nat, j ≤ ps.length ∧ i = .int .i64 j ∧ Fl w.heap.size wr v (numsOf 1 (ps.take j)) ∧ Rd (Old S w.heap.size) wr (.list (ps.map plF)) (.slice a ps.length c) ∧ Below w.heap.size w wr) (fun _ i _ => ps.length - (intOf i).toNat)
  case atStart => exact ⟨0, Nat.zero_le _, rfl, by simpa [numsOf] using Fl.nil _ _, h.old, Below.refl _ _⟩
  case round =>
    obtain ⟨j, hj, rfl, hR, hr, hB⟩ := hrel
    have hnl : (numsOf 1 (ps.take j)).length ≤ 4000000 := by
      have h1 := numsOf_len 1 (ps.take j); have h2 := (dN_bd 1).2
      have h3 := Nat.mul_le_mul (show (ps.take j).length ≤ 1000000 by rw [List.length_take]; omega) h2
      omega
    by_cases hlt : j < ps.length
    · obtain ⟨a0, c0, e0, hm, hat⟩ := pl_at hr
      obtain ⟨rfl, _, rfl⟩ := Value.slice.inj e0
      obtain ⟨b, off, rfl, hSb, hbl, q0, q1, q2, q3⟩ := hat j hlt
      have HN := Lib.hid (numsOf_take 1 ps j hlt)
      generalize numsOf 1 (ps.take j) = ns at *
      have hLA := Lb.new wr #[.float .f64 (ps[j]).x, .float .f64 (ps[j]).y, .float .f64 (ps[j]).z, .float .f64 (ps[j]).m] 117
      have hbA := bl_a1 wr (.cells #[.float .f64 (ps[j]).x, .float .f64 (ps[j]).y, .float .f64 (ps[j]).z, .float .f64 (ps[j]).m] 117)
      obtain ⟨v2, w2, hap, hR2, hg, hl2⟩ := app_fl (hR.step hbA) [(ps[j]).x, (ps[j]).y] 2 #[.float .f64 (ps[j]).x, .float .f64 (ps[j]).y] rfl rfl (by omega) (by omega) (by have := hB.size; simp; omega)
      rw [World.size_alloc] at hap
      have hown : ∀ q, (_ : Option Nat) = some q → w.heap.size ≤ q ∧ q < wr.heap.size := fun q hq => hR.lt q hq
      have hL2 := hLA.grown hg (fun e => by have := (hown _ e.symm).2; omega)
      have hr2 := (hr.blw hbA).grown hg (fun q hq e => by have := (hown _ e.symm).1; have := hq.2; omega)
      have hB2 := (hB.trans (hbA.mono hB.size)).grown hg (by have := hbA.size; have := hB.size; omega) (fun q hq => (hown q hq).1)
      have Hap := Lib.hid hap
      have hnx3 : some wr.heap.size ≠ v2.ownBlock := fun e => by
        rcases hl2 _ e.symm with h | h
        · have := (hown _ h).2; omega
        · simp at h; omega
      obtain ⟨kb2, _, _⟩ := hL2.use
      obtain ⟨v3, w3, hap3, hR3, hg3, hl3⟩ := app_fl hR2 [(ps[j]).z] 1 #[.float .f64 (ps[j]).z] rfl rfl (by omega) (by simp only [List.length_append, List.length_cons, List.length_nil]; omega) (by have := hB2.size; omega)
      have hown3 : ∀ q, (_ : Option Nat) = some q → w.heap.size ≤ q ∧ q < w2.heap.size := fun q hq => hR2.lt q hq
      have hne3 : some wr.heap.size ≠ v2.ownBlock := hnx3
      have hL3 := hL2.grown hg3 hne3
      have hr3 := hr2.grown hg3 (fun q hq e => by have := (hown3 _ e.symm).1; have := hq.2; omega)
      have hB3 := hB2.grown hg3 (by have := hB2.size; omega) (fun q hq => (hown3 q hq).1)
      have Hap3 := Lib.hid hap3
      have hnx4 : some wr.heap.size ≠ v3.ownBlock := fun e => by
        rcases hl3 _ e.symm with h | h
        · exact hne3 h.symm
        · have := hL2.use.2.2; omega
      obtain ⟨kb3, _, _⟩ := hL3.use
      have HRf := Lib.hid hR3; have Hrf := Lib.hid hr3; have HBf := Lib.hid hB3
      clear hR hr hB hat e0 hap hg hown hbA hap3 hg3 hown3 hne3 hl3 hnx4 hl2 hR2 hr2 hB2 hL2 hLA hR3 hr3 hB3 hL3
      have hcn : Hid (crdNums 1 ps[j] = [(ps[j]).x, (ps[j]).y] ++ [(ps[j]).z]) := Lib.hid (by simp [crdNums])
      go_wp2_with (first | (at_builtin; refine wpList_append_eq rfl _ _ 22 rfl rfl rfl rfl Hap.out ?_) | (at_builtin; refine wpList_append_eq rfl _ _ 22 rfl rfl rfl rfl Hap3.out ?_))
      go_roundw
      case rel =>
        refine ⟨j + 1, by omega, by go_num, ?_, Hrf.out, HBf.out⟩
        rw [HN.out, hcn.out]
        simpa using HRf.out
      case measure => simp [intOf]; omega
    · obtain rfl : j = ps.length := by omega
      rw [List.take_length] at hR hnl
      have hdl : decide (((ps.length : Nat) : Int) < ps.length) = false := by simp
      obtain ⟨av, cv, hv⟩ := hR.shape
      have hrd := hR.rd hS (by omega)
      subst hv
      have Hrd := Lib.hid hrd; have HB := Lib.hid hB
      clear hR hr hB hrd h hnl
      go_wp2_with fail
      go_ret
      exact ⟨_, _, rfl, Hrd.out, HB.out⟩
set_option maxHeartbeats 2000000 in
theorem c82_2 (S : Nat → Prop) (ps : List Crd) (a : Option Addr) (c : Nat) (w : World) (hlen : ps.length ≤ 1000000) (hS : ∀ b, w.heap.size ≤ b → S b) (h : Rd S w (.list (ps.map plF)) (.slice a ps.length c)) :
    Calls Tryz.prog 82 #[.slice a ps.length c, .int .i64 2] w fun e w' => ∃ a' c', e = .returned (.slice a' (numsOf 2 ps).length c') ∧ Rd S w' (fl (numsOf 2 ps)) (.slice a' (numsOf 2 ps).length c') ∧ Below w.heap.size w w' := by
  have hsf := st_float
  have ha1 : bits .and .i64 2 1 = 0 := by decide
  have ha2 : bits .and .i64 2 2 = 2 := by decide
  go_enter Tryz.func82, Tryz.ntmps82
  go_wp2_with fail
  go_loopw [5, 10] (fun v i wr => ∃ j : Nat, j ≤ ps.length ∧ i = .int .i64 j ∧ Fl w.heap.size wr v (numsOf 2 (ps.take j)) ∧ Rd (Old S w.heap.size) wr (.list (ps.map plF)) (.slice a ps.length c) ∧ Below w.heap.size w wr) (fun _ i _ => ps.length - (intOf i).toNat)
  case atStart => exact ⟨0, Nat.zero_le _, rfl, by simpa [numsOf] using Fl.nil _ _, h.old, Below.refl _ _⟩
  case round =>
    obtain ⟨j, hj, rfl, hR, hr, hB⟩ := hrel
    have hnl : (numsOf 2 (ps.take j)).length ≤ 4000000 := by
      have h1 := numsOf_len 2 (ps.take j); have h2 := (dN_bd 2).2
      have h3 := Nat.mul_le_mul (show (ps.take j).length ≤ 1000000 by rw [List.length_take]; omega) h2
      omega
    by_cases hlt : j < ps.length
    · obtain ⟨a0, c0, e0, hm, hat⟩ := pl_at hr
      obtain ⟨rfl, _, rfl⟩ := Value.slice.inj e0
      obtain ⟨b, off, rfl, hSb, hbl, q0, q1, q2, q3⟩ := hat j hlt
      have HN := Lib.hid (numsOf_take 2 ps j hlt)
      generalize numsOf 2 (ps.take j) = ns at *
      have hLA := Lb.new wr #[.float .f64 (ps[j]).x, .float .f64 (ps[j]).y, .float .f64 (ps[j]).z, .float .f64 (ps[j]).m] 117
      have hbA := bl_a1 wr (.cells #[.float .f64 (ps[j]).x, .float .f64 (ps[j]).y, .float .f64 (ps[j]).z, .float .f64 (ps[j]).m] 117)
      obtain ⟨v2, w2, hap, hR2, hg, hl2⟩ := app_fl (hR.step hbA) [(ps[j]).x, (ps[j]).y] 2 #[.float .f64 (ps[j]).x, .float .f64 (ps[j]).y] rfl rfl (by omega) (by omega) (by have := hB.size; simp; omega)
      rw [World.size_alloc] at hap
      have hown : ∀ q, (_ : Option Nat) = some q → w.heap.size ≤ q ∧ q < wr.heap.size := fun q hq => hR.lt q hq
      have hL2 := hLA.grown hg (fun e => by have := (hown _ e.symm).2; omega)
      have hr2 := (hr.blw hbA).grown hg (fun q hq e => by have := (hown _ e.symm).1; have := hq.2; omega)
      have hB2 := (hB.trans (hbA.mono hB.size)).grown hg (by have := hbA.size; have := hB.size; omega) (fun q hq => (hown q hq).1)
      have Hap := Lib.hid hap
      have hnx3 : some wr.heap.size ≠ v2.ownBlock := fun e => by
        rcases hl2 _ e.symm with h | h
        · have := (hown _ h).2; omega
        · simp at h; omega
      obtain ⟨kb2, _, _⟩ := hL2.use
      obtain ⟨v3, w3, hap3, hR3, hg3, hl3⟩ := app_fl hR2 [(ps[j]).m] 1 #[.float .f64 (ps[j]).m] rfl rfl (by omega) (by simp only [List.length_append, List.length_cons, List.length_nil]; omega) (by have := hB2.size; omega)
      have hown3 : ∀ q, (_ : Option Nat) = some q → w.heap.size ≤ q ∧ q < w2.heap.size := fun q hq => hR2.lt q hq
      have hne3 : some wr.heap.size ≠ v2.ownBlock := hnx3
      have hL3 := hL2.grown hg3 hne3
      have hr3 := hr2.grown hg3 (fun q hq e => by have := (hown3 _ e.symm).1; have := hq.2; omega)
      have hB3 := hB2.grown hg3 (by have := hB2.size; omega) (fun q hq => (hown3 q hq).1)
      have Hap3 := Lib.hid hap3
      have hnx4 : some wr.heap.size ≠ v3.ownBlock := fun e => by
        rcases hl3 _ e.symm with h | h
        · exact hne3 h.symm
        · have := hL2.use.2.2; omega
      obtain ⟨kb3, _, _⟩ := hL3.use
      have HRf := Lib.hid hR3; have Hrf := Lib.hid hr3; have HBf := Lib.hid hB3
      clear hR hr hB hat e0 hap hg hown hbA hap3 hg3 hown3 hne3 hl3 hnx4 hl2 hR2 hr2 hB2 hL2 hLA hR3 hr3 hB3 hL3
      have hcn : Hid (crdNums 2 ps[j] = [(ps[j]).x, (ps[j]).y] ++ [(ps[j]).m]) := Lib.hid (by simp [crdNums])
      go_wp2_with (first | (at_builtin; refine wpList_append_eq rfl _ _ 22 rfl rfl rfl rfl Hap.out ?_) | (at_builtin; refine wpList_append_eq rfl _ _ 22 rfl rfl rfl rfl Hap3.out ?_))
      go_roundw
      case rel =>
        refine ⟨j + 1, by omega, by go_num, ?_, Hrf.out, HBf.out⟩
        rw [HN.out, hcn.out]
        simpa using HRf.out
      case measure => simp [intOf]; omega
    · obtain rfl : j = ps.length := by omega
      rw [List.take_length] at hR hnl
      have hdl : decide (((ps.length : Nat) : Int) < ps.length) = false := by simp
      obtain ⟨av, cv, hv⟩ := hR.shape
      have hrd := hR.rd hS (by omega)
      subst hv
      have Hrd := Lib.hid hrd; have HB := Lib.hid hB
      clear hR hr hB hrd h hnl
      go_wp2_with fail
      go_ret
      exact ⟨_, _, rfl, Hrd.out, HB.out⟩
set_option maxHeartbeats 2000000 in
theorem c82_3 (S : Nat → Prop) (ps : List Crd) (a : Option Addr) (c : Nat) (w : World) (hlen : ps.length ≤ 1000000) (hS : ∀ b, w.heap.size ≤ b → S b) (h : Rd S w (.list (ps.map plF)) (.slice a ps.length c)) :
    Calls Tryz.prog 82 #[.slice a ps.length c, .int .i64 3] w fun e w' => ∃ a' c', e = .returned (.slice a' (numsOf 3 ps).length c') ∧ Rd S w' (fl (numsOf 3 ps)) (.slice a' (numsOf 3 ps).length c') ∧ Below w.heap.size w w' := by
  have hsf := st_float
  have ha1 : bits .and .i64 3 1 = 1 := by decide
  have ha2 : bits .and .i64 3 2 = 2 := by decide
  go_enter Tryz.func82, Tryz.ntmps82
  go_wp2_with fail
  go_loopw [5, 10] (fun v i wr => ∃ j : Nat, j ≤ ps.length ∧ i = .int .i64 j ∧ Fl w.heap.size wr v (numsOf 3 (ps.take j)) ∧ Rd (Old S w.heap.size) wr (.list (ps.map plF)) (.slice a ps.length c) ∧ Below w.heap.size w wr) (fun _ i _ => ps.length - (intOf i).toNat)
  case atStart => exact ⟨0, Nat.zero_le _, rfl, by simpa [numsOf] using Fl.nil _ _, h.old, Below.refl _ _⟩
  case round =>
    obtain ⟨j, hj, rfl, hR, hr, hB⟩ := hrel
    have hnl : (numsOf 3 (ps.take j)).length ≤ 4000000 := by
      have h1 := numsOf_len 3 (ps.take j); have h2 := (dN_bd 3).2
      have h3 := Nat.mul_le_mul (show (ps.take j).length ≤ 1000000 by rw [List.length_take]; omega) h2
      omega
    by_cases hlt : j < ps.length
    · obtain ⟨a0, c0, e0, hm, hat⟩ := pl_at hr
      obtain ⟨rfl, _, rfl⟩ := Value.slice.inj e0
      obtain ⟨b, off, rfl, hSb, hbl, q0, q1, q2, q3⟩ := hat j hlt
      have HN := Lib.hid (numsOf_take 3 ps j hlt)
      generalize numsOf 3 (ps.take j) = ns at *
      have hLA := Lb.new wr #[.float .f64 (ps[j]).x, .float .f64 (ps[j]).y, .float .f64 (ps[j]).z, .float .f64 (ps[j]).m] 117
      have hbA := bl_a1 wr (.cells #[.float .f64 (ps[j]).x, .float .f64 (ps[j]).y, .float .f64 (ps[j]).z, .float .f64 (ps[j]).m] 117)
      obtain ⟨v2, w2, hap, hR2, hg, hl2⟩ := app_fl (hR.step hbA) [(ps[j]).x, (ps[j]).y] 2 #[.float .f64 (ps[j]).x, .float .f64 (ps[j]).y] rfl rfl (by omega) (by omega) (by have := hB.size; simp; omega)
      rw [World.size_alloc] at hap
      have hown : ∀ q, (_ : Option Nat) = some q → w.heap.size ≤ q ∧ q < wr.heap.size := fun q hq => hR.lt q hq
      have hL2 := hLA.grown hg (fun e => by have := (hown _ e.symm).2; omega)
      have hr2 := (hr.blw hbA).grown hg (fun q hq e => by have := (hown _ e.symm).1; have := hq.2; omega)
      have hB2 := (hB.trans (hbA.mono hB.size)).grown hg (by have := hbA.size; have := hB.size; omega) (fun q hq => (hown q hq).1)
      have Hap := Lib.hid hap
      have hnx3 : some wr.heap.size ≠ v2.ownBlock := fun e => by
        rcases hl2 _ e.symm with h | h
        · have := (hown _ h).2; omega
        · simp at h; omega
      obtain ⟨kb2, _, _⟩ := hL2.use
      obtain ⟨v3, w3, hap3, hR3, hg3, hl3⟩ := app_fl hR2 [(ps[j]).z] 1 #[.float .f64 (ps[j]).z] rfl rfl (by omega) (by simp only [List.length_append, List.length_cons, List.length_nil]; omega) (by have := hB2.size; omega)
      have hown3 : ∀ q, (_ : Option Nat) = some q → w.heap.size ≤ q ∧ q < w2.heap.size := fun q hq => hR2.lt q hq
      have hne3 : some wr.heap.size ≠ v2.ownBlock := hnx3
      have hL3 := hL2.grown hg3 hne3
      have hr3 := hr2.grown hg3 (fun q hq e => by have := (hown3 _ e.symm).1; have := hq.2; omega)
      have hB3 := hB2.grown hg3 (by have := hB2.size; omega) (fun q hq => (hown3 q hq).1)
      have Hap3 := Lib.hid hap3
      have hnx4 : some wr.heap.size ≠ v3.ownBlock := fun e => by
        rcases hl3 _ e.symm with h | h
        · exact hne3 h.symm
        · have := hL2.use.2.2; omega
      obtain ⟨kb3, _, _⟩ := hL3.use
      obtain ⟨v4, w4, hap4, hR4, hg4, hl4⟩ := app_fl hR3 [(ps[j]).m] 1 #[.float .f64 (ps[j]).m] rfl rfl (by omega) (by simp only [List.length_append, List.length_cons, List.length_nil]; omega) (by have := hB3.size; omega)
      have hown4 : ∀ q, (_ : Option Nat) = some q → w.heap.size ≤ q ∧ q < w3.heap.size := fun q hq => hR3.lt q hq
      have hne4 : some wr.heap.size ≠ v3.ownBlock := hnx4
      have hL4 := hL3.grown hg4 hne4
      have hr4 := hr3.grown hg4 (fun q hq e => by have := (hown4 _ e.symm).1; have := hq.2; omega)
      have hB4 := hB3.grown hg4 (by have := hB3.size; omega) (fun q hq => (hown4 q hq).1)
      have Hap4 := Lib.hid hap4
      have hnx5 : some wr.heap.size ≠ v4.ownBlock := fun e => by
        rcases hl4 _ e.symm with h | h
        · exact hne4 h.symm
        · have := hL3.use.2.2; omega
      obtain ⟨kb4, _, _⟩ := hL4.use
      have HRf := Lib.hid hR4; have Hrf := Lib.hid hr4; have HBf := Lib.hid hB4
      clear hR hr hB hat e0 hap hg hown hbA hap3 hg3 hown3 hne3 hap4 hg4 hown4 hne4 hl3 hnx4 hl4 hnx5 hl2 hR2 hr2 hB2 hL2 hLA hR3 hr3 hB3 hL3 hR4 hr4 hB4 hL4
      have hcn : Hid (crdNums 3 ps[j] = [(ps[j]).x, (ps[j]).y] ++ [(ps[j]).z] ++ [(ps[j]).m]) := Lib.hid (by simp [crdNums])
      go_wp2_with (first | (at_builtin; refine wpList_append_eq rfl _ _ 22 rfl rfl rfl rfl Hap.out ?_) | (at_builtin; refine wpList_append_eq rfl _ _ 22 rfl rfl rfl rfl Hap3.out ?_) | (at_builtin; refine wpList_append_eq rfl _ _ 22 rfl rfl rfl rfl Hap4.out ?_))
      go_roundw
      case rel =>
        refine ⟨j + 1, by omega, by go_num, ?_, Hrf.out, HBf.out⟩
        rw [HN.out, hcn.out]
        simpa using HRf.out
      case measure => simp [intOf]; omega
    · obtain rfl : j = ps.length := by omega
      rw [List.take_length] at hR hnl
      have hdl : decide (((ps.length : Nat) : Int) < ps.length) = false := by simp
      obtain ⟨av, cv, hv⟩ := hR.shape
      have hrd := hR.rd hS (by omega)
      subst hv
      have Hrd := Lib.hid hrd; have HB := Lib.hid hB
      clear hR hr hB hrd h hnl
      go_wp2_with fail
      go_ret
      exact ⟨_, _, rfl, Hrd.out, HB.out⟩
theorem c82 (S : Nat → Prop) (t : Int) (ps : List Crd) (a : Option Addr) (c : Nat) (w : World) (h0 : 0 ≤ t) (h1 : t ≤ 3) (hlen : ps.length ≤ 1000000) (hS : ∀ b, w.heap.size ≤ b → S b) (h : Rd S w (.list (ps.map plF)) (.slice a ps.length c)) :
    Calls Tryz.prog 82 #[.slice a ps.length c, .int .i64 t] w fun e w' => ∃ a' c', e = .returned (.slice a' (numsOf t ps).length c') ∧ Rd S w' (fl (numsOf t ps)) (.slice a' (numsOf t ps).length c') ∧ Below w.heap.size w w' := by
  rcases four t h0 h1 with rfl | rfl | rfl | rfl
  · exact c82_0 S ps a c w hlen hS h
  · exact c82_1 S ps a c w hlen hS h
  · exact c82_2 S ps a c w hlen hS h
  · exact c82_3 S ps a c w hlen hS h
end Go.Proofs.YtahnhhkbdgaidaaGreatDoor
