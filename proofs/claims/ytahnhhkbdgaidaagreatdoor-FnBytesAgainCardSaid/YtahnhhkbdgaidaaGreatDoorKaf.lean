/-
  Points under another type of coordinates.
-/
import Derived.Test.YtahnhhkbdgaidaaGreatDoorKae
namespace Go.Proofs.YtahnhhkbdgaidaaGreatDoor
open Go.RowKit
theorem q138 (t : Int) (w : World) (n : Nat) (h0 : 0 ≤ t) (h1 : t ≤ 3) : Calls Tryz.prog 138 #[.int .u8 t] (w.drewN n) fun e w' => e = .returned (.bool (hasZ t)) ∧ w' = w.drewN n :=
  (c138 t _ h0 h1).mono fun _ _ h => ⟨h.1, h.2.symm⟩
theorem q148 (t : Int) (w : World) (n : Nat) (h0 : 0 ≤ t) (h1 : t ≤ 3) : Calls Tryz.prog 148 #[.int .u8 t] (w.drewN n) fun e w' => e = .returned (.bool (hasM t)) ∧ w' = w.drewN n :=
  (c148 t _ h0 h1).mono fun _ _ h => ⟨h.1, h.2.symm⟩
theorem Lb.drewN {w : World} {b : Nat} {cs : Array Value} {T : TypeId} (h : Lb w b cs T) (n : Nat) : Lb (w.drewN n) b cs T := h
/-- A point under another type. -/
def Pt.force (p : Pt) (t' : Int) : Pt :=
  if p.full then ⟨⟨p.c.x, p.c.y, if hasZ t' != hasZ p.c.t then 0 else p.c.z, if hasM t' != hasM p.c.t then 0 else p.c.m, t'⟩, true⟩ else emptyPt t'
set_option maxRecDepth 100000 in
set_option maxHeartbeats 1000000 in
theorem c114 (p : Pt) (t' : Int) (w : World) (h0 : 0 ≤ p.c.t) (h1 : p.c.t ≤ 3) (g0 : 0 ≤ t') (g1 : t' ≤ 3) :
    Calls Tryz.prog 114 #[.agg p.cells, .int .u8 t'] w fun e w' => e = .returned (.agg (p.force t').cells) ∧ Below w.heap.size w w' := by
  have hsf := st_float
  obtain ⟨⟨x, y, z, m, t⟩, f⟩ := p
  cases f
  · have hE : Pt.force ⟨⟨x, y, z, m, t⟩, false⟩ t' = emptyPt t' := rfl
    rw [hE]
    simp only [Pt.cells]
    go_enter Tryz.func114, Tryz.ntmps114
    go_wp2_with fail
    refine (c85 _ _).mono ?_
    rintro e w1 ⟨rfl, hb1⟩
    have L1 := (Lb.new2 w _ _ _).blw hb1
    obtain ⟨k1, f1, lt1⟩ := L1.use
    go_wp2_with fail
    refine bodyPost_ret (v := .agg (Pt.cells (emptyPt t'))) (by simp [results, Tryz.results114, go_sem, k1, Pt.cells, emptyPt]) rfl ⟨rfl, ?_⟩
    repeat (with_reducible first | refine Below.setCell ?_ (by simp) _ | exact (bl_a2 w _ _).trans (hb1.mono (by simp <;> omega)))
  · have hE : Pt.force ⟨⟨x, y, z, m, t⟩, true⟩ t' = ⟨⟨x, y, if hasZ t' != hasZ t then 0 else z, if hasM t' != hasM t then 0 else m, t'⟩, true⟩ := rfl
    rw [hE]
    simp only [Pt.cells]
    have H1 := Lib.hid fun w n => q138 t w n h0 h1
    have H2 := Lib.hid fun w n => q138 t' w n g0 g1
    have H3 := Lib.hid fun w n => q148 t w n h0 h1
    have H4 := Lib.hid fun w n => q148 t' w n g0 g1
    generalize hasZ t = z1 at *
    generalize hasZ t' = z2 at *
    generalize hasM t = m1 at *
    generalize hasM t' = m2 at *
    go_enter Tryz.func114, Tryz.ntmps114
    go_wp2_with fail
    go_quiet ((go_at_call 138; first | exact Calls.quiet_of_same (H2.out _ _) | exact Calls.quiet_of_same (H1.out _ _)))
    have L0 : Lb (((w.alloc (.cells #[.float .f64 x, .float .f64 y, .float .f64 z, .float .f64 m, .int .u8 t, .bool true] 63)).alloc (.cells #[.float .f64 0, .float .f64 0, .float .f64 0, .float .f64 0, .int .u8 0, .bool false] 63)).drewN nq) w.heap.size _ _ := Lb.drewN (Lb.new' w _ _ _) nq
    have L1 : Lb (((w.alloc (.cells #[.float .f64 x, .float .f64 y, .float .f64 z, .float .f64 m, .int .u8 t, .bool true] 63)).alloc (.cells #[.float .f64 0, .float .f64 0, .float .f64 0, .float .f64 0, .int .u8 0, .bool false] 63)).drewN nq) (w.heap.size + 1) _ _ := Lb.drewN (Lb.new2 w _ _ _) nq
    have HB : Hid (Below w.heap.size w (((w.alloc (.cells #[.float .f64 x, .float .f64 y, .float .f64 z, .float .f64 m, .int .u8 t, .bool true] 63)).alloc (.cells #[.float .f64 0, .float .f64 0, .float .f64 0, .float .f64 0, .int .u8 0, .bool false] 63)).drewN nq)) := bl_drewN (bl_a2 w _ _) nq
    generalize (((w.alloc (.cells #[.float .f64 x, .float .f64 y, .float .f64 z, .float .f64 m, .int .u8 t, .bool true] 63)).alloc (.cells #[.float .f64 0, .float .f64 0, .float .f64 0, .float .f64 0, .int .u8 0, .bool false] 63)).drewN nq) = w1 at *
    clear nq
    obtain ⟨k0, f0, lt0⟩ := L0.use
    obtain ⟨k1, f1, lt1⟩ := L1.use
    have HL0 := Lib.hid L0
    have HL1 := Lib.hid L1
    clear L0 L1
    have fin : ∀ (Z : Nat) (w2 : World), Lb w2 w.heap.size #[.float .f64 x, .float .f64 y, .float .f64 Z, .float .f64 m, .int .u8 t, .bool true] 63 → Lb w2 (w.heap.size + 1) #[.float .f64 0, .float .f64 0, .float .f64 0, .float .f64 0, .int .u8 0, .bool false] 63 → Below w.heap.size w w2 → True := fun _ _ _ _ _ => trivial
    clear fin
    cases z1 <;> cases z2 <;> cases m1 <;> cases m2
    all_goals go_wp2_with fail
    all_goals go_quiet ((go_at_call 148; first | exact Calls.quiet_of_same (H4.out _ _) | exact Calls.quiet_of_same (H3.out _ _)))
    all_goals go_wp2_with fail
    all_goals refine bodyPost_ret ?_ rfl ⟨rfl, ?_⟩
    all_goals first
      | (simp [results, Tryz.results114, go_sem, *]; done)
      | (repeat (with_reducible first | refine Below.setCell ?_ (by simp) _ | refine bl_drewN ?_ _ | exact HB.out))
end Go.Proofs.YtahnhhkbdgaidaaGreatDoor
namespace Go.Proofs.YtahnhhkbdgaidaaGreatDoor
open Go.RowKit
theorem six_old {cs : Array Value} {j p : Nat} {v0 v1 v2 v3 v4 v5 : Value} (hp : p < j * 6) : ((((((cs.setIfInBounds (j * 6) (v0)).setIfInBounds (j * 6 + 1) (v1)).setIfInBounds (j * 6 + 2) (v2)).setIfInBounds (j * 6 + 3) (v3)).setIfInBounds (j * 6 + 4) (v4)).setIfInBounds (j * 6 + 5) (v5))[p]? = cs[p]? := by
  repeat rw [Array.getElem?_setIfInBounds_ne (by omega)]
theorem six_new {cs : Array Value} {j k : Nat} {v0 v1 v2 v3 v4 v5 : Value} (hk : k < 6) (hp : j * 6 + 5 < cs.size) : ((((((cs.setIfInBounds (j * 6) (v0)).setIfInBounds (j * 6 + 1) (v1)).setIfInBounds (j * 6 + 2) (v2)).setIfInBounds (j * 6 + 3) (v3)).setIfInBounds (j * 6 + 4) (v4)).setIfInBounds (j * 6 + 5) (v5))[j * 6 + k]? = some ([v0, v1, v2, v3, v4, v5].getD k undef) := by
  have hc : k = 0 ∨ k = 1 ∨ k = 2 ∨ k = 3 ∨ k = 4 ∨ k = 5 := by omega
  rcases hc with rfl | rfl | rfl | rfl | rfl | rfl <;>
    (repeat rw [Array.getElem?_setIfInBounds_ne (by omega)]) <;> (rw [Array.getElem?_setIfInBounds]; simp; omega)
theorem keep_six {w : World} {g : Nat} {o0 o1 o2 o3 o4 o5 : Nat} {v0 v1 v2 v3 v4 v5 : Value} : ∀ b, b < w.heap.size → b ≠ g →
    ((((((w.setCell ⟨g, o0, none⟩ v0).setCell ⟨g, o1, none⟩ v1).setCell ⟨g, o2, none⟩ v2).setCell ⟨g, o3, none⟩ v3).setCell ⟨g, o4, none⟩ v4).setCell ⟨g, o5, none⟩ v5).heap[b]? = w.heap[b]? := fun b _ hb => by
  repeat rw [Below.heap_setCell _ _ _ _ hb]
theorem pts_at {S : Nat → Prop} {w : World} {ls : List Pt} {v : Value} (h : Rd S w (.list (ls.map Pt.fs)) v) : ∃ a c, v = .slice a ls.length c ∧ ls.length ≤ 17592186044416 ∧
    ∀ i (hi : i < ls.length), ∃ b off, a = some ⟨b, off, none⟩ ∧ S b ∧ b < w.heap.size ∧ w.cell? ⟨b, off + i * 6, none⟩ = some (.float .f64 (ls[i]).c.x) ∧ w.cell? ⟨b, off + i * 6 + 1, none⟩ = some (.float .f64 (ls[i]).c.y) ∧
      w.cell? ⟨b, off + i * 6 + 2, none⟩ = some (.float .f64 (ls[i]).c.z) ∧ w.cell? ⟨b, off + i * 6 + 3, none⟩ = some (.float .f64 (ls[i]).c.m) ∧ w.cell? ⟨b, off + i * 6 + 4, none⟩ = some (.int .u8 (ls[i]).c.t) ∧ w.cell? ⟨b, off + i * 6 + 5, none⟩ = some (.bool (ls[i]).full) := by
  obtain ⟨a, c, rfl, hm, hi⟩ := list_at h 6 (by simp [Pt.fs])
  simp only [List.length_map] at *
  refine ⟨a, c, rfl, hm, fun i hlt => ?_⟩
  obtain ⟨b, off, rfl, hS, hb, x, hx⟩ := hi i hlt
  have e : (ls.map Pt.fs)[i]'(by simpa using hlt) = (ls[i]).fs := by simp
  have key : ∀ k v, (ls[i]).fs[k]? = some (.atom v) → w.cell? ⟨b, off + i * 6 + k, none⟩ = some v := fun k v hk => by
    have hl : k < ((ls.map Pt.fs)[i]'(by simpa using hlt)).length := by rw [e]; exact (List.getElem?_eq_some_iff.1 hk).1
    obtain ⟨ck, rk⟩ := hx k hl
    have e2 : ((ls.map Pt.fs)[i]'(by simpa using hlt))[k] = .atom v := by
      have := List.getElem?_eq_getElem hl
      simp only [e] at this ⊢
      rw [hk] at this
      exact (Option.some.inj this).symm
    rw [e2] at rk
    rw [ck, rk.atom_inv]
  exact ⟨b, off, rfl, hS, hb, key 0 _ rfl, key 1 _ rfl, key 2 _ rfl, key 3 _ rfl, key 4 _ rfl, key 5 _ rfl⟩
def Pt.ok (p : Pt) : Prop := 0 ≤ p.c.t ∧ p.c.t ≤ 3
set_option maxRecDepth 100000 in
set_option maxHeartbeats 2000000 in
theorem c141 (S : Nat → Prop) (ls : List Pt) (t' : Int) (a : Option Addr) (c : Nat) (w : World) (hok : ∀ l ∈ ls, l.ok) (g0 : 0 ≤ t') (g1 : t' ≤ 3) (hlen : ls.length ≤ 1000000) (hS : ∀ b, w.heap.size ≤ b → S b)
    (h : Rd S w (.list (ls.map Pt.fs)) (.slice a ls.length c)) :
    Calls Tryz.prog 141 #[.slice a ls.length c, .int .u8 t'] w fun e w' => ∃ a' c', e = .returned (.slice a' ls.length c') ∧ Rd S w' (.list ((ls.map (·.force t')).map Pt.fs)) (.slice a' ls.length c') ∧ Below w.heap.size w w' := by
  have hsf := st_float
  have hmk : ∀ w, (Instr.makeSlice 75 (.int .i64 (ls.length : Int)) (.int .i64 (ls.length : Int))).run Tryz.prog w = .ok (.slice (some ⟨w.heap.size, 0, none⟩) ls.length ls.length) (w.alloc (.cells (madeCells #[.float .f64 0, .float .f64 0, .float .f64 0, .float .f64 0, .int .u8 0, .bool false] (ls.length * 6)) 63)) :=
    mk_any (P := Tryz.prog) 75 63 _ 6 48 Tryz.underlying75 info63 ls.length (by omega) (by omega)
  go_enter Tryz.func141, Tryz.ntmps141
  go_wp2_with fail
  go_loopw [13] (fun i wr => ∃ j : Nat, ∃ cs : Array Value, j ≤ ls.length ∧ i = .int .i64 j ∧ Fill S wr w.heap.size 63 6 ls.length (((ls.take j).map (·.force t')).map Pt.fs) cs ∧
      Rd (Ex S w.heap.size) wr (.list (ls.map Pt.fs)) (.slice a ls.length c) ∧ Below w.heap.size w wr ∧ w.heap.size + 1 ≤ wr.heap.size) (fun i _ => ls.length - (intOf i).toNat)
  case atStart =>
    exact ⟨0, madeCells #[.float .f64 0, .float .f64 0, .float .f64 0, .float .f64 0, .int .u8 0, .bool false] (ls.length * 6), Nat.zero_le _, rfl, Fill.start (size_madeCells _ _) (Lb.new w _ _), (h.ex (Nat.le_refl _)).alloc _, bl_a1 w _, by simp⟩
  case round =>
    obtain ⟨j, cs, hj, rfl, hF, hr, hB, hsz⟩ := hrel
    by_cases hlt : j < ls.length
    · obtain ⟨a0, c0, e0, hm, hat⟩ := pts_at hr
      obtain ⟨rfl, _, rfl⟩ := Value.slice.inj e0
      obtain ⟨b, off, rfl, hSb, hb, k0, k1, k2, k3, k4, k5⟩ := hat j hlt
      have H := Lib.hid fun (w : World) => c114 ls[j] t' w (hok _ (List.getElem_mem hlt)).1 (hok _ (List.getElem_mem hlt)).2 g0 g1
      have HF := Lib.hid hF; clear hF
      have HB := Lib.hid hB
      clear hB hat e0 hmk
      go_wp2_with fail
      refine (H.out _).mono ?_
      rintro e w1 ⟨rfl, hb2'⟩
      simp only [Pt.cells]
      have hb2 := (bl_a1 wr _).trans (hb2'.mono (by simp))
      have hF2 := HF.out.blw hb2
      have hcs := hF2.size
      obtain ⟨kR, fR, ltR⟩ := hF2.blk.use
      obtain ⟨u0, hu0⟩ : ∃ u, cs[j * 6]? = some u := ⟨_, Array.getElem?_eq_getElem (by rw [hcs]; omega)⟩
      obtain ⟨u1, hu1⟩ : ∃ u, cs[j * 6 + 1]? = some u := ⟨_, Array.getElem?_eq_getElem (by rw [hcs]; omega)⟩
      obtain ⟨u2, hu2⟩ : ∃ u, cs[j * 6 + 2]? = some u := ⟨_, Array.getElem?_eq_getElem (by rw [hcs]; omega)⟩
      obtain ⟨u3, hu3⟩ : ∃ u, cs[j * 6 + 3]? = some u := ⟨_, Array.getElem?_eq_getElem (by rw [hcs]; omega)⟩
      obtain ⟨u4, hu4⟩ : ∃ u, cs[j * 6 + 4]? = some u := ⟨_, Array.getElem?_eq_getElem (by rw [hcs]; omega)⟩
      obtain ⟨u5, hu5⟩ : ∃ u, cs[j * 6 + 5]? = some u := ⟨_, Array.getElem?_eq_getElem (by rw [hcs]; omega)⟩
      have HF2 := Lib.hid hF2; clear hF2
      have HB' := Lib.hid (HB.out.trans (hb2.mono (by omega)))
      have hr3 := Lib.hid (hr.blw hb2)
      have hsz2 : w.heap.size + 1 ≤ w1.heap.size := Nat.le_trans hsz hb2.size
      clear hr hb2 hb2' k0 k1 k2 k3 k4 k5
      go_wp2_with fail
      go_roundw
      case rel =>
        refine ⟨j + 1, ((((((cs.setIfInBounds (j * 6) (.float .f64 ((ls[j]).force t').c.x)).setIfInBounds (j * 6 + 1) (.float .f64 ((ls[j]).force t').c.y)).setIfInBounds (j * 6 + 2) (.float .f64 ((ls[j]).force t').c.z)).setIfInBounds (j * 6 + 3) (.float .f64 ((ls[j]).force t').c.m)).setIfInBounds (j * 6 + 4) (.int .u8 ((ls[j]).force t').c.t)).setIfInBounds (j * 6 + 5) (.bool ((ls[j]).force t').full)), by omega, by go_num, ?_, ?_, ?_, by simp [World.setCell]; omega⟩
        · have el : (((ls.take j).map (·.force t')).map Pt.fs).length = j := by simp; omega
          have es : ((ls.take (j + 1)).map (·.force t')).map Pt.fs = ((ls.take j).map (·.force t')).map Pt.fs ++ [((ls[j]).force t').fs] := by rw [take_map_succ _ _ _ hlt, List.map_append]; rfl
          rw [es]
          refine HF2.out.next _ rfl (by simp [hcs]) ((((((HF2.out.blk.set _ _).set _ _).set _ _).set _ _).set _ _).set _ _) keep_six (by simp [World.setCell]) (fun p hp => six_old (by rw [el] at hp; exact hp)) (fun jj hjj => ?_)
          rw [el]
          have hj6 : jj < 6 := hjj
          refine ⟨_, six_new hj6 (by rw [hcs]; omega), ?_⟩
          have hjc : jj = 0 ∨ jj = 1 ∨ jj = 2 ∨ jj = 3 ∨ jj = 4 ∨ jj = 5 := by omega
          rcases hjc with rfl | rfl | rfl | rfl | rfl | rfl <;> exact .atom _
        · exact ((((((hr3.out.set _ _).set _ _).set _ _).set _ _).set _ _).set _ _)
        · exact ((((((HB'.out.setCell (by simp) _).setCell (by simp) _).setCell (by simp) _).setCell (by simp) _).setCell (by simp) _).setCell (by simp) _)
      case measure => simp [intOf]; omega
    · obtain rfl : j = ls.length := by omega
      have hdl : decide (((ls.length : Nat) : Int) < ls.length) = false := by simp
      have HF := Lib.hid hF; have HB := Lib.hid hB
      clear hF hB hmk hr
      go_wp2_with fail
      go_ret
      have hd := HF.out.done ls.length (by omega) (by simp) (hS _ (by omega)) (by omega)
      rw [List.take_length] at hd
      exact ⟨_, _, rfl, hd, HB.out⟩
end Go.Proofs.YtahnhhkbdgaidaaGreatDoor
