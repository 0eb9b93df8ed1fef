/-
  Points under another type of coordinates.
-/
import Derived.Test.YtahnhhkbdgaidaaGreatDoorBm
namespace Go.Proofs.YtahnhhkbdgaidaaGreatDoor
open Go.RowKit

theorem six_old {cs : Array Value} {j p : Nat} {v0 v1 v2 v3 v4 v5 : Value} (hp : p < j * 6) : ((((((cs.setIfInBounds (j * 6) (v0)).setIfInBounds (j * 6 + 1) (v1)).setIfInBounds (j * 6 + 2) (v2)).setIfInBounds (j * 6 + 3) (v3)).setIfInBounds (j * 6 + 4) (v4)).setIfInBounds (j * 6 + 5) (v5))[p]? = cs[p]? := by
  repeat rw [Array.getElem?_setIfInBounds_ne (by omega)]
theorem six_new {cs : Array Value} {j k : Nat} {v0 v1 v2 v3 v4 v5 : Value} (hk : k < 6) (hp : j * 6 + 5 < cs.size) : ((((((cs.setIfInBounds (j * 6) (v0)).setIfInBounds (j * 6 + 1) (v1)).setIfInBounds (j * 6 + 2) (v2)).setIfInBounds (j * 6 + 3) (v3)).setIfInBounds (j * 6 + 4) (v4)).setIfInBounds (j * 6 + 5) (v5))[j * 6 + k]? = some ([v0, v1, v2, v3, v4, v5].getD k undef) := by
  have hc : k = 0 ∨ k = 1 ∨ k = 2 ∨ k = 3 ∨ k = 4 ∨ k = 5 := by omega
  rcases hc with rfl | rfl | rfl | rfl | rfl | rfl <;>
    (repeat rw [Array.getElem?_setIfInBounds_ne (by omega)]) <;> (rw [Array.getElem?_setIfInBounds]; simp; omega)
theorem keep_six {w : World} {g : Nat} {o0 o1 o2 o3 o4 o5 : Nat} {v0 v1 v2 v3 v4 v5 : Value} : ∀ b, b < w.heap.size → b ≠ g →
    ((((((w.setCell ⟨g, o0, none⟩ v0).setCell ⟨g, o1, none⟩ v1).setCell ⟨g, o2, none⟩ v2).setCell ⟨g, o3, none⟩ v3).setCell ⟨g, o4, none⟩ v4).setCell ⟨g, o5, none⟩ v5).heap[b]? = w.heap[b]? := fun b _ hb => by
  repeat rw [Below.heap_setCell _ _ _ _ hb]
theorem pts_at {S : Nat → Prop} {w : World} {ls : List Pt} {v : Value} (h : Rd S w (.list (ls.map Pt.fs)) v) : ∃ a c, v = .slice a ls.length c ∧ ls.length ≤ 17592186044416 ∧
    ∀ i (hi : i < ls.length), ∃ b off, a = some ⟨b, off, none⟩ ∧ S b ∧ b < w.heap.size ∧ w.cell? ⟨b, off + i * 6, none⟩ = some (.float .f64 (ls[i]).c.x) ∧ w.cell? ⟨b, off + i * 6 + 1, none⟩ = some (.float .f64 (ls[i]).c.y) ∧
      w.cell? ⟨b, off + i * 6 + 2, none⟩ = some (.float .f64 (ls[i]).c.z) ∧ w.cell? ⟨b, off + i * 6 + 3, none⟩ = some (.float .f64 (ls[i]).c.m) ∧ w.cell? ⟨b, off + i * 6 + 4, none⟩ = some (.int .u8 (ls[i]).c.t) ∧ w.cell? ⟨b, off + i * 6 + 5, none⟩ = some (.bool (ls[i]).full) := by
  obtain ⟨a, c, rfl, hm, hi⟩ := list_at h 6 (by simp [Pt.fs])
  simp only [List.length_map] at *
  refine ⟨a, c, rfl, hm, fun i hlt => ?_⟩
  obtain ⟨b, off, rfl, hS, hb, x, hx⟩ := hi i hlt
  have e : (ls.map Pt.fs)[i]'(by simpa using hlt) = (ls[i]).fs := by simp
  have key : ∀ k v, (ls[i]).fs[k]? = some (.atom v) → w.cell? ⟨b, off + i * 6 + k, none⟩ = some v := fun k v hk => by
    have hl : k < ((ls.map Pt.fs)[i]'(by simpa using hlt)).length := by rw [e]; exact (List.getElem?_eq_some_iff.1 hk).1
    obtain ⟨ck, rk⟩ := hx k hl
    have e2 : ((ls.map Pt.fs)[i]'(by simpa using hlt))[k] = .atom v := by
      have := List.getElem?_eq_getElem hl
      simp only [e] at this ⊢
      rw [hk] at this
      exact (Option.some.inj this).symm
    rw [e2] at rk
    rw [ck, rk.atom_inv]
  exact ⟨b, off, rfl, hS, hb, key 0 _ rfl, key 1 _ rfl, key 2 _ rfl, key 3 _ rfl, key 4 _ rfl, key 5 _ rfl⟩
def Pt.ok (p : Pt) : Prop := 0 ≤ p.c.t ∧ p.c.t ≤ 3
set_option maxRecDepth 100000 in
set_option maxHeartbeats 2000000 in
theorem c141 (S : Nat → Prop) (ls : List Pt) (t' : Int) (a : Option Addr) (c : Nat) (w : World) (hok : ∀ l ∈ ls, l.ok) (g0 : 0 ≤ t') (g1 : t' ≤ 3) (hlen : ls.length ≤ 1000000) (hS : ∀ b, w.heap.size ≤ b → S b)
    (h : Rd S w (.list (ls.map Pt.fs)) (.slice a ls.length c)) :
    Calls Tryz.prog 141 #[.slice a ls.length c, .int .u8 t'] w fun e w' => ∃ a' c', e = .returned (.slice a' ls.length c') ∧ Rd S w' (.list ((ls.map (·.force t')).map Pt.fs)) (.slice a' ls.length c') ∧ Below w.heap.size w w' := by
  have hsf := st_float
  have hmk : ∀ w, (Instr.makeSlice 75 (.int .i64 (ls.length : Int)) (.int .i64 (ls.length : Int))).run Tryz.prog w = .ok (.slice (some ⟨w.heap.size, 0, none⟩) ls.length ls.length) (w.alloc (.cells (madeCells #[.float .f64 0, .float .f64 0, .float .f64 0, .float .f64 0, .int .u8 0, .bool false] (ls.length * 6)) 63)) :=
    mk_any (P := Tryz.prog) 75 63 _ 6 48 Tryz.underlying75 info63 ls.length (by omega) (by omega)
  go_enter Tryz.func141, Tryz.ntmps141
  go_wp2_with fail
  go_loopw [13] (fun i wr => ∃ j : Nat, ∃ cs : Array Value, j ≤ ls.length ∧ i = .int .i64 j ∧ Fill S wr w.heap.size 63 6 ls.length (((ls.take j).map (·.force t')).map Pt.fs) cs ∧
      Rd (Ex S w.heap.size) wr (.list (ls.map Pt.fs)) (.slice a ls.length c) ∧ Below w.heap.size w wr ∧ w.heap.size + 1 ≤ wr.heap.size) (fun i _ => ls.length - (intOf i).toNat)
  case atStart =>
    exact ⟨0, madeCells #[.float .f64 0, .float .f64 0, .float .f64 0, .float .f64 0, .int .u8 0, .bool false] (ls.length * 6), Nat.zero_le _, rfl, Fill.start (size_madeCells _ _) (Lb.new w _ _), (h.ex (Nat.le_refl _)).alloc _, bl_a1 w _, by simp⟩
  case round =>
    obtain ⟨j, cs, hj, rfl, hF, hr, hB, hsz⟩ := hrel
    by_cases hlt : j < ls.length
    · obtain ⟨a0, c0, e0, hm, hat⟩ := pts_at hr
      obtain ⟨rfl, _, rfl⟩ := Value.slice.inj e0
      obtain ⟨b, off, rfl, hSb, hb, k0, k1, k2, k3, k4, k5⟩ := hat j hlt
      have H := Lib.hid fun (w : World) => c114 ls[j] t' w (hok _ (List.getElem_mem hlt)).1 (hok _ (List.getElem_mem hlt)).2 g0 g1
      have HF := Lib.hid hF; clear hF
      have HB := Lib.hid hB
      clear hB hat e0 hmk
      go_wp2_with fail
      refine (H.out _).mono ?_
      rintro e w1 ⟨rfl, hb2'⟩
      simp only [Pt.cells]
      have hb2 := (bl_a1 wr _).trans (hb2'.mono (by simp))
      have hF2 := HF.out.blw hb2
      have hcs := hF2.size
      obtain ⟨kR, fR, ltR⟩ := hF2.blk.use
      obtain ⟨u0, hu0⟩ : ∃ u, cs[j * 6]? = some u := ⟨_, Array.getElem?_eq_getElem (by rw [hcs]; omega)⟩
      obtain ⟨u1, hu1⟩ : ∃ u, cs[j * 6 + 1]? = some u := ⟨_, Array.getElem?_eq_getElem (by rw [hcs]; omega)⟩
      obtain ⟨u2, hu2⟩ : ∃ u, cs[j * 6 + 2]? = some u := ⟨_, Array.getElem?_eq_getElem (by rw [hcs]; omega)⟩
      obtain ⟨u3, hu3⟩ : ∃ u, cs[j * 6 + 3]? = some u := ⟨_, Array.getElem?_eq_getElem (by rw [hcs]; omega)⟩
      obtain ⟨u4, hu4⟩ : ∃ u, cs[j * 6 + 4]? = some u := ⟨_, Array.getElem?_eq_getElem (by rw [hcs]; omega)⟩
      obtain ⟨u5, hu5⟩ : ∃ u, cs[j * 6 + 5]? = some u := ⟨_, Array.getElem?_eq_getElem (by rw [hcs]; omega)⟩
      have HF2 := Lib.hid hF2; clear hF2
      have HB' := Lib.hid (HB.out.trans (hb2.mono (by omega)))
      have hr3 := Lib.hid (hr.blw hb2)
      have hsz2 : w.heap.size + 1 ≤ w1.heap.size := Nat.le_trans hsz hb2.size
      clear hr hb2 hb2' k0 k1 k2 k3 k4 k5
      go_wp2_with fail
      go_roundw
      case rel =>
        refine ⟨j + 1, ((((((cs.setIfInBounds (j * 6) (.float .f64 ((ls[j]).force t').c.x)).setIfInBounds (j * 6 + 1) (.float .f64 ((ls[j]).force t').c.y)).setIfInBounds (j * 6 + 2) (.float .f64 ((ls[j]).force t').c.z)).setIfInBounds (j * 6 + 3) (.float .f64 ((ls[j]).force t').c.m)).setIfInBounds (j * 6 + 4) (.int .u8 ((ls[j]).force t').c.t)).setIfInBounds (j * 6 + 5) (.bool ((ls[j]).force t').full)), by omega, by go_num, ?_, ?_, ?_, by simp [World.setCell]; omega⟩
        · have el : (((ls.take j).map (·.force t')).map Pt.fs).length = j := by simp; omega
          have es : ((ls.take (j + 1)).map (·.force t')).map Pt.fs = ((ls.take j).map (·.force t')).map Pt.fs ++ [((ls[j]).force t').fs] := by rw [take_map_succ _ _ _ hlt, List.map_append]; rfl
          rw [es]
          refine HF2.out.next _ rfl (by simp [hcs]) ((((((HF2.out.blk.set _ _).set _ _).set _ _).set _ _).set _ _).set _ _) keep_six (by simp [World.setCell]) (fun p hp => six_old (by rw [el] at hp; exact hp)) (fun jj hjj => ?_)
          rw [el]
          have hj6 : jj < 6 := hjj
          refine ⟨_, six_new hj6 (by rw [hcs]; omega), ?_⟩
          have hjc : jj = 0 ∨ jj = 1 ∨ jj = 2 ∨ jj = 3 ∨ jj = 4 ∨ jj = 5 := by omega
          rcases hjc with rfl | rfl | rfl | rfl | rfl | rfl <;> exact .atom _
        · exact ((((((hr3.out.set _ _).set _ _).set _ _).set _ _).set _ _).set _ _)
        · exact ((((((HB'.out.setCell (by simp) _).setCell (by simp) _).setCell (by simp) _).setCell (by simp) _).setCell (by simp) _).setCell (by simp) _)
      case measure => simp [intOf]; omega
    · obtain rfl : j = ls.length := by omega
      have hdl : decide (((ls.length : Nat) : Int) < ls.length) = false := by simp
      have HF := Lib.hid hF; have HB := Lib.hid hB
      clear hF hB hmk hr
      go_wp2_with fail
      go_ret
      have hd := HF.out.done ls.length (by omega) (by simp) (hS _ (by omega)) (by omega)
      rw [List.take_length] at hd
      exact ⟨_, _, rfl, hd, HB.out⟩
end Go.Proofs.YtahnhhkbdgaidaaGreatDoor
