/-
  The reader of binary forms: several points, lines, polygons; collections.
-/
import Derived.Test.YtahnhhkbdgaidaaGreatDoorKbc
namespace Go.Proofs.YtahnhhkbdgaidaaGreatDoor
open Go.RowKit
set_option maxRecDepth 100000
/-- What a geometry's reader answers. -/
def GeoRx (S : Nat → Prop) (P b : Nat) (bo : Int) (no : Bool) (k : Int) (T : TypeId) (fs : List F) (r : List UInt8) (w : World) : Ending → World → Prop := fun e w' => ∃ b', e = .returned (.tuple #[.agg #[.int .i64 k, .iface T (.pointer (some ⟨b', 0, none⟩))], .nilIface]) ∧
  Rd S w' (.box T fs) (.iface T (.pointer (some ⟨b', 0, none⟩))) ∧ Pr P b bo no r w' ∧ w.grownBy w' (some P)
theorem c236 (T b : Nat) (w : World) : Calls Tryz.prog 236 #[.agg #[.int .i64 1, .iface T (.pointer (some ⟨b, 0, none⟩))]] w fun e w' => e = .returned (.bool true) ∧ Below w.heap.size w w' := by
  go_enter Tryz.func236, Tryz.ntmps236
  go_wp2
  go_ret
  exact ⟨rfl, by repeat (with_reducible first | exact Below.refl _ _ | refine Below.alloc ?_ (by simp) _)⟩
theorem c237 (T b : Nat) (w : World) : Calls Tryz.prog 237 #[.agg #[.int .i64 2, .iface T (.pointer (some ⟨b, 0, none⟩))]] w fun e w' => e = .returned (.bool true) ∧ Below w.heap.size w w' := by
  go_enter Tryz.func237, Tryz.ntmps237
  go_wp2
  go_ret
  exact ⟨rfl, by repeat (with_reducible first | exact Below.refl _ _ | refine Below.alloc ?_ (by simp) _)⟩
theorem c238 (T b : Nat) (w : World) : Calls Tryz.prog 238 #[.agg #[.int .i64 3, .iface T (.pointer (some ⟨b, 0, none⟩))]] w fun e w' => e = .returned (.bool true) ∧ Below w.heap.size w w' := by
  go_enter Tryz.func238, Tryz.ntmps238
  go_wp2
  go_ret
  exact ⟨rfl, by repeat (with_reducible first | exact Below.refl _ _ | refine Below.alloc ?_ (by simp) _)⟩
set_option maxHeartbeats 8000000 in
theorem c192_g (S : Nat → Prop) (P b : Nat) (bo : Int) (hbo : bo = 0 ∨ bo = 1) (no : Bool) (t : Int) (t0 : 0 ≤ t) (t1 : t ≤ 3) (ls : List Pt) (hok : ∀ l ∈ ls, l.ok) (hlen : ls.length ≤ 1000000) (R : Nat → List UInt8) (l4 : List UInt8) (h4 : l4.length = 4) (hd : dec bo l4 = ls.length) (w : World) (hS : ∀ k, w.heap.size ≤ k → S k)
    (H235 : ∀ j (hj : j < ls.length) (S' : Nat → Prop) (w1 : World), (∀ k, w1.heap.size ≤ k → S' k) → Pr P b bo no (R j) w1 → Calls Tryz.prog 235 #[.pointer (some ⟨P, 0, none⟩)] w1 (GeoRx S' P b bo no 1 168 (ls[j]).fs (R (j + 1)) w1))
    (h : Pr P b bo no (l4 ++ R 0) w) :
    Calls Tryz.prog 192 #[.pointer (some ⟨P, 0, none⟩), .int .u8 t] w (ListR S P b bo no (.list ((joined ptT Pt.force t ls).1.map Pt.fs)) (joined ptT Pt.force t ls).1.length (joined ptT Pt.force t ls).2 (R ls.length) w) := by
  have hsf := st_float
  have hlP := h.lt
  have hlb := h.inb.2
  have hb0 := bl_a1 w (.cells #[.slice none 0 0, .int .u8 0] 77)
  have HC := c188 P b bo hbo no l4 _ h4 _ (h.blw hb0)
  rw [hd] at HC
  replace HC := Lib.hid HC
  have l0 := Lib.hid (Lb.new w #[.slice none 0 0, .int .u8 0] 77)
  have HS := Lib.hid hS; have H235 := Lib.hid H235; have Hok := Lib.hid hok
  clear h hd hb0 hS hok
  rcases Nat.eq_zero_or_pos ls.length with h0 | h0
  · obtain rfl : ls = [] := List.eq_nil_of_length_eq_zero h0
    have H0 := Lib.hid (fun (w1 : World) (hs : w.heap.size + 1 ≤ w1.heap.size) => c95 (Ex S w.heap.size) [] 0 t none 0 w1 (by simp) t0 t1 (by simp) (fun k hk => ⟨HS.out k (by omega), by omega⟩) (Rd.nil none 0))
    have ej : joined ptT Pt.force t [] = ([], t) := by simp [joined]; omega
    rw [ej]
    simp only [List.length_nil] at *
    go_enter Tryz.func192, Tryz.ntmps192
    go_wp2_with fail
    refine HC.out.mono ?_
    rintro _ w1 ⟨rfl, hp1, hg1⟩
    have hsz1 : w.heap.size + 1 ≤ w1.heap.size := by have := hg1.size; simpa using this
    have L1 := Lib.hid (l0.out.grown hg1 (fun e => by have := Option.some.inj e; omega))
    have HP1 := Lib.hid hp1
    have HG1 := Lib.hid (grown_trans (alloc_grown w _ _) hg1)
    clear hp1 hg1 HC l0
    go_wp2_with fail
    refine (H0.out w1 hsz1).mono ?_
    rintro _ w2 ⟨a2, c2, rfl, hr2, hb2⟩
    have L2 := L1.out.blw hb2
    obtain ⟨k2, f2, l2⟩ := L2.use
    have HP2 := Lib.hid (HP1.out.blw hb2)
    have HG2 := Lib.hid (grown_trans HG1.out (below_grown hb2 _))
    have HR2 := Lib.hid hr2
    clear hr2 hb2 L2 L1 HP1 HG1
    go_wp2_with fail
    refine bodyPost_ret (v := .tuple #[.agg #[.slice a2 0 c2, .int .u8 t], .nilIface]) (by simp [results, Tryz.results192, go_sem, k2]) rfl ⟨a2, c2, rfl, ?_, ?_, ?_⟩
    · refine Rd.unex (L := w.heap.size) ?_
      exact (HR2.out.set 0 _).set 1 _
    · have h1 : P ≠ w.heap.size := by omega
      have h2 : b ≠ w.heap.size := by omega
      exact (HP2.out.far 0 _ h1 h2).far 1 _ h1 h2
    · exact grown_far (grown_far HG2.out (Nat.le_refl _) 0 _) (Nat.le_refl _) 1 _
  · have hmk : ∀ w, (Instr.makeSlice 75 (.int .u32 (ls.length : Int)) (.int .u32 (ls.length : Int))).run Tryz.prog w = .ok (.slice (some ⟨w.heap.size, 0, none⟩) ls.length ls.length) (w.alloc (.cells (madeCells #[.float .f64 0, .float .f64 0, .float .f64 0, .float .f64 0, .int .u8 0, .bool false] (ls.length * 6)) 63)) :=
      mk_u32 (P := Tryz.prog) 75 63 _ 6 48 Tryz.underlying75 info63 ls.length (by omega) (by omega)
    have hne : ((ls.length : Int) == 0) = false := beq_false_of_ne (by omega)
    have ej : joined ptT Pt.force t ls = (ls.map (·.force (foldT (ls.map (·.c.t)))), foldT (ls.map (·.c.t))) := by unfold joined; exact if_neg (by omega)
    rw [ej]
    simp only [List.length_map]
    clear ej
    go_enter Tryz.func192, Tryz.ntmps192
    go_wp2_with fail
    refine HC.out.mono ?_
    rintro _ w1 ⟨rfl, hp1, hg1⟩
    have hsz1 : w.heap.size + 1 ≤ w1.heap.size := by have := hg1.size; simpa using this
    have L1 := Lib.hid (l0.out.grown hg1 (fun e => by have := Option.some.inj e; omega))
    have HP1 := Lib.hid (hp1.blw (bl_a1 w1 (.cells (madeCells #[.float .f64 0, .float .f64 0, .float .f64 0, .float .f64 0, .int .u8 0, .bool false] (ls.length * 6)) 63)))
    have HG1 := Lib.hid (grown_trans (grown_trans (alloc_grown w (.cells #[.slice none 0 0, .int .u8 0] 77) _) hg1) (alloc_grown w1 (.cells (madeCells #[.float .f64 0, .float .f64 0, .float .f64 0, .float .f64 0, .int .u8 0, .bool false] (ls.length * 6)) 63) _))
    clear hp1 hg1 HC l0
    go_wp2_with fail
    go_loopw [9] (fun i wr => ∃ j : Nat, ∃ cs : Array Value, j ≤ ls.length ∧ i = .int .u32 j ∧ Fill (Ex (Ex S P) w.heap.size) wr w1.heap.size 63 6 ls.length ((ls.take j).map Pt.fs) cs ∧ Lb wr w.heap.size #[.slice none 0 0, .int .u8 0] 77 ∧ Pr P b bo no (R j) wr ∧ w.grownBy wr (some P) ∧ w1.heap.size + 1 ≤ wr.heap.size) (fun i _ => ls.length - (intOf i).toNat)
    case atStart =>
      exact ⟨0, _, Nat.zero_le _, rfl, Fill.start (size_madeCells _ _) (Lb.new w1 _ _), L1.out.alloc _, HP1.out, HG1.out, by simp⟩
    case round =>
      obtain ⟨j, cs, hj, rfl, hF, hL, hp, hg, hsz⟩ := hrel
      clear HP1 HG1 L1
      by_cases hlt : j < ls.length
      · have HC := Lib.hid (H235.out j hlt (Ex (Ex (Ex S P) w.heap.size) w1.heap.size) wr (fun k hk => ⟨⟨⟨HS.out k (by omega), by omega⟩, by omega⟩, by omega⟩) hp)
        have hnx := take_map_succ ls Pt.fs j hlt
        have hel : ((ls.take j).map Pt.fs).length = j := by simp; omega
        generalize (ls.take j).map Pt.fs = es at *
        generalize hes' : (ls.take (j + 1)).map Pt.fs = es' at *
        have Hnx := Lib.hid hnx; have Hel := Lib.hid hel; have Hes' := Lib.hid hes'
        generalize ls[j] = l at *
        have HF := Lib.hid hF; have HL := Lib.hid hL; have HG := Lib.hid hg
        have hw1 : IntKind.u32.wrap ((j : Int) + 1) = (j : Int) + 1 := by simp [IntKind.wrap, IntKind.signed, IntKind.bits]; omega
        clear hF hL hp hg hnx hel hes' hmk
        go_wp2_with fail
        refine HC.out.mono ?_
        rintro _ w2 ⟨b2, rfl, hr2, hp2, hg2⟩
        have hF2 := HF.out.grown hg2 (fun e => by have := Option.some.inj e; omega) (fun k hk e => hk.1.2 (Option.some.inj e))
        have hL2 := HL.out.grown hg2 (fun e => by have := Option.some.inj e; omega)
        have hG2 := grown_trans HG.out hg2
        have hsz2 : w1.heap.size + 1 ≤ w2.heap.size := Nat.le_trans hsz hg2.size
        obtain ⟨hbx, q0, q1, q2, q3, q4, q5⟩ := box_pt hr2
        have hba := bl_a1 w2 (.cells #[.int .i64 1, .iface 168 (.pointer (some ⟨b2, 0, none⟩))] 47)
        have le := Lb.new w2 #[.int .i64 1, .iface 168 (.pointer (some ⟨b2, 0, none⟩))] 47
        obtain ⟨ke, _, _⟩ := le.use
        have HF2 := Lib.hid hF2; have HP2 := Lib.hid hp2; have HL2 := Lib.hid hL2; have HG2 := Lib.hid hG2; have Hba := Lib.hid hba; have Hle := Lib.hid le
        
        clear hF2 hp2 hr2 hL2 hG2 hg2 hba le HF HL HG HC
        go_wp2_with fail
        refine (c236 _ _ _).mono ?_
        rintro _ w3 ⟨rfl, hb3'⟩
        have hb3 := Hba.out.trans (hb3'.mono (by simp))
        have Q0 := (hb3.cell (p := ⟨b2, 0, none⟩) hbx).trans q0
        have Q1 := (hb3.cell (p := ⟨b2, 1, none⟩) hbx).trans q1
        have Q2 := (hb3.cell (p := ⟨b2, 2, none⟩) hbx).trans q2
        have Q3 := (hb3.cell (p := ⟨b2, 3, none⟩) hbx).trans q3
        have Q4 := (hb3.cell (p := ⟨b2, 4, none⟩) hbx).trans q4
        have Q5 := (hb3.cell (p := ⟨b2, 5, none⟩) hbx).trans q5
        obtain ⟨ke3, _, _⟩ := (Hle.out.blw hb3').use
        have hbx3 := Nat.lt_of_lt_of_le hbx hb3.size
        have Hb3 := Lib.hid hb3
        clear hb3 hb3' q0 q1 q2 q3 q4 q5 ke
        go_wp2_with fail
        refine (d67 _ _ _ _ _ _ b2 _ hbx3 Q0 Q1 Q2 Q3 Q4 Q5).mono ?_
        rintro _ w4 ⟨rfl, hb4'⟩
        have hb4 := Hb3.out.trans (hb4'.mono Hb3.out.size)
        have hF4 := HF2.out.blw hb4
        have hcs := hF4.size
        obtain ⟨kR, fR, ltR⟩ := hF4.blk.use
        obtain ⟨u0, hu0⟩ : ∃ u, cs[j * 6]? = some u := ⟨_, Array.getElem?_eq_getElem (by rw [hcs]; omega)⟩
        obtain ⟨u1, hu1⟩ : ∃ u, cs[j * 6 + 1]? = some u := ⟨_, Array.getElem?_eq_getElem (by rw [hcs]; omega)⟩
        obtain ⟨u2, hu2⟩ : ∃ u, cs[j * 6 + 2]? = some u := ⟨_, Array.getElem?_eq_getElem (by rw [hcs]; omega)⟩
        obtain ⟨u3, hu3⟩ : ∃ u, cs[j * 6 + 3]? = some u := ⟨_, Array.getElem?_eq_getElem (by rw [hcs]; omega)⟩
        obtain ⟨u4, hu4⟩ : ∃ u, cs[j * 6 + 4]? = some u := ⟨_, Array.getElem?_eq_getElem (by rw [hcs]; omega)⟩
        obtain ⟨u5, hu5⟩ : ∃ u, cs[j * 6 + 5]? = some u := ⟨_, Array.getElem?_eq_getElem (by rw [hcs]; omega)⟩
        have HF3 := Lib.hid hF4; have HP3 := Lib.hid (HP2.out.blw hb4); have HL3 := Lib.hid (HL2.out.blw hb4); have HG3 := Lib.hid (grown_trans HG2.out (below_grown hb4 _))
        
        have hsz3 : w1.heap.size + 1 ≤ w4.heap.size := Nat.le_trans hsz2 hb4.size
        clear hF4 hb4 hb4' Q0 Q1 Q2 Q3 Q4 Q5 ke3 HF2 HP2 HL2 HG2 Hb3
        go_wp2_with fail
        go_roundw
        case rel =>
          have hPg : P ≠ w1.heap.size := by omega
          have hbg : b ≠ w1.heap.size := by omega
          refine ⟨j + 1, ((((((cs.setIfInBounds (j * 6) (.float .f64 l.c.x)).setIfInBounds (j * 6 + 1) (.float .f64 l.c.y)).setIfInBounds (j * 6 + 2) (.float .f64 l.c.z)).setIfInBounds (j * 6 + 3) (.float .f64 l.c.m)).setIfInBounds (j * 6 + 4) (.int .u8 l.c.t)).setIfInBounds (j * 6 + 5) (.bool l.full)), by omega, by go_num, ?_, ((((((HL3.out.far (by simp; omega) _).far (by simp; omega) _).far (by simp; omega) _).far (by simp; omega) _).far (by simp; omega) _).far (by simp; omega) _), ((((((HP3.out.far _ _ hPg hbg).far _ _ hPg hbg).far _ _ hPg hbg).far _ _ hPg hbg).far _ _ hPg hbg).far _ _ hPg hbg), (grown_far (grown_far (grown_far (grown_far (grown_far (grown_far HG3.out (by omega) _ _) (by omega) _ _) (by omega) _ _) (by omega) _ _) (by omega) _ _) (by omega) _ _), by simp [World.setCell]; omega⟩
          rw [Hes'.out, Hnx.out]
          refine HF3.out.next _ rfl (by simp [hcs]) ((((((HF3.out.blk.set _ _).set _ _).set _ _).set _ _).set _ _).set _ _) keep_six (by simp [World.setCell]) (fun p hp => six_old (by rw [Hel.out] at hp; exact hp)) (fun jj hjj => ?_)
          rw [Hel.out]
          have hj6 : jj < 6 := hjj
          refine ⟨_, six_new hj6 (by rw [hcs]; omega), ?_⟩
          have hjc : jj = 0 ∨ jj = 1 ∨ jj = 2 ∨ jj = 3 ∨ jj = 4 ∨ jj = 5 := by omega
          rcases hjc with rfl | rfl | rfl | rfl | rfl | rfl <;> exact .atom _
        case measure => simp [intOf]; omega
      · obtain rfl : j = ls.length := by omega
        have hdl : decide (((ls.length : Nat) : Int) < ls.length) = false := by simp
        have hd := hF.done ls.length (by omega) (by simp) ⟨⟨HS.out _ (by omega), by omega⟩, by omega⟩ (by omega)
        rw [List.take_length] at hd
        have HN := Lib.hid (c96 (Ex (Ex S P) w.heap.size) ls (some ⟨w1.heap.size, 0, none⟩) ls.length wr Hok.out h0 hlen (fun k hk => ⟨⟨HS.out k (by omega), by omega⟩, by omega⟩) hd)
        have HL := Lib.hid hL; have HP := Lib.hid hp; have HG := Lib.hid hg
        clear hF hL hp hg hd hmk
        go_wp2_with fail
        refine HN.out.mono ?_
        rintro _ w3 ⟨a3, c3, rfl, hr3, hb3⟩
        obtain ⟨k3, f3, l3⟩ := (HL.out.blw hb3).use
        have HP3 := Lib.hid (HP.out.blw hb3)
        have HG3 := Lib.hid (grown_trans HG.out (below_grown hb3 _))
        have HR3 := Lib.hid hr3
        clear hr3 hb3 HP HG HL HN
        go_wp2_with fail
        refine bodyPost_ret (v := .tuple #[.agg #[.slice a3 ls.length c3, .int .u8 (foldT (ls.map (·.c.t)))], .nilIface]) (by simp [results, Tryz.results192, go_sem, k3]) rfl ⟨a3, c3, rfl, ?_, ?_, ?_⟩
        · refine Rd.unex (L := P) (Rd.unex (L := w.heap.size) ?_)
          exact (HR3.out.set 0 _).set 1 _
        · have h1 : P ≠ w.heap.size := by omega
          have h2 : b ≠ w.heap.size := by omega
          exact (HP3.out.far 0 _ h1 h2).far 1 _ h1 h2
        · exact grown_far (grown_far HG3.out (Nat.le_refl _) 0 _) (Nat.le_refl _) 1 _
set_option maxHeartbeats 8000000 in
theorem c193_g (S : Nat → Prop) (P b : Nat) (bo : Int) (hbo : bo = 0 ∨ bo = 1) (no : Bool) (t : Int) (t0 : 0 ≤ t) (t1 : t ≤ 3) (ls : List Ln) (hok : ∀ l ∈ ls, l.ok) (hlen : ls.length ≤ 1000000) (R : Nat → List UInt8) (l4 : List UInt8) (h4 : l4.length = 4) (hd : dec bo l4 = ls.length) (w : World) (hS : ∀ k, w.heap.size ≤ k → S k)
    (H235 : ∀ j (hj : j < ls.length) (S' : Nat → Prop) (w1 : World), (∀ k, w1.heap.size ≤ k → S' k) → Pr P b bo no (R j) w1 → Calls Tryz.prog 235 #[.pointer (some ⟨P, 0, none⟩)] w1 (GeoRx S' P b bo no 2 169 (ls[j]).fs (R (j + 1)) w1))
    (h : Pr P b bo no (l4 ++ R 0) w) :
    Calls Tryz.prog 193 #[.pointer (some ⟨P, 0, none⟩), .int .u8 t] w (ListR S P b bo no (.list ((joined lnT Ln.force t ls).1.map Ln.fs)) (joined lnT Ln.force t ls).1.length (joined lnT Ln.force t ls).2 (R ls.length) w) := by
  have hsf := st_float
  have hlP := h.lt
  have hlb := h.inb.2
  have hb0 := bl_a1 w (.cells #[.slice none 0 0, .int .u8 0] 80)
  have HC := c188 P b bo hbo no l4 _ h4 _ (h.blw hb0)
  rw [hd] at HC
  replace HC := Lib.hid HC
  have l0 := Lib.hid (Lb.new w #[.slice none 0 0, .int .u8 0] 80)
  have HS := Lib.hid hS; have H235 := Lib.hid H235; have Hok := Lib.hid hok
  clear h hd hb0 hS hok
  rcases Nat.eq_zero_or_pos ls.length with h0 | h0
  · obtain rfl : ls = [] := List.eq_nil_of_length_eq_zero h0
    have H0 := Lib.hid (fun (w1 : World) (hs : w.heap.size + 1 ≤ w1.heap.size) => c98 (Ex S w.heap.size) [] 0 t none 0 w1 (by simp) t0 t1 (by simp) (fun k hk => ⟨HS.out k (by omega), by omega⟩) (Rd.nil none 0))
    have ej : joined lnT Ln.force t [] = ([], t) := by simp [joined]; omega
    rw [ej]
    simp only [List.length_nil] at *
    go_enter Tryz.func193, Tryz.ntmps193
    go_wp2_with fail
    refine HC.out.mono ?_
    rintro _ w1 ⟨rfl, hp1, hg1⟩
    have hsz1 : w.heap.size + 1 ≤ w1.heap.size := by have := hg1.size; simpa using this
    have L1 := Lib.hid (l0.out.grown hg1 (fun e => by have := Option.some.inj e; omega))
    have HP1 := Lib.hid hp1
    have HG1 := Lib.hid (grown_trans (alloc_grown w _ _) hg1)
    clear hp1 hg1 HC l0
    go_wp2_with fail
    refine (H0.out w1 hsz1).mono ?_
    rintro _ w2 ⟨a2, c2, rfl, hr2, hb2⟩
    have L2 := L1.out.blw hb2
    obtain ⟨k2, f2, l2⟩ := L2.use
    have HP2 := Lib.hid (HP1.out.blw hb2)
    have HG2 := Lib.hid (grown_trans HG1.out (below_grown hb2 _))
    have HR2 := Lib.hid hr2
    clear hr2 hb2 L2 L1 HP1 HG1
    go_wp2_with fail
    refine bodyPost_ret (v := .tuple #[.agg #[.slice a2 0 c2, .int .u8 t], .nilIface]) (by simp [results, Tryz.results193, go_sem, k2]) rfl ⟨a2, c2, rfl, ?_, ?_, ?_⟩
    · refine Rd.unex (L := w.heap.size) ?_
      exact (HR2.out.set 0 _).set 1 _
    · have h1 : P ≠ w.heap.size := by omega
      have h2 : b ≠ w.heap.size := by omega
      exact (HP2.out.far 0 _ h1 h2).far 1 _ h1 h2
    · exact grown_far (grown_far HG2.out (Nat.le_refl _) 0 _) (Nat.le_refl _) 1 _
  · have hmk : ∀ w, (Instr.makeSlice 71 (.int .u32 (ls.length : Int)) (.int .u32 (ls.length : Int))).run Tryz.prog w = .ok (.slice (some ⟨w.heap.size, 0, none⟩) ls.length ls.length) (w.alloc (.cells (madeCells #[.int .u8 0, .slice none 0 0] (ls.length * 2)) 69)) :=
      mk_u32 (P := Tryz.prog) 71 69 _ 2 32 Tryz.underlying71 info69 ls.length (by omega) (by omega)
    have hne : ((ls.length : Int) == 0) = false := beq_false_of_ne (by omega)
    have ej : joined lnT Ln.force t ls = (ls.map (·.force (foldT (ls.map (·.t)))), foldT (ls.map (·.t))) := by unfold joined; exact if_neg (by omega)
    rw [ej]
    simp only [List.length_map]
    clear ej
    go_enter Tryz.func193, Tryz.ntmps193
    go_wp2_with fail
    refine HC.out.mono ?_
    rintro _ w1 ⟨rfl, hp1, hg1⟩
    have hsz1 : w.heap.size + 1 ≤ w1.heap.size := by have := hg1.size; simpa using this
    have L1 := Lib.hid (l0.out.grown hg1 (fun e => by have := Option.some.inj e; omega))
    have HP1 := Lib.hid (hp1.blw (bl_a1 w1 (.cells (madeCells #[.int .u8 0, .slice none 0 0] (ls.length * 2)) 69)))
    have HG1 := Lib.hid (grown_trans (grown_trans (alloc_grown w (.cells #[.slice none 0 0, .int .u8 0] 80) _) hg1) (alloc_grown w1 (.cells (madeCells #[.int .u8 0, .slice none 0 0] (ls.length * 2)) 69) _))
    clear hp1 hg1 HC l0
    go_wp2_with fail
    go_loopw [9] (fun i wr => ∃ j : Nat, ∃ cs : Array Value, j ≤ ls.length ∧ i = .int .u32 j ∧ Fill (Ex (Ex S P) w.heap.size) wr w1.heap.size 69 2 ls.length ((ls.take j).map Ln.fs) cs ∧ Lb wr w.heap.size #[.slice none 0 0, .int .u8 0] 80 ∧ Pr P b bo no (R j) wr ∧ w.grownBy wr (some P) ∧ w1.heap.size + 1 ≤ wr.heap.size) (fun i _ => ls.length - (intOf i).toNat)
    case atStart =>
      exact ⟨0, _, Nat.zero_le _, rfl, Fill.start (size_madeCells _ _) (Lb.new w1 _ _), L1.out.alloc _, HP1.out, HG1.out, by simp⟩
    case round =>
      obtain ⟨j, cs, hj, rfl, hF, hL, hp, hg, hsz⟩ := hrel
      clear HP1 HG1 L1
      by_cases hlt : j < ls.length
      · have HC := Lib.hid (H235.out j hlt (Ex (Ex (Ex S P) w.heap.size) w1.heap.size) wr (fun k hk => ⟨⟨⟨HS.out k (by omega), by omega⟩, by omega⟩, by omega⟩) hp)
        have hnx := take_map_succ ls Ln.fs j hlt
        have hel : ((ls.take j).map Ln.fs).length = j := by simp; omega
        generalize (ls.take j).map Ln.fs = es at *
        generalize hes' : (ls.take (j + 1)).map Ln.fs = es' at *
        have Hnx := Lib.hid hnx; have Hel := Lib.hid hel; have Hes' := Lib.hid hes'
        generalize ls[j] = l at *
        have HF := Lib.hid hF; have HL := Lib.hid hL; have HG := Lib.hid hg
        have hw1 : IntKind.u32.wrap ((j : Int) + 1) = (j : Int) + 1 := by simp [IntKind.wrap, IntKind.signed, IntKind.bits]; omega
        clear hF hL hp hg hnx hel hes' hmk
        go_wp2_with fail
        refine HC.out.mono ?_
        rintro _ w2 ⟨b2, rfl, hr2, hp2, hg2⟩
        have hF2 := HF.out.grown hg2 (fun e => by have := Option.some.inj e; omega) (fun k hk e => hk.1.2 (Option.some.inj e))
        have hL2 := HL.out.grown hg2 (fun e => by have := Option.some.inj e; omega)
        have hG2 := grown_trans HG.out hg2
        have hsz2 : w1.heap.size + 1 ≤ w2.heap.size := Nat.le_trans hsz hg2.size
        obtain ⟨hbx, ax, cx, q0, q1, hrx⟩ := box_ln hr2
        have hba := bl_a1 w2 (.cells #[.int .i64 2, .iface 169 (.pointer (some ⟨b2, 0, none⟩))] 47)
        have le := Lb.new w2 #[.int .i64 2, .iface 169 (.pointer (some ⟨b2, 0, none⟩))] 47
        obtain ⟨ke, _, _⟩ := le.use
        have HF2 := Lib.hid hF2; have HP2 := Lib.hid hp2; have HL2 := Lib.hid hL2; have HG2 := Lib.hid hG2; have Hba := Lib.hid hba; have Hle := Lib.hid le
        have HRx := Lib.hid hrx
        clear hF2 hp2 hr2 hL2 hG2 hg2 hba le HF HL HG HC hrx
        go_wp2_with fail
        refine (c237 _ _ _).mono ?_
        rintro _ w3 ⟨rfl, hb3'⟩
        have hb3 := Hba.out.trans (hb3'.mono (by simp))
        have Q0 := (hb3.cell (p := ⟨b2, 0, none⟩) hbx).trans q0
        have Q1 := (hb3.cell (p := ⟨b2, 1, none⟩) hbx).trans q1
        obtain ⟨ke3, _, _⟩ := (Hle.out.blw hb3').use
        have hbx3 := Nat.lt_of_lt_of_le hbx hb3.size
        have Hb3 := Lib.hid hb3
        clear hb3 hb3' q0 q1 ke
        go_wp2_with fail
        refine (d69 _ _ _ _ b2 _ hbx3 Q0 Q1).mono ?_
        rintro _ w4 ⟨rfl, hb4'⟩
        have hb4 := Hb3.out.trans (hb4'.mono Hb3.out.size)
        have hF4 := HF2.out.blw hb4
        have hcs := hF4.size
        obtain ⟨kR, fR, ltR⟩ := hF4.blk.use
        obtain ⟨u0, hu0⟩ : ∃ u, cs[j * 2]? = some u := ⟨_, Array.getElem?_eq_getElem (by rw [hcs]; omega)⟩
        obtain ⟨u1, hu1⟩ : ∃ u, cs[j * 2 + 1]? = some u := ⟨_, Array.getElem?_eq_getElem (by rw [hcs]; omega)⟩
        have HF3 := Lib.hid hF4; have HP3 := Lib.hid (HP2.out.blw hb4); have HL3 := Lib.hid (HL2.out.blw hb4); have HG3 := Lib.hid (grown_trans HG2.out (below_grown hb4 _))
        have HR3 := Lib.hid (HRx.out.blw hb4)
        have hsz3 : w1.heap.size + 1 ≤ w4.heap.size := Nat.le_trans hsz2 hb4.size
        clear hF4 hb4 hb4' Q0 Q1 ke3 HF2 HP2 HL2 HG2 Hb3 HRx
        go_wp2_with fail
        go_roundw
        case rel =>
          have hPg : P ≠ w1.heap.size := by omega
          have hbg : b ≠ w1.heap.size := by omega
          refine ⟨j + 1, ((cs.setIfInBounds (j * 2) (.int .u8 l.t)).setIfInBounds (j * 2 + 1) (.slice ax l.xs.length cx)), by omega, by go_num, ?_, ((HL3.out.far (by simp; omega) _).far (by simp; omega) _), ((HP3.out.far _ _ hPg hbg).far _ _ hPg hbg), (grown_far (grown_far HG3.out (by omega) _ _) (by omega) _ _), by simp [World.setCell]; omega⟩
          rw [Hes'.out, Hnx.out]
          refine HF3.out.next _ rfl (by simp [hcs]) ((HF3.out.blk.set _ _).set _ _) keep_two (by simp [World.setCell]) (fun p hp => two_old (by rw [Hel.out] at hp; exact hp)) (fun jj hjj => ?_)
          rw [Hel.out]
          have hjc : jj = 0 ∨ jj = 1 := by have : jj < 2 := hjj; omega
          rcases hjc with rfl | rfl
          · exact ⟨_, two_new0 (by rw [hcs]; omega), .atom _⟩
          · exact ⟨_, two_new1 (by rw [hcs]; omega), (HR3.out.set _ _).set _ _⟩
        case measure => simp [intOf]; omega
      · obtain rfl : j = ls.length := by omega
        have hdl : decide (((ls.length : Nat) : Int) < ls.length) = false := by simp
        have hd := hF.done ls.length (by omega) (by simp) ⟨⟨HS.out _ (by omega), by omega⟩, by omega⟩ (by omega)
        rw [List.take_length] at hd
        have HN := Lib.hid (c99 (Ex (Ex S P) w.heap.size) ls (some ⟨w1.heap.size, 0, none⟩) ls.length wr Hok.out h0 hlen (fun k hk => ⟨⟨HS.out k (by omega), by omega⟩, by omega⟩) hd)
        have HL := Lib.hid hL; have HP := Lib.hid hp; have HG := Lib.hid hg
        clear hF hL hp hg hd hmk
        go_wp2_with fail
        refine HN.out.mono ?_
        rintro _ w3 ⟨a3, c3, rfl, hr3, hb3⟩
        obtain ⟨k3, f3, l3⟩ := (HL.out.blw hb3).use
        have HP3 := Lib.hid (HP.out.blw hb3)
        have HG3 := Lib.hid (grown_trans HG.out (below_grown hb3 _))
        have HR3 := Lib.hid hr3
        clear hr3 hb3 HP HG HL HN
        go_wp2_with fail
        refine bodyPost_ret (v := .tuple #[.agg #[.slice a3 ls.length c3, .int .u8 (foldT (ls.map (·.t)))], .nilIface]) (by simp [results, Tryz.results193, go_sem, k3]) rfl ⟨a3, c3, rfl, ?_, ?_, ?_⟩
        · refine Rd.unex (L := P) (Rd.unex (L := w.heap.size) ?_)
          exact (HR3.out.set 0 _).set 1 _
        · have h1 : P ≠ w.heap.size := by omega
          have h2 : b ≠ w.heap.size := by omega
          exact (HP3.out.far 0 _ h1 h2).far 1 _ h1 h2
        · exact grown_far (grown_far HG3.out (Nat.le_refl _) 0 _) (Nat.le_refl _) 1 _
set_option maxHeartbeats 8000000 in
theorem c194_g (S : Nat → Prop) (P b : Nat) (bo : Int) (hbo : bo = 0 ∨ bo = 1) (no : Bool) (t : Int) (t0 : 0 ≤ t) (t1 : t ≤ 3) (ls : List Pg) (hok : ∀ l ∈ ls, l.ok) (hlen : ls.length ≤ 1000000) (R : Nat → List UInt8) (l4 : List UInt8) (h4 : l4.length = 4) (hd : dec bo l4 = ls.length) (w : World) (hS : ∀ k, w.heap.size ≤ k → S k)
    (H235 : ∀ j (hj : j < ls.length) (S' : Nat → Prop) (w1 : World), (∀ k, w1.heap.size ≤ k → S' k) → Pr P b bo no (R j) w1 → Calls Tryz.prog 235 #[.pointer (some ⟨P, 0, none⟩)] w1 (GeoRx S' P b bo no 3 170 (ls[j]).fs (R (j + 1)) w1))
    (h : Pr P b bo no (l4 ++ R 0) w) :
    Calls Tryz.prog 194 #[.pointer (some ⟨P, 0, none⟩), .int .u8 t] w (ListR S P b bo no (.list ((joined pgT Pg.force t ls).1.map Pg.fs)) (joined pgT Pg.force t ls).1.length (joined pgT Pg.force t ls).2 (R ls.length) w) := by
  have hsf := st_float
  have hlP := h.lt
  have hlb := h.inb.2
  have hb0 := bl_a1 w (.cells #[.slice none 0 0, .int .u8 0] 84)
  have HC := c188 P b bo hbo no l4 _ h4 _ (h.blw hb0)
  rw [hd] at HC
  replace HC := Lib.hid HC
  have l0 := Lib.hid (Lb.new w #[.slice none 0 0, .int .u8 0] 84)
  have HS := Lib.hid hS; have H235 := Lib.hid H235; have Hok := Lib.hid hok
  clear h hd hb0 hS hok
  rcases Nat.eq_zero_or_pos ls.length with h0 | h0
  · obtain rfl : ls = [] := List.eq_nil_of_length_eq_zero h0
    have H0 := Lib.hid (fun (w1 : World) (hs : w.heap.size + 1 ≤ w1.heap.size) => c101 (Ex S w.heap.size) [] 0 t none 0 w1 (by simp) t0 t1 (by simp) (fun k hk => ⟨HS.out k (by omega), by omega⟩) (Rd.nil none 0))
    have ej : joined pgT Pg.force t [] = ([], t) := by simp [joined]; omega
    rw [ej]
    simp only [List.length_nil] at *
    go_enter Tryz.func194, Tryz.ntmps194
    go_wp2_with fail
    refine HC.out.mono ?_
    rintro _ w1 ⟨rfl, hp1, hg1⟩
    have hsz1 : w.heap.size + 1 ≤ w1.heap.size := by have := hg1.size; simpa using this
    have L1 := Lib.hid (l0.out.grown hg1 (fun e => by have := Option.some.inj e; omega))
    have HP1 := Lib.hid hp1
    have HG1 := Lib.hid (grown_trans (alloc_grown w _ _) hg1)
    clear hp1 hg1 HC l0
    go_wp2_with fail
    refine (H0.out w1 hsz1).mono ?_
    rintro _ w2 ⟨a2, c2, rfl, hr2, hb2⟩
    have L2 := L1.out.blw hb2
    obtain ⟨k2, f2, l2⟩ := L2.use
    have HP2 := Lib.hid (HP1.out.blw hb2)
    have HG2 := Lib.hid (grown_trans HG1.out (below_grown hb2 _))
    have HR2 := Lib.hid hr2
    clear hr2 hb2 L2 L1 HP1 HG1
    go_wp2_with fail
    refine bodyPost_ret (v := .tuple #[.agg #[.slice a2 0 c2, .int .u8 t], .nilIface]) (by simp [results, Tryz.results194, go_sem, k2]) rfl ⟨a2, c2, rfl, ?_, ?_, ?_⟩
    · refine Rd.unex (L := w.heap.size) ?_
      exact (HR2.out.set 0 _).set 1 _
    · have h1 : P ≠ w.heap.size := by omega
      have h2 : b ≠ w.heap.size := by omega
      exact (HP2.out.far 0 _ h1 h2).far 1 _ h1 h2
    · exact grown_far (grown_far HG2.out (Nat.le_refl _) 0 _) (Nat.le_refl _) 1 _
  · have hmk : ∀ w, (Instr.makeSlice 82 (.int .u32 (ls.length : Int)) (.int .u32 (ls.length : Int))).run Tryz.prog w = .ok (.slice (some ⟨w.heap.size, 0, none⟩) ls.length ls.length) (w.alloc (.cells (madeCells #[.slice none 0 0, .int .u8 0] (ls.length * 2)) 73)) :=
      mk_u32 (P := Tryz.prog) 82 73 _ 2 32 Tryz.underlying82 info73 ls.length (by omega) (by omega)
    have hne : ((ls.length : Int) == 0) = false := beq_false_of_ne (by omega)
    have ej : joined pgT Pg.force t ls = (ls.map (·.force (foldT (ls.map (·.t)))), foldT (ls.map (·.t))) := by unfold joined; exact if_neg (by omega)
    rw [ej]
    simp only [List.length_map]
    clear ej
    go_enter Tryz.func194, Tryz.ntmps194
    go_wp2_with fail
    refine HC.out.mono ?_
    rintro _ w1 ⟨rfl, hp1, hg1⟩
    have hsz1 : w.heap.size + 1 ≤ w1.heap.size := by have := hg1.size; simpa using this
    have L1 := Lib.hid (l0.out.grown hg1 (fun e => by have := Option.some.inj e; omega))
    have HP1 := Lib.hid (hp1.blw (bl_a1 w1 (.cells (madeCells #[.slice none 0 0, .int .u8 0] (ls.length * 2)) 73)))
    have HG1 := Lib.hid (grown_trans (grown_trans (alloc_grown w (.cells #[.slice none 0 0, .int .u8 0] 84) _) hg1) (alloc_grown w1 (.cells (madeCells #[.slice none 0 0, .int .u8 0] (ls.length * 2)) 73) _))
    clear hp1 hg1 HC l0
    go_wp2_with fail
    go_loopw [9] (fun i wr => ∃ j : Nat, ∃ cs : Array Value, j ≤ ls.length ∧ i = .int .u32 j ∧ Fill (Ex (Ex S P) w.heap.size) wr w1.heap.size 73 2 ls.length ((ls.take j).map Pg.fs) cs ∧ Lb wr w.heap.size #[.slice none 0 0, .int .u8 0] 84 ∧ Pr P b bo no (R j) wr ∧ w.grownBy wr (some P) ∧ w1.heap.size + 1 ≤ wr.heap.size) (fun i _ => ls.length - (intOf i).toNat)
    case atStart =>
      exact ⟨0, _, Nat.zero_le _, rfl, Fill.start (size_madeCells _ _) (Lb.new w1 _ _), L1.out.alloc _, HP1.out, HG1.out, by simp⟩
    case round =>
      obtain ⟨j, cs, hj, rfl, hF, hL, hp, hg, hsz⟩ := hrel
      clear HP1 HG1 L1
      by_cases hlt : j < ls.length
      · have HC := Lib.hid (H235.out j hlt (Ex (Ex (Ex S P) w.heap.size) w1.heap.size) wr (fun k hk => ⟨⟨⟨HS.out k (by omega), by omega⟩, by omega⟩, by omega⟩) hp)
        have hnx := take_map_succ ls Pg.fs j hlt
        have hel : ((ls.take j).map Pg.fs).length = j := by simp; omega
        generalize (ls.take j).map Pg.fs = es at *
        generalize hes' : (ls.take (j + 1)).map Pg.fs = es' at *
        have Hnx := Lib.hid hnx; have Hel := Lib.hid hel; have Hes' := Lib.hid hes'
        generalize ls[j] = l at *
        have HF := Lib.hid hF; have HL := Lib.hid hL; have HG := Lib.hid hg
        have hw1 : IntKind.u32.wrap ((j : Int) + 1) = (j : Int) + 1 := by simp [IntKind.wrap, IntKind.signed, IntKind.bits]; omega
        clear hF hL hp hg hnx hel hes' hmk
        go_wp2_with fail
        refine HC.out.mono ?_
        rintro _ w2 ⟨b2, rfl, hr2, hp2, hg2⟩
        have hF2 := HF.out.grown hg2 (fun e => by have := Option.some.inj e; omega) (fun k hk e => hk.1.2 (Option.some.inj e))
        have hL2 := HL.out.grown hg2 (fun e => by have := Option.some.inj e; omega)
        have hG2 := grown_trans HG.out hg2
        have hsz2 : w1.heap.size + 1 ≤ w2.heap.size := Nat.le_trans hsz hg2.size
        obtain ⟨hbx, ax, cx, q0, q1, hrx⟩ := box_list hr2
        have hlx : (l.rings.map Ln.fs).length = l.rings.length := by simp
        rw [hlx] at q0 hrx
        have hba := bl_a1 w2 (.cells #[.int .i64 3, .iface 170 (.pointer (some ⟨b2, 0, none⟩))] 47)
        have le := Lb.new w2 #[.int .i64 3, .iface 170 (.pointer (some ⟨b2, 0, none⟩))] 47
        obtain ⟨ke, _, _⟩ := le.use
        have HF2 := Lib.hid hF2; have HP2 := Lib.hid hp2; have HL2 := Lib.hid hL2; have HG2 := Lib.hid hG2; have Hba := Lib.hid hba; have Hle := Lib.hid le
        have HRx := Lib.hid hrx
        clear hF2 hp2 hr2 hL2 hG2 hg2 hba le HF HL HG HC hrx
        go_wp2_with fail
        refine (c238 _ _ _).mono ?_
        rintro _ w3 ⟨rfl, hb3'⟩
        have hb3 := Hba.out.trans (hb3'.mono (by simp))
        have Q0 := (hb3.cell (p := ⟨b2, 0, none⟩) hbx).trans q0
        have Q1 := (hb3.cell (p := ⟨b2, 1, none⟩) hbx).trans q1
        obtain ⟨ke3, _, _⟩ := (Hle.out.blw hb3').use
        have hbx3 := Nat.lt_of_lt_of_le hbx hb3.size
        have Hb3 := Lib.hid hb3
        clear hb3 hb3' q0 q1 ke
        go_wp2_with fail
        refine (d71 _ _ _ _ b2 _ hbx3 Q0 Q1).mono ?_
        rintro _ w4 ⟨rfl, hb4'⟩
        have hb4 := Hb3.out.trans (hb4'.mono Hb3.out.size)
        have hF4 := HF2.out.blw hb4
        have hcs := hF4.size
        obtain ⟨kR, fR, ltR⟩ := hF4.blk.use
        obtain ⟨u0, hu0⟩ : ∃ u, cs[j * 2]? = some u := ⟨_, Array.getElem?_eq_getElem (by rw [hcs]; omega)⟩
        obtain ⟨u1, hu1⟩ : ∃ u, cs[j * 2 + 1]? = some u := ⟨_, Array.getElem?_eq_getElem (by rw [hcs]; omega)⟩
        have HF3 := Lib.hid hF4; have HP3 := Lib.hid (HP2.out.blw hb4); have HL3 := Lib.hid (HL2.out.blw hb4); have HG3 := Lib.hid (grown_trans HG2.out (below_grown hb4 _))
        have HR3 := Lib.hid (HRx.out.blw hb4)
        have hsz3 : w1.heap.size + 1 ≤ w4.heap.size := Nat.le_trans hsz2 hb4.size
        clear hF4 hb4 hb4' Q0 Q1 ke3 HF2 HP2 HL2 HG2 Hb3 HRx
        go_wp2_with fail
        go_roundw
        case rel =>
          have hPg : P ≠ w1.heap.size := by omega
          have hbg : b ≠ w1.heap.size := by omega
          refine ⟨j + 1, ((cs.setIfInBounds (j * 2) (.slice ax l.rings.length cx)).setIfInBounds (j * 2 + 1) (.int .u8 l.t)), by omega, by go_num, ?_, ((HL3.out.far (by simp; omega) _).far (by simp; omega) _), ((HP3.out.far _ _ hPg hbg).far _ _ hPg hbg), (grown_far (grown_far HG3.out (by omega) _ _) (by omega) _ _), by simp [World.setCell]; omega⟩
          rw [Hes'.out, Hnx.out]
          refine HF3.out.next _ rfl (by simp [hcs]) ((HF3.out.blk.set _ _).set _ _) keep_two (by simp [World.setCell]) (fun p hp => two_old (by rw [Hel.out] at hp; exact hp)) (fun jj hjj => ?_)
          rw [Hel.out]
          have hjc : jj = 0 ∨ jj = 1 := by have : jj < 2 := hjj; omega
          rcases hjc with rfl | rfl
          · exact ⟨_, two_new0 (by rw [hcs]; omega), (HR3.out.set _ _).set _ _⟩
          · exact ⟨_, two_new1 (by rw [hcs]; omega), .atom _⟩
        case measure => simp [intOf]; omega
      · obtain rfl : j = ls.length := by omega
        have hdl : decide (((ls.length : Nat) : Int) < ls.length) = false := by simp
        have hd := hF.done ls.length (by omega) (by simp) ⟨⟨HS.out _ (by omega), by omega⟩, by omega⟩ (by omega)
        rw [List.take_length] at hd
        have HN := Lib.hid (c102 (Ex (Ex S P) w.heap.size) ls (some ⟨w1.heap.size, 0, none⟩) ls.length wr Hok.out h0 hlen (fun k hk => ⟨⟨HS.out k (by omega), by omega⟩, by omega⟩) hd)
        have HL := Lib.hid hL; have HP := Lib.hid hp; have HG := Lib.hid hg
        clear hF hL hp hg hd hmk
        go_wp2_with fail
        refine HN.out.mono ?_
        rintro _ w3 ⟨a3, c3, rfl, hr3, hb3⟩
        obtain ⟨k3, f3, l3⟩ := (HL.out.blw hb3).use
        have HP3 := Lib.hid (HP.out.blw hb3)
        have HG3 := Lib.hid (grown_trans HG.out (below_grown hb3 _))
        have HR3 := Lib.hid hr3
        clear hr3 hb3 HP HG HL HN
        go_wp2_with fail
        refine bodyPost_ret (v := .tuple #[.agg #[.slice a3 ls.length c3, .int .u8 (foldT (ls.map (·.t)))], .nilIface]) (by simp [results, Tryz.results194, go_sem, k3]) rfl ⟨a3, c3, rfl, ?_, ?_, ?_⟩
        · refine Rd.unex (L := P) (Rd.unex (L := w.heap.size) ?_)
          exact (HR3.out.set 0 _).set 1 _
        · have h1 : P ≠ w.heap.size := by omega
          have h2 : b ≠ w.heap.size := by omega
          exact (HP3.out.far 0 _ h1 h2).far 1 _ h1 h2
        · exact grown_far (grown_far HG3.out (Nat.le_refl _) 0 _) (Nat.le_refl _) 1 _
set_option maxHeartbeats 8000000 in
theorem c195_g (S : Nat → Prop) (P b : Nat) (bo : Int) (hbo : bo = 0 ∨ bo = 1) (no : Bool) (t : Int) (t0 : 0 ≤ t) (t1 : t ≤ 3) (ls : List Geo) (hok : ∀ l ∈ ls, l.ok) (hlen : ls.length ≤ 1000000) (R : Nat → List UInt8) (l4 : List UInt8) (h4 : l4.length = 4) (hd : dec bo l4 = ls.length) (w : World) (hS : ∀ k, w.heap.size ≤ k → S k)
    (H235 : ∀ j (hj : j < ls.length) (S' : Nat → Prop) (w1 : World), (∀ k, w1.heap.size ≤ k → S' k) → Pr P b bo no (R j) w1 → Calls Tryz.prog 235 #[.pointer (some ⟨P, 0, none⟩)] w1 (GeoRx S' P b bo no (ls[j]).kind (ls[j]).tid (ls[j]).inner (R (j + 1)) w1))
    (h : Pr P b bo no (l4 ++ R 0) w) :
    Calls Tryz.prog 195 #[.pointer (some ⟨P, 0, none⟩), .int .u8 t] w (ListR S P b bo no (.list ((joined Geo.t Geo.force t ls).1.map Geo.fs)) (joined Geo.t Geo.force t ls).1.length (joined Geo.t Geo.force t ls).2 (R ls.length) w) := by
  have hsf := st_float
  have hlP := h.lt
  have hlb := h.inb.2
  have hb0 := bl_a1 w (.cells #[.slice none 0 0, .int .u8 0] 104)
  have HC := c188 P b bo hbo no l4 _ h4 _ (h.blw hb0)
  rw [hd] at HC
  replace HC := Lib.hid HC
  have l0 := Lib.hid (Lb.new w #[.slice none 0 0, .int .u8 0] 104)
  have HS := Lib.hid hS; have H235 := Lib.hid H235; have Hok := Lib.hid hok
  clear h hd hb0 hS hok
  rcases Nat.eq_zero_or_pos ls.length with h0 | h0
  · obtain rfl : ls = [] := List.eq_nil_of_length_eq_zero h0
    have H0 := Lib.hid (fun (w1 : World) (hs : w.heap.size + 1 ≤ w1.heap.size) => c113 (Ex S w.heap.size) [] 0 t none 0 w1 (by simp [Geo.okL]) (fun j hj => absurd hj (by simp)) t0 t1 (by simp) (fun k hk => ⟨HS.out k (by omega), by omega⟩) (Rd.nil none 0))
    have ej : joined Geo.t Geo.force t [] = ([], t) := by simp [joined]; omega
    rw [ej]
    simp only [List.length_nil] at *
    go_enter Tryz.func195, Tryz.ntmps195
    go_wp2_with fail
    refine HC.out.mono ?_
    rintro _ w1 ⟨rfl, hp1, hg1⟩
    have hsz1 : w.heap.size + 1 ≤ w1.heap.size := by have := hg1.size; simpa using this
    have L1 := Lib.hid (l0.out.grown hg1 (fun e => by have := Option.some.inj e; omega))
    have HP1 := Lib.hid hp1
    have HG1 := Lib.hid (grown_trans (alloc_grown w _ _) hg1)
    clear hp1 hg1 HC l0
    go_wp2_with fail
    refine (H0.out w1 hsz1).mono ?_
    rintro _ w2 ⟨a2, c2, rfl, hr2, hb2⟩
    have L2 := L1.out.blw hb2
    obtain ⟨k2, f2, l2⟩ := L2.use
    have HP2 := Lib.hid (HP1.out.blw hb2)
    have HG2 := Lib.hid (grown_trans HG1.out (below_grown hb2 _))
    have HR2 := Lib.hid hr2
    clear hr2 hb2 L2 L1 HP1 HG1
    go_wp2_with fail
    refine bodyPost_ret (v := .tuple #[.agg #[.slice a2 0 c2, .int .u8 t], .nilIface]) (by simp [results, Tryz.results195, go_sem, k2]) rfl ⟨a2, c2, rfl, ?_, ?_, ?_⟩
    · refine Rd.unex (L := w.heap.size) ?_
      exact (HR2.out.set 0 _).set 1 _
    · have h1 : P ≠ w.heap.size := by omega
      have h2 : b ≠ w.heap.size := by omega
      exact (HP2.out.far 0 _ h1 h2).far 1 _ h1 h2
    · exact grown_far (grown_far HG2.out (Nat.le_refl _) 0 _) (Nat.le_refl _) 1 _
  · have hmk : ∀ w, (Instr.makeSlice 102 (.int .u32 (ls.length : Int)) (.int .u32 (ls.length : Int))).run Tryz.prog w = .ok (.slice (some ⟨w.heap.size, 0, none⟩) ls.length ls.length) (w.alloc (.cells (madeCells #[.int .i64 0, .nilIface] (ls.length * 2)) 47)) :=
      mk_u32 (P := Tryz.prog) 102 47 _ 2 24 Tryz.underlying102 info47 ls.length (by omega) (by omega)
    have hne : ((ls.length : Int) == 0) = false := beq_false_of_ne (by omega)
    have ej : joined Geo.t Geo.force t ls = (ls.map (·.force (foldT (ls.map (·.t)))), foldT (ls.map (·.t))) := by unfold joined; exact if_neg (by omega)
    rw [ej]
    simp only [List.length_map]
    clear ej
    go_enter Tryz.func195, Tryz.ntmps195
    go_wp2_with fail
    refine HC.out.mono ?_
    rintro _ w1 ⟨rfl, hp1, hg1⟩
    have hsz1 : w.heap.size + 1 ≤ w1.heap.size := by have := hg1.size; simpa using this
    have L1 := Lib.hid (l0.out.grown hg1 (fun e => by have := Option.some.inj e; omega))
    have HP1 := Lib.hid (hp1.blw (bl_a1 w1 (.cells (madeCells #[.int .i64 0, .nilIface] (ls.length * 2)) 47)))
    have HG1 := Lib.hid (grown_trans (grown_trans (alloc_grown w (.cells #[.slice none 0 0, .int .u8 0] 104) _) hg1) (alloc_grown w1 (.cells (madeCells #[.int .i64 0, .nilIface] (ls.length * 2)) 47) _))
    clear hp1 hg1 HC l0
    go_wp2_with fail
    go_loopw [9] (fun i wr => ∃ j : Nat, ∃ cs : Array Value, j ≤ ls.length ∧ i = .int .u32 j ∧ Fill (Ex (Ex S P) w.heap.size) wr w1.heap.size 47 2 ls.length ((ls.take j).map Geo.fs) cs ∧ Lb wr w.heap.size #[.slice none 0 0, .int .u8 0] 104 ∧ Pr P b bo no (R j) wr ∧ w.grownBy wr (some P) ∧ w1.heap.size + 1 ≤ wr.heap.size) (fun i _ => ls.length - (intOf i).toNat)
    case atStart =>
      exact ⟨0, _, Nat.zero_le _, rfl, Fill.start (size_madeCells _ _) (Lb.new w1 _ _), L1.out.alloc _, HP1.out, HG1.out, by simp⟩
    case round =>
      obtain ⟨j, cs, hj, rfl, hF, hL, hp, hg, hsz⟩ := hrel
      clear HP1 HG1 L1
      by_cases hlt : j < ls.length
      · have HC := Lib.hid (H235.out j hlt (Ex (Ex (Ex S P) w.heap.size) w1.heap.size) wr (fun k hk => ⟨⟨⟨HS.out k (by omega), by omega⟩, by omega⟩, by omega⟩) hp)
        have hnx := take_map_succ ls Geo.fs j hlt
        have hel : ((ls.take j).map Geo.fs).length = j := by simp; omega
        generalize (ls.take j).map Geo.fs = es at *
        generalize hes' : (ls.take (j + 1)).map Geo.fs = es' at *
        have Hnx := Lib.hid hnx; have Hel := Lib.hid hel; have Hes' := Lib.hid hes'
        generalize ls[j] = l at *
        have HF := Lib.hid hF; have HL := Lib.hid hL; have HG := Lib.hid hg
        have hw1 : IntKind.u32.wrap ((j : Int) + 1) = (j : Int) + 1 := by simp [IntKind.wrap, IntKind.signed, IntKind.bits]; omega
        clear hF hL hp hg hnx hel hes' hmk
        go_wp2_with fail
        refine HC.out.mono ?_
        rintro _ w2 ⟨b2, rfl, hr2, hp2, hg2⟩
        have hF2 := HF.out.grown hg2 (fun e => by have := Option.some.inj e; omega) (fun k hk e => hk.1.2 (Option.some.inj e))
        have hL2 := HL.out.grown hg2 (fun e => by have := Option.some.inj e; omega)
        have hG2 := grown_trans HG.out hg2
        have hsz2 : w1.heap.size + 1 ≤ w2.heap.size := Nat.le_trans hsz hg2.size
        have hcs := hF2.size
        obtain ⟨kR, fR, ltR⟩ := hF2.blk.use
        obtain ⟨u0, hu0⟩ : ∃ u, cs[j * 2]? = some u := ⟨_, Array.getElem?_eq_getElem (by rw [hcs]; omega)⟩
        obtain ⟨u1, hu1⟩ : ∃ u, cs[j * 2 + 1]? = some u := ⟨_, Array.getElem?_eq_getElem (by rw [hcs]; omega)⟩
        have HF3 := Lib.hid hF2; have HP3 := Lib.hid hp2; have HR3 := Lib.hid hr2; have HL3 := Lib.hid hL2; have HG3 := Lib.hid hG2
        have hsz3 := hsz2
        clear hF2 hp2 hr2 hL2 hG2 hg2 HF HL HG HC
        go_wp2_with fail
        go_roundw
        case rel =>
          have hPg : P ≠ w1.heap.size := by omega
          have hbg : b ≠ w1.heap.size := by omega
          refine ⟨j + 1, ((cs.setIfInBounds (j * 2) (.int .i64 l.kind)).setIfInBounds (j * 2 + 1) (.iface l.tid (.pointer (some ⟨b2, 0, none⟩)))), by omega, by go_num, ?_, ((HL3.out.far (by simp; omega) _).far (by simp; omega) _), ((HP3.out.far _ _ hPg hbg).far _ _ hPg hbg), (grown_far (grown_far HG3.out (by omega) _ _) (by omega) _ _), by simp [World.setCell]; omega⟩
          rw [Hes'.out, Hnx.out]
          refine HF3.out.next _ rfl (by simp [hcs]) ((HF3.out.blk.set _ _).set _ _) keep_two (by simp [World.setCell]) (fun p hp => two_old (by rw [Hel.out] at hp; exact hp)) (fun jj hjj => ?_)
          rw [Hel.out]
          have hjc : jj = 0 ∨ jj = 1 := by have : jj < 2 := hjj; omega
          rcases hjc with rfl | rfl
          · exact ⟨_, two_new0 (by rw [hcs]; omega), .atom _⟩
          · exact ⟨_, two_new1 (by rw [hcs]; omega), (HR3.out.set _ _).set _ _⟩
        case measure => simp [intOf]; omega
      · obtain rfl : j = ls.length := by omega
        have hdl : decide (((ls.length : Nat) : Int) < ls.length) = false := by simp
        have hd := hF.done ls.length (by omega) (by simp) ⟨⟨HS.out _ (by omega), by omega⟩, by omega⟩ (by omega)
        rw [List.take_length] at hd
        have HN := Lib.hid (c124 (Ex (Ex S P) w.heap.size) ls (some ⟨w1.heap.size, 0, none⟩) ls.length wr Hok.out h0 hlen (fun k hk => ⟨⟨HS.out k (by omega), by omega⟩, by omega⟩) hd)
        have HL := Lib.hid hL; have HP := Lib.hid hp; have HG := Lib.hid hg
        clear hF hL hp hg hd hmk
        go_wp2_with fail
        refine HN.out.mono ?_
        rintro _ w3 ⟨a3, c3, rfl, hr3, hb3⟩
        obtain ⟨k3, f3, l3⟩ := (HL.out.blw hb3).use
        have HP3 := Lib.hid (HP.out.blw hb3)
        have HG3 := Lib.hid (grown_trans HG.out (below_grown hb3 _))
        have HR3 := Lib.hid hr3
        clear hr3 hb3 HP HG HL HN
        go_wp2_with fail
        refine bodyPost_ret (v := .tuple #[.agg #[.slice a3 ls.length c3, .int .u8 (foldT (ls.map (·.t)))], .nilIface]) (by simp [results, Tryz.results195, go_sem, k3]) rfl ⟨a3, c3, rfl, ?_, ?_, ?_⟩
        · refine Rd.unex (L := P) (Rd.unex (L := w.heap.size) ?_)
          exact (HR3.out.set 0 _).set 1 _
        · have h1 : P ≠ w.heap.size := by omega
          have h2 : b ≠ w.heap.size := by omega
          exact (HP3.out.far 0 _ h1 h2).far 1 _ h1 h2
        · exact grown_far (grown_far HG3.out (Nat.le_refl _) 0 _) (Nat.le_refl _) 1 _
end Go.Proofs.YtahnhhkbdgaidaaGreatDoor
