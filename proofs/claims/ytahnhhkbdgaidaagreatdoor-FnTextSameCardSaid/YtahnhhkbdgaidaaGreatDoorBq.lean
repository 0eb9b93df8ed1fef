/-
  Several points: made, and under another type.
-/
import Derived.Test.YtahnhhkbdgaidaaGreatDoorBp
namespace Go.Proofs.YtahnhhkbdgaidaaGreatDoor
open Go.RowKit

theorem c95 (S : Nat → Prop) (ls : List Pt) (t t' : Int) (a : Option Addr) (c : Nat) (w : World) (hok : ∀ l ∈ ls, l.ok) (g0 : 0 ≤ t') (g1 : t' ≤ 3) (hlen : ls.length ≤ 1000000) (hS : ∀ b, w.heap.size ≤ b → S b)
    (h : Rd S w (.list (ls.map Pt.fs)) (.slice a ls.length c)) :
    Calls Tryz.prog 95 #[.agg #[.slice a ls.length c, .int .u8 t], .int .u8 t'] w fun e w' => ∃ a' c', e = .returned (.agg #[.slice a' ls.length c', .int .u8 t']) ∧
      Rd S w' (.list ((ls.map (·.force t')).map Pt.fs)) (.slice a' ls.length c') ∧ Below w.heap.size w w' := by
  have H := Lib.hid fun (S : Nat → Prop) (w : World) => c141 S ls t' a c w hok g0 g1 hlen
  go_enter Tryz.func95, Tryz.ntmps95
  go_wp2_with fail
  refine (H.out (Ex S (w.heap.size + 1)) _ (Ex.up hS (by simp <;> omega) (by simp <;> omega)) (((h.ex (by simp)).alloc _).alloc _)).mono ?_
  rintro e w1 ⟨a', c', rfl, hr, hb1⟩
  have L1 := (Lb.new2 w _ _ _).blw hb1
  have HB := Lib.hid ((bl_a2 w _ _).trans (hb1.mono (by simp <;> omega)))
  obtain ⟨k1, f1, lt1⟩ := L1.use
  have Hr := Lib.hid hr
  clear hb1 L1 H h hr
  go_wp2_with fail
  refine bodyPost_ret (v := .agg #[.slice a' ls.length c', .int .u8 t']) (by simp [results, Tryz.results95, go_sem, k1]) rfl ⟨_, _, rfl, ?_, ?_⟩
  · refine Rd.unex (L := w.heap.size + 1) ?_
    have hz := Hr.out
    rw [List.map_map] at hz ⊢
    repeat (with_reducible first | refine Rd.set ?_ _ _ | exact hz)
  · repeat (with_reducible first | refine Below.setCell ?_ (by simp) _ | exact HB.out)

set_option maxRecDepth 100000 in
set_option maxHeartbeats 2000000 in
theorem c96 (S : Nat → Prop) (ls : List Pt) (a : Option Addr) (c : Nat) (w : World) (hok : ∀ l ∈ ls, l.ok) (hpos : 0 < ls.length) (hlen : ls.length ≤ 1000000) (hS : ∀ b, w.heap.size ≤ b → S b)
    (h : Rd S w (.list (ls.map Pt.fs)) (.slice a ls.length c)) :
    Calls Tryz.prog 96 #[.slice a ls.length c] w fun e w' => ∃ a' c', e = .returned (.agg #[.slice a' ls.length c', .int .u8 (foldT (ls.map (·.c.t)))]) ∧
      Rd S w' (.list ((ls.map (·.force (foldT (ls.map (·.c.t))))).map Pt.fs)) (.slice a' ls.length c') ∧ Below w.heap.size w w' := by
  have hsf := st_float
  have hT := foldT_bd (ls.map (·.c.t)) (fun t ht => by obtain ⟨l, hl, rfl⟩ := List.mem_map.1 ht; exact hok l hl)
  have hl1 : ((ls.length : Int) == 0) = false := by rw [beq_eq_false_iff_ne]; omega
  have H141 := Lib.hid fun (S : Nat → Prop) (w : World) => c141 S ls (foldT (ls.map (·.c.t))) a c w hok hT.1 hT.2 hlen
  go_enter Tryz.func96, Tryz.ntmps96
  go_wp2_with fail
  go_loopw [3, 13] (fun T i wr => ∃ j : Nat, j ≤ ls.length ∧ i = .int .i64 j ∧ T = .int .u8 (preT (ls.map (·.c.t)) j) ∧ Lb wr w.heap.size #[.slice none 0 0, .int .u8 0] 77 ∧
      Rd (Ex S w.heap.size) wr (.list (ls.map Pt.fs)) (.slice a ls.length c) ∧ Below w.heap.size w wr ∧ w.heap.size + 1 ≤ wr.heap.size) (fun _ i _ => ls.length - (intOf i).toNat)
  case atStart => exact ⟨0, Nat.zero_le _, rfl, rfl, Lb.new w _ _, (h.ex (Nat.le_refl _)).alloc _, bl_a1 w _, by simp⟩
  case round =>
    obtain ⟨j, hj, rfl, rfl, L0, hr, hB, hsz⟩ := hrel
    have HL0 := Lib.hid L0; have HB := Lib.hid hB
    clear L0 hB
    by_cases hlt : j < ls.length
    · obtain ⟨a0, c0, e0, hm, hat⟩ := pts_at hr
      obtain ⟨rfl, _, rfl⟩ := Value.slice.inj e0
      obtain ⟨b, off, rfl, hSb, hb, k0, k1, k2, k3, k4, k5⟩ := hat j hlt
      have Hst := Lib.hid (preT_step ls (·.c.t) j hlt)
      have Hr := Lib.hid hr
      clear hat e0 hr hT
      go_wp2_with fail
      refine (c142 _ _ _ _ _ _ _).mono ?_
      rintro e w1 ⟨rfl, hb2'⟩
      have hb2 := (bl_a1 wr _).trans (hb2'.mono (by simp))
      have HL0' := Lib.hid (HL0.out.blw hb2); have HB' := Lib.hid (HB.out.trans (hb2.mono (by omega))); have Hr' := Lib.hid (Hr.out.blw hb2)
      have hsz2 : w.heap.size + 1 ≤ w1.heap.size := Nat.le_trans hsz hb2.size
      clear hb2 hb2' k0 k1 k2 k3 k4 k5 hb
      go_wp2_with fail
      go_roundw
      case rel => exact ⟨j + 1, by omega, by go_num, by rw [Hst.out]; rfl, HL0'.out, Hr'.out, HB'.out, hsz2⟩
      case measure => simp [intOf]; omega
    · obtain rfl : j = ls.length := by omega
      have hdl : decide (((ls.length : Nat) : Int) < ls.length) = false := by simp
      have Hr := Lib.hid hr
      rw [preT_all _ _ (by simp)]
      clear hr h
      go_wp2_with fail
      refine (H141.out (Ex S w.heap.size) wr (Ex.up hS (by omega) (by omega)) Hr.out).mono ?_
      rintro e w1 ⟨a', c', rfl, hr2, hb1⟩
      have L1 := HL0.out.blw hb1
      have HB2 := Lib.hid (HB.out.trans (hb1.mono (by omega)))
      obtain ⟨k1, f1, lt1⟩ := L1.use
      have Hr2 := Lib.hid hr2
      clear hb1 L1 H141 hr2
      go_wp2_with fail
      refine bodyPost_ret (v := .agg #[.slice a' ls.length c', .int .u8 (foldT (ls.map (·.c.t)))]) (by simp [results, Tryz.results96, go_sem, k1]) rfl ⟨_, _, rfl, ?_, ?_⟩
      · refine Rd.unex (L := w.heap.size) ?_
        have hz := Hr2.out
        rw [List.map_map] at hz ⊢
        repeat (with_reducible first | refine Rd.set ?_ _ _ | exact hz)
      · repeat (with_reducible first | refine Below.setCell ?_ (by simp) _ | exact HB2.out)
end Go.Proofs.YtahnhhkbdgaidaaGreatDoor
