/-
  A collection is made of its parts.
-/
import Derived.Test.YtahnhhkbdgaidaaGreatDoorBu
namespace Go.Proofs.YtahnhhkbdgaidaaGreatDoor
open Go.RowKit

set_option maxRecDepth 100000 in
set_option maxHeartbeats 2000000 in
theorem c124 (S : Nat → Prop) (ls : List Geo) (a : Option Addr) (c : Nat) (w : World) (hok : ∀ l ∈ ls, l.ok) (hpos : 0 < ls.length) (hlen : ls.length ≤ 1000000) (hS : ∀ b, w.heap.size ≤ b → S b)
    (h : Rd S w (.list (ls.map Geo.fs)) (.slice a ls.length c)) :
    Calls Tryz.prog 124 #[.slice a ls.length c] w fun e w' => ∃ a' c', e = .returned (.agg #[.slice a' ls.length c', .int .u8 (foldT (ls.map (·.t)))]) ∧
      Rd S w' (.list ((ls.map (·.force (foldT (ls.map (·.t))))).map Geo.fs)) (.slice a' ls.length c') ∧ Below w.heap.size w w' := by
  have hT := foldT_bd (ls.map (·.t)) (fun t ht => by obtain ⟨l, hl, rfl⟩ := List.mem_map.1 ht; exact Geo.ok_t l (hok l hl))
  have hl1 : ((ls.length : Int) == 0) = false := by rw [beq_eq_false_iff_ne]; omega
  have hl2 : decide ((0 : Int) < ls.length) = true := by simp; omega
  go_enter Tryz.func124, Tryz.ntmps124
  go_wp2_with fail
  go_loopw [3, 13] (fun T i wr => ∃ j : Nat, j ≤ ls.length ∧ i = .int .i64 j ∧ T = .int .u8 (preT (ls.map (·.t)) j) ∧ Lb wr w.heap.size #[.slice none 0 0, .int .u8 0] 104 ∧
      Rd (Ex S w.heap.size) wr (.list (ls.map Geo.fs)) (.slice a ls.length c) ∧ Below w.heap.size w wr ∧ w.heap.size + 1 ≤ wr.heap.size) (fun _ i _ => ls.length - (intOf i).toNat)
  case atStart => exact ⟨0, Nat.zero_le _, rfl, rfl, Lb.new w _ _, (h.ex (Nat.le_refl _)).alloc _, bl_a1 w _, by simp⟩
  case round =>
    obtain ⟨j, hj, rfl, rfl, L0, hr, hB, hsz⟩ := hrel
    have HL0 := Lib.hid L0; have HB := Lib.hid hB
    clear L0 hB
    by_cases hlt : j < ls.length
    · obtain ⟨a0, c0, e0, hm, hat⟩ := geos_at hr
      obtain ⟨rfl, _, rfl⟩ := Value.slice.inj e0
      obtain ⟨b, off, b0, rfl, hSb, hb, k0, k1, hrj⟩ := hat j hlt
      have Hst := Lib.hid (preT_step ls (·.t) j hlt)
      have Hr := Lib.hid hr
      clear hat e0 hr hT
      go_wp2_with fail
      refine (c177 _ ls[j] _ _ (hrj.alloc _)).mono ?_
      rintro e w1 ⟨rfl, hb2'⟩
      have hb2 := (bl_a1 wr _).trans (hb2'.mono (by simp))
      have HL0' := Lib.hid (HL0.out.blw hb2); have HB' := Lib.hid (HB.out.trans (hb2.mono (by omega))); have Hr' := Lib.hid (Hr.out.blw hb2)
      have hsz2 : w.heap.size + 1 ≤ w1.heap.size := Nat.le_trans hsz hb2.size
      clear hb2 hb2' k0 k1 hb
      go_wp2_with fail
      go_roundw
      case rel => exact ⟨j + 1, by omega, by go_num, by rw [Hst.out]; rfl, HL0'.out, Hr'.out, HB'.out, hsz2⟩
      case measure => simp [intOf]; omega
    · obtain rfl : j = ls.length := by omega
      have hdl : decide (((ls.length : Nat) : Int) < ls.length) = false := by simp
      have hr' : Rd (Ex S w.heap.size) wr (.list (ls.map Geo.fs)) (.slice a (ls.map Geo.fs).length c) := by rw [List.length_map]; exact hr
      obtain ⟨g, cap, cs0, w2, hap, hg, hC, hb2⟩ := app_all (P := Tryz.prog) 102 47 2 24 _ Tryz.underlying102 info47 rfl (by omega) (by omega) hr' (by simp [Geo.fs]) (by
        intro i hi f hf v hv; simp [Geo.fs] at hf; rcases hf with rfl | rfl <;> first | (cases hv; rfl) | cases hv) (by simpa using hpos) (by simp; omega)
      rw [List.length_map] at hap
      rw [preT_all _ _ (by simp)]
      have HC := Lib.hid hC; have HL1 := Lib.hid (HL0.out.blw hb2); have HB1 := Lib.hid (HB.out.trans (hb2.mono (by omega)))
      have hg1 : w.heap.size < g := by omega
      clear hC hb2 hr hr' h hdl
      have hdl : decide (((ls.length : Nat) : Int) < ls.length) = false := by simp
      generalize hTT : foldT (ls.map (·.t)) = TT at *
      have HTT := Lib.hid hTT; clear hTT
      have Hap := Lib.hid hap; clear hap
      go_wp2_with (at_builtin; refine wpList_append_eq rfl _ _ 102 rfl rfl rfl rfl Hap.out ?_)
      clear Hap
      go_loopw [26] (fun i wr => ∃ j : Nat, ∃ cs : Array Value, j ≤ ls.length ∧ i = .int .i64 j ∧ Cont (Ex S w.heap.size) wr g 47 2 (mixL ls (fun l => (l.force TT).fs) Geo.fs j) cs ∧ Lb wr w.heap.size #[.slice none 0 0, .int .u8 0] 104 ∧ Below w.heap.size w wr) (fun i _ => ls.length - (intOf i).toNat)
      case atStart => exact ⟨0, cs0, Nat.zero_le _, rfl, by rw [mix_zero]; exact HC.out, HL1.out, HB1.out⟩
      case round =>
        clear HC HL1 HB1
        obtain ⟨j, cs, hj, rfl, hC, L0, hB⟩ := hrel
        have hml := mix_len ls (fun l => (l.force TT).fs) Geo.fs j
        by_cases hlt : j < ls.length
        · have hmg := mix_get ls (fun l => (l.force TT).fs) Geo.fs j hlt
          obtain ⟨x0, k0, r0⟩ := hC.rd j (by rw [hml]; exact hlt) 0 (by rw [hmg]; simp [Geo.fs])
          obtain ⟨x1, k1, r1⟩ := hC.rd j (by rw [hml]; exact hlt) 1 (by rw [hmg]; simp [Geo.fs])
          simp only [hmg] at r0 r1
          rw [Nat.add_zero] at k0
          have q0 : Rd (Ex (Ex S w.heap.size) g) wr (.atom (.int .i64 (ls[j]).kind)) x0 := r0
          have q1 : GeoV (Ex (Ex S w.heap.size) g) wr ls[j] x1 := r1
          clear r0 r1
          have e0 := q0.atom_inv
          subst e0
          obtain ⟨b0, e1⟩ := q1.shape
          subst e1
          have hcs := hC.size
          rw [hml] at hcs
          obtain ⟨kR, fR, ltR⟩ := hC.blk.use
          have HC := Lib.hid hC; have HL0 := Lib.hid L0; have HB := Lib.hid hB
          have H := Lib.hid fun (S : Nat → Prop) => c48 (ls[j]).size ls[j] TT S wr (.iface (ls[j]).tid (.pointer (some ⟨b0, 0, none⟩))) (Nat.le_refl _) (hok _ (List.getElem_mem hlt)) hT.1 hT.2
          clear hC L0 hB hml hmg
          go_wp2_with fail
          refine (H.out _ (fun b hb => ⟨⟨hS b (by have := HB.out.size; omega), by have := HB.out.size; omega⟩, by omega⟩) q1).mono ?_
          rintro e w1 ⟨b2, rfl, hr2, hb2⟩
          have hC2 := HC.out.blw hb2
          have HC2 := Lib.hid hC2
          obtain ⟨kR2, fR2, ltR2⟩ := hC2.blk.use
          have HL1 := Lib.hid (HL0.out.blw hb2); have HB2 := Lib.hid (HB.out.trans (hb2.mono HB.out.size))
          have hr4 := Lib.hid hr2
          clear hb2 hC2 kR fR hr2 q0 q1
          go_wp2_with fail
          go_roundw
          case rel =>
            refine ⟨j + 1, (cs.setIfInBounds (j * 2) (.int .i64 (ls[j]).kind)).setIfInBounds (j * 2 + 1) (.iface (ls[j]).tid (.pointer (some ⟨b2, 0, none⟩))), by omega, by go_num, ?_, (HL1.out.far (by simp <;> omega) _).far (by simp <;> omega) _, (HB2.out.setCell (by simp <;> omega) _).setCell (by simp <;> omega) _⟩
            rw [← mix_set ls _ _ j hlt]
            refine HC2.out.put j (by rw [mix_len]; exact hlt) _ rfl (by simp) ((HC2.out.blk.set _ _).set _ _) keep_two (by simp [World.setCell]) (fun p hp => two_out hp) (fun jj hjj => ?_)
            have hjc : jj = 0 ∨ jj = 1 := by have : ((ls[j]).force TT).fs.length = 2 := rfl; omega
            rcases hjc with rfl | rfl
            · exact ⟨_, two_new0 (by omega), by show Rd _ _ (.atom (.int .i64 ((ls[j]).force TT).kind)) _; rw [← (Geo.force_kind ls[j] TT).1]; exact .atom _⟩
            · exact ⟨_, two_new1 (by omega), (hr4.out.set _ _).set _ _⟩
          case measure => simp [intOf]; omega
        · obtain rfl : j = ls.length := by omega
          have hdl : decide (((ls.length : Nat) : Int) < ls.length) = false := by simp
          obtain ⟨k1, f1, lt1⟩ := L0.use
          have HC := Lib.hid hC; have HB := Lib.hid hB
          clear hC L0 hB
          go_wp2_with fail
          refine bodyPost_ret (v := .agg #[.slice (some ⟨g, 0, none⟩) ls.length cap, .int .u8 TT]) (by simp [results, Tryz.results124, go_sem, k1]) rfl ⟨_, _, by rw [HTT.out], ?_, ?_⟩
          · refine Rd.unex (L := w.heap.size) ?_
            have hd := HC.out.done cap (by omega) ⟨hS _ (by omega), by omega⟩ (by rw [mix_len]; omega)
            rw [mix_len, mix_all] at hd
            rw [HTT.out, List.map_map]
            have hd2 : Rd (Ex S w.heap.size) wr (.list (ls.map (Geo.fs ∘ fun x => x.force TT))) (.slice (some ⟨g, 0, none⟩) ls.length cap) := hd
            repeat (with_reducible first | refine Rd.set ?_ _ _ | exact hd2)
          · repeat (with_reducible first | refine Below.setCell ?_ (by simp) _ | exact HB.out)
end Go.Proofs.YtahnhhkbdgaidaaGreatDoor
