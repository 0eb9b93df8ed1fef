/-
  The reader of binary forms: polygons.
-/
import Derived.Test.YtahnhhkbdgaidaaGreatDoorKbb
namespace Go.Proofs.YtahnhhkbdgaidaaGreatDoor
open Go.RowKit
set_option maxRecDepth 100000
theorem mk_u32 {P : Program} (t e : TypeId) (z : Value) (sz bytes : Nat) (ht : P.underlying t = some (.slice e)) (hinfo : (P.info? e).map (fun i => (i.zero, i.size, i.bytes)) = some (some z, sz, bytes))
    (n : Nat) (hbytes : bytes * n ≤ 281474976710656) (h63 : n ≤ 9223372036854775807) (w : World) :
    (Instr.makeSlice t (.int .u32 (n : Int)) (.int .u32 (n : Int))).run P w = .ok (.slice (some ⟨w.heap.size, 0, none⟩) n n) (w.alloc (.cells (madeCells z.cells (n * sz)) e)) := by
  obtain ⟨i, hi, hz, hs, hb⟩ := info_parts hinfo
  subst hs
  subst hb
  have hb' : (i.bytes : Int) * (n : Int) ≤ 281474976710656 := by
    have h : ((i.bytes * n : Nat) : Int) ≤ 281474976710656 := by omega
    rwa [Int.natCast_mul] at h
  have hr := run_make (P := P) w t e i z ht hi hz .u32 .u32 n n (by omega) (Int.le_refl _) hb' (by omega)
  simpa only [Int.toNat_natCast] using hr
theorem Fill.grown {S : Nat → Prop} {w w' : World} {g : Nat} {E : TypeId} {sz n : Nat} {es : List (List F)} {cs : Array Value} {r : Option Nat} (h : Fill S w g E sz n es cs) (hg : w.grownBy w' r) (h1 : some g ≠ r) (h2 : ∀ b, S b → some b ≠ r) : Fill S w' g E sz n es cs :=
  ⟨h.size, h.blk.grown hg h1, h.lens, fun i hi j hj => let ⟨x, hx, q⟩ := h.rd i hi j hj; ⟨x, hx, q.grown hg (fun b hb => h2 b hb.1)⟩⟩
/-- What a reader of several parts answers. -/
def ListR (S : Nat → Prop) (P b : Nat) (bo : Int) (no : Bool) (f : F) (n : Nat) (t : Int) (r : List UInt8) (w : World) : Ending → World → Prop := fun e w' => ∃ a' c', e = .returned (.tuple #[.agg #[.slice a' n c', .int .u8 t], .nilIface]) ∧
  Rd S w' f (.slice a' n c') ∧ Pr P b bo no r w' ∧ w.grownBy w' (some P)
set_option maxHeartbeats 4000000 in
theorem c191 (S : Nat → Prop) (P b : Nat) (bo : Int) (hbo : bo = 0 ∨ bo = 1) (no : Bool) (t : Int) (t0 : 0 ≤ t) (t1 : t ≤ 3) (ls : List Ln) (hok : ∀ l ∈ ls, l.ok) (hty : ∀ l ∈ ls, l.t = t) (hlen : ls.length ≤ 1000000) (R : Nat → List UInt8) (l4 : List UInt8) (h4 : l4.length = 4) (hd : dec bo l4 = ls.length) (w : World) (hS : ∀ k, w.heap.size ≤ k → S k)
    (H190 : ∀ j (hj : j < ls.length) (S' : Nat → Prop) (w1 : World), (∀ k, w1.heap.size ≤ k → S' k) → Pr P b bo no (R j) w1 → Calls Tryz.prog 190 #[.pointer (some ⟨P, 0, none⟩), .int .u8 t] w1 (LineR S' P b bo no t (ls[j]).xs (R (j + 1)) w1))
    (h : Pr P b bo no (l4 ++ R 0) w) :
    Calls Tryz.prog 191 #[.pointer (some ⟨P, 0, none⟩), .int .u8 t] w (ListR S P b bo no (.list ((joined lnT Ln.force t ls).1.map Ln.fs)) (joined lnT Ln.force t ls).1.length (joined lnT Ln.force t ls).2 (R ls.length) w) := by
  have hlP := h.lt
  have hlb := h.inb.2
  have hb0 := bl_a1 w (.cells #[.slice none 0 0, .int .u8 0] 73)
  have HC := c188 P b bo hbo no l4 _ h4 _ (h.blw hb0)
  rw [hd] at HC
  replace HC := Lib.hid HC
  have l0 := Lib.hid (Lb.new w #[.slice none 0 0, .int .u8 0] 73)
  have HS := Lib.hid hS; have H190 := Lib.hid H190; have Hok := Lib.hid hok; have Hty := Lib.hid hty
  clear h hd hb0 hS hok hty
  rcases Nat.eq_zero_or_pos ls.length with h0 | h0
  · obtain rfl : ls = [] := List.eq_nil_of_length_eq_zero h0
    have H91 := Lib.hid (fun (w1 : World) (hs : w.heap.size + 1 ≤ w1.heap.size) => c91 (Ex S w.heap.size) [] 0 t none 0 w1 (by simp) t0 t1 (by simp) (fun k hk => ⟨HS.out k (by omega), by omega⟩) (Rd.nil none 0))
    have ej : joined lnT Ln.force t [] = ([], t) := by simp [joined]; omega
    rw [ej]
    simp only [List.length_nil] at *
    go_enter Tryz.func191, Tryz.ntmps191
    go_wp2_with fail
    refine HC.out.mono ?_
    rintro _ w1 ⟨rfl, hp1, hg1⟩
    have hsz1 : w.heap.size + 1 ≤ w1.heap.size := by have := hg1.size; simpa using this
    have L1 := Lib.hid (l0.out.grown hg1 (fun e => by have := Option.some.inj e; omega))
    have HP1 := Lib.hid hp1
    have HG1 := Lib.hid (grown_trans (alloc_grown w _ _) hg1)
    clear hp1 hg1 HC l0
    go_wp2_with fail
    refine (H91.out w1 hsz1).mono ?_
    rintro _ w2 ⟨a2, c2, rfl, hr2, hb2⟩
    have L2 := L1.out.blw hb2
    obtain ⟨k2, f2, l2⟩ := L2.use
    have HP2 := Lib.hid (HP1.out.blw hb2)
    have HG2 := Lib.hid (grown_trans HG1.out (below_grown hb2 _))
    have HR2 := Lib.hid hr2
    clear hr2 hb2 L2 L1 HP1 HG1
    go_wp2_with fail
    refine bodyPost_ret (v := .tuple #[.agg #[.slice a2 0 c2, .int .u8 t], .nilIface]) (by simp [results, Tryz.results191, go_sem, k2]) rfl ⟨a2, c2, rfl, ?_, ?_, ?_⟩
    · refine Rd.unex (L := w.heap.size) ?_
      exact (HR2.out.set 0 _).set 1 _
    · have h1 : P ≠ w.heap.size := by omega
      have h2 : b ≠ w.heap.size := by omega
      exact (HP2.out.far 0 _ h1 h2).far 1 _ h1 h2
    · exact grown_far (grown_far HG2.out (Nat.le_refl _) 0 _) (Nat.le_refl _) 1 _
  · have hmk : ∀ w, (Instr.makeSlice 71 (.int .u32 (ls.length : Int)) (.int .u32 (ls.length : Int))).run Tryz.prog w = .ok (.slice (some ⟨w.heap.size, 0, none⟩) ls.length ls.length) (w.alloc (.cells (madeCells #[.int .u8 0, .slice none 0 0] (ls.length * 2)) 69)) :=
      mk_u32 (P := Tryz.prog) 71 69 _ 2 32 Tryz.underlying71 info69 ls.length (by omega) (by omega)
    have hne : ((ls.length : Int) == 0) = false := beq_false_of_ne (by omega)
    have ej : joined lnT Ln.force t ls = (ls.map (·.force (foldT (ls.map (·.t)))), foldT (ls.map (·.t))) := by unfold joined; rw [if_neg (by omega)]; rfl
    rw [ej]
    simp only [List.length_map]
    clear ej
    go_enter Tryz.func191, Tryz.ntmps191
    go_wp2_with fail
    refine HC.out.mono ?_
    rintro _ w1 ⟨rfl, hp1, hg1⟩
    have hsz1 : w.heap.size + 1 ≤ w1.heap.size := by have := hg1.size; simpa using this
    have L1 := Lib.hid (l0.out.grown hg1 (fun e => by have := Option.some.inj e; omega))
    have HP1 := Lib.hid (hp1.blw (bl_a1 w1 (.cells (madeCells #[.int .u8 0, .slice none 0 0] (ls.length * 2)) 69)))
    have HG1 := Lib.hid (grown_trans (grown_trans (alloc_grown w (.cells #[.slice none 0 0, .int .u8 0] 73) _) hg1) (alloc_grown w1 (.cells (madeCells #[.int .u8 0, .slice none 0 0] (ls.length * 2)) 69) _))
    clear hp1 hg1 HC l0
    go_wp2_with fail
    go_loopw [28] (fun i wr => ∃ j : Nat, ∃ cs : Array Value, j ≤ ls.length ∧ i = .int .i64 j ∧ Fill (Ex (Ex S P) w.heap.size) wr w1.heap.size 69 2 ls.length ((ls.take j).map Ln.fs) cs ∧ Lb wr w.heap.size #[.slice none 0 0, .int .u8 0] 73 ∧ Pr P b bo no (R j) wr ∧ w.grownBy wr (some P) ∧ w1.heap.size + 1 ≤ wr.heap.size) (fun i _ => ls.length - (intOf i).toNat)
    case atStart =>
      exact ⟨0, _, Nat.zero_le _, rfl, Fill.start (size_madeCells _ _) (Lb.new w1 _ _), L1.out.alloc _, HP1.out, HG1.out, by simp⟩
    case round =>
      obtain ⟨j, cs, hj, rfl, hF, hL, hp, hg, hsz⟩ := hrel
      clear HP1 HG1 L1
      by_cases hlt : j < ls.length
      · have HC := Lib.hid (H190.out j hlt (Ex (Ex (Ex S P) w.heap.size) w1.heap.size) wr (fun k hk => ⟨⟨⟨HS.out k (by omega), by omega⟩, by omega⟩, by omega⟩) hp)
        have htj := Hty.out _ (List.getElem_mem hlt)
        have hnx := take_map_succ ls Ln.fs j hlt
        have hel : ((ls.take j).map Ln.fs).length = j := by simp; omega
        generalize (ls.take j).map Ln.fs = es at *
        generalize hes' : (ls.take (j + 1)).map Ln.fs = es' at *
        have Hnx := Lib.hid hnx; have Hel := Lib.hid hel; have Hes' := Lib.hid hes'
        generalize ls[j] = l at *
        obtain ⟨lt, lx⟩ := l
        simp only at htj
        subst htj
        have HF := Lib.hid hF; have HL := Lib.hid hL; have HG := Lib.hid hg
        clear hF hL hp hg hnx hel hes' hmk
        go_wp2_with fail
        refine HC.out.mono ?_
        rintro _ w2 ⟨a2, c2, rfl, hr2, hp2, hg2⟩
        have hF2 := HF.out.grown hg2 (fun e => by have := Option.some.inj e; omega) (fun k hk e => hk.1.2 (Option.some.inj e))
        have hcs := hF2.size
        obtain ⟨kR, fR, ltR⟩ := hF2.blk.use
        obtain ⟨u0, hu0⟩ : ∃ u, cs[j * 2]? = some u := ⟨_, Array.getElem?_eq_getElem (by rw [hcs]; omega)⟩
        obtain ⟨u1, hu1⟩ : ∃ u, cs[j * 2 + 1]? = some u := ⟨_, Array.getElem?_eq_getElem (by rw [hcs]; omega)⟩
        have HF2 := Lib.hid hF2; have HP2 := Lib.hid hp2; have HR2 := Lib.hid hr2
        have HL2 := Lib.hid (HL.out.grown hg2 (fun e => by have := Option.some.inj e; omega))
        have HG2 := Lib.hid (grown_trans HG.out hg2)
        have hsz2 : w1.heap.size + 1 ≤ w2.heap.size := Nat.le_trans hsz hg2.size
        clear hF2 hp2 hr2 hg2 HF HL HG HC
        go_wp2_with fail
        go_roundw
        case rel =>
          have hPg : P ≠ w1.heap.size := by omega
          have hbg : b ≠ w1.heap.size := by omega
          refine ⟨j + 1, (cs.setIfInBounds (j * 2) (.int .u8 lt)).setIfInBounds (j * 2 + 1) (.slice a2 lx.length c2), by omega, by go_num, ?_, (HL2.out.far (by simp; omega) _).far (by simp; omega) _, (HP2.out.far _ _ hPg hbg).far _ _ hPg hbg, grown_far (grown_far HG2.out (by omega) _ _) (by omega) _ _, by simp [World.setCell]; omega⟩
          rw [Hes'.out, Hnx.out]
          refine HF2.out.next _ rfl (by simp [hcs]) (((HF2.out.blk).set _ _).set _ _) keep_two (by simp [World.setCell]) (fun p hp => two_old (by rw [Hel.out] at hp; exact hp)) (fun jj hjj => ?_)
          rw [Hel.out]
          have hjc : jj = 0 ∨ jj = 1 := by have : jj < 2 := hjj; omega
          rcases hjc with rfl | rfl
          · exact ⟨_, two_new0 (by rw [hcs]; omega), .atom _⟩
          · exact ⟨_, two_new1 (by rw [hcs]; omega), (HR2.out.set _ _).set _ _⟩
        case measure => simp [intOf]; omega
      · obtain rfl : j = ls.length := by omega
        have hdl : decide (((ls.length : Nat) : Int) < ls.length) = false := by simp
        have hd := hF.done ls.length (by omega) (by simp) ⟨⟨HS.out _ (by omega), by omega⟩, by omega⟩ (by omega)
        rw [List.take_length] at hd
        have H92 := Lib.hid (c92 (Ex (Ex S P) w.heap.size) ls (some ⟨w1.heap.size, 0, none⟩) ls.length wr Hok.out h0 hlen (fun k hk => ⟨⟨HS.out k (by omega), by omega⟩, by omega⟩) hd)
        have HL := Lib.hid hL; have HP := Lib.hid hp; have HG := Lib.hid hg
        clear hF hL hp hg hd hmk
        go_wp2_with fail
        refine H92.out.mono ?_
        rintro _ w3 ⟨a3, c3, rfl, hr3, hb3⟩
        obtain ⟨k3, f3, l3⟩ := (HL.out.blw hb3).use
        have HP3 := Lib.hid (HP.out.blw hb3)
        have HG3 := Lib.hid (grown_trans HG.out (below_grown hb3 _))
        have HR3 := Lib.hid hr3
        clear hr3 hb3 HP HG HL H92
        go_wp2_with fail
        refine bodyPost_ret (v := .tuple #[.agg #[.slice a3 ls.length c3, .int .u8 (foldT (ls.map (·.t)))], .nilIface]) (by simp [results, Tryz.results191, go_sem, k3]) rfl ⟨a3, c3, rfl, ?_, ?_, ?_⟩
        · refine Rd.unex (L := P) (Rd.unex (L := w.heap.size) ?_)
          exact (HR3.out.set 0 _).set 1 _
        · have h1 : P ≠ w.heap.size := by omega
          have h2 : b ≠ w.heap.size := by omega
          exact (HP3.out.far 0 _ h1 h2).far 1 _ h1 h2
        · exact grown_far (grown_far HG3.out (Nat.le_refl _) 0 _) (Nat.le_refl _) 1 _
end Go.Proofs.YtahnhhkbdgaidaaGreatDoor
