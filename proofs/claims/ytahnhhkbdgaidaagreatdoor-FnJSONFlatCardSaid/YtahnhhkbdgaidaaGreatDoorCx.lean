/-
  The reference's text of a geometry.
-/
import Derived.Test.YtahnhhkbdgaidaaGreatDoorCq
import Derived.Test.YtahnhhkbdgaidaaGreatDoorCk
import Derived.Test.YtahnhhkbdgaidaaGreatDoorCs
namespace Go.Proofs.YtahnhhkbdgaidaaGreatDoor
open Go.RowKit
set_option maxRecDepth 100000
theorem str_app (a b : List UInt8) : ByteArray.mk a.toArray ++ ByteArray.mk b.toArray = ByteArray.mk (a ++ b).toArray := by
  apply ByteArray.ext
  simp
theorem rd_one {S : Nat → Prop} {w : World} {b : Nat} {T : TypeId} (p : Crd) (h : Lb w b #[.float .f64 p.x, .float .f64 p.y, .float .f64 p.z, .float .f64 p.m] T) (hS : S b) : Rd S w (.list ([p].map plF)) (.slice (some ⟨b, 0, none⟩) 1 1) := by
  refine .list _ b 0 1 4 (fun _ j => #[Value.float .f64 p.x, .float .f64 p.y, .float .f64 p.z, .float .f64 p.m][j]?.getD undef) (by omega) (by simp) (fun i hi => ?_) hS h.use.2.2 (fun i j hi hj => ?_) (fun i hi j hj => ?_)
  · simp at hi; subst hi; rfl
  · simp at hi; subst hi
    have := h.use.1 j
    rw [show 0 + 0 * 4 + j = j by omega, this]
    have hj' : j = 0 ∨ j = 1 ∨ j = 2 ∨ j = 3 := by omega
    rcases hj' with rfl | rfl | rfl | rfl <;> rfl
  · simp at hi; subst hi
    have hj' : j = 0 ∨ j = 1 ∨ j = 2 ∨ j = 3 := by have : j < 4 := hj; omega
    rcases hj' with rfl | rfl | rfl | rfl <;> exact .atom _
set_option maxHeartbeats 1000000 in
theorem c81 (tab : Nat → Int) (f : Nat → List UInt8) (hF : Prints tab f) (t : Int) (p : Crd) (w : World) (hT : Tabs tab w) (h0 : 0 ≤ t) (h1 : t ≤ 3) :
    Calls Tryz.prog 81 #[.agg #[.float .f64 p.x, .float .f64 p.y, .float .f64 p.z, .float .f64 p.m], .int .i64 t] w fun e w' => e = .returned (.string ⟨(plcB f t p).toArray⟩) ∧ Below w.heap.size w w' := by
  have hsf := st_float
  have hB0 := bl_a2 w (.cells #[.float .f64 p.x, .float .f64 p.y, .float .f64 p.z, .float .f64 p.m] 117) (.cells #[.float .f64 p.x, .float .f64 p.y, .float .f64 p.z, .float .f64 p.m] 117)
  have hL := Lb.new2 w (.cells #[.float .f64 p.x, .float .f64 p.y, .float .f64 p.z, .float .f64 p.m] 117) #[.float .f64 p.x, .float .f64 p.y, .float .f64 p.z, .float .f64 p.m] 117
  have H82 := Lib.hid (c82 (fun _ => True) t [p] (some ⟨w.heap.size + 1, 0, none⟩) 1 _ h0 h1 (by simp) (fun _ _ => trivial) (rd_one p hL trivial))
  have hpl : plcB f t p = sepB 32 ((numsOf t [p]).map f) := by simp [plcB, numsOf]
  have hnl : (numsOf t [p]).length ≤ 4 := by have := numsOf_len t [p]; have := (dN_bd t).2; simp at *; omega
  generalize numsOf t [p] = ns at *
  have HF := Lib.hid hF.num
  have Hlen : Hid (∀ x, (f x).length ≤ 7100) := Lib.hid hF.len
  have Hpl := Lib.hid hpl; clear hpl hL
  have HB0 := Lib.hid hB0; clear hB0
  have HT := Lib.hid hT; clear hT hF
  go_enter Tryz.func81, Tryz.ntmps81
  go_wp2_with fail
  refine H82.out.mono ?_
  rintro _ w1 ⟨a', c', rfl, hr, hb1⟩
  have HB1 := Lib.hid (HB0.out.trans (hb1.mono (by simp <;> omega)))
  have Hr := Lib.hid hr
  clear hb1 hr
  go_wp2_with fail
  go_loopw [5, 13] (fun s i wr => ∃ j : Nat, ∃ T : List UInt8, j ≤ ns.length ∧ i = .int .i64 j ∧ s = .string ⟨T.toArray⟩ ∧ Hid (T = sepB 32 ((ns.map f).take j)) ∧ T.length ≤ 8000 * j ∧ Rd (fun _ => True) wr (fl ns) (.slice a' ns.length c') ∧ Below w.heap.size w wr) (fun _ i _ => ns.length - (intOf i).toNat)
  case atStart => exact ⟨0, [], Nat.zero_le _, rfl, rfl, Lib.hid rfl, by simp, Hr.out, HB1.out⟩
  case round =>
    clear Hr HB1
    obtain ⟨j, T, hj, rfl, rfl, hX, hTl, hr, hB⟩ := hrel
    by_cases hlt : j < ns.length
    · obtain ⟨a0, c0, e0, hm, hat⟩ := fl_inv hr
      obtain ⟨rfl, _, rfl⟩ := Value.slice.inj e0
      obtain ⟨b, off, rfl, hSb, hbl, q0⟩ := hat j hlt
      have HN := Lib.hid (HF.out ns[j] wr (HT.out.blw hB))
      have hfl := Hlen.out ns[j]
      have hst := sepB_take 32 (ns.map f) j (by simpa using hlt)
      rw [List.getElem_map] at hst
      generalize f ns[j] = F at *
      have Hr := Lib.hid hr; have HB := Lib.hid hB
      clear hr hB hat e0
      by_cases hj0 : j = 0
      · have hd1 : decide ((0 : Int) < (j : Int)) = false := by simp; omega
        have hd2 : decide (0 < j) = false := by simp; omega
        rw [if_pos hj0] at hst
        have Hst := Lib.hid hst
        clear hj0 hst
        go_wp2_with fail
        refine HN.out.mono ?_
        rintro _ w3 ⟨rfl, hb3⟩
        have Hr3 := Lib.hid (Hr.out.blw hb3); have HB3 := Lib.hid (HB.out.trans (hb3.mono HB.out.size))
        clear hb3
        go_wp2_with fail
        go_roundw
        case rel => exact ⟨j + 1, T ++ F, by omega, by go_num, by rw [str_app], Lib.hid (by rw [Hst.out, hX.out]; simp), by simp; omega, Hr3.out, HB3.out⟩
        case measure => simp [intOf]; omega
      · have hd1 : decide ((0 : Int) < (j : Int)) = true := by simp; omega
        have hd2 : decide (0 < j) = true := by simp; omega
        rw [if_neg hj0] at hst
        have Hst := Lib.hid hst
        clear hj0 hst
        go_wp2_with fail
        refine HN.out.mono ?_
        rintro _ w3 ⟨rfl, hb3⟩
        have Hr3 := Lib.hid (Hr.out.blw hb3); have HB3 := Lib.hid (HB.out.trans (hb3.mono HB.out.size))
        clear hb3
        go_wp2_with fail
        go_roundw
        case rel => exact ⟨j + 1, T ++ [32] ++ F, by omega, by go_num, by rw [← str_app, ← str_app], Lib.hid (by rw [Hst.out, hX.out]), by simp; omega, Hr3.out, HB3.out⟩
        case measure => simp [intOf]; omega
    · obtain rfl : j = ns.length := by omega
      have hdl : decide (((ns.length : Nat) : Int) < ns.length) = false := by simp
      have Hr := Lib.hid hr; have HB := Lib.hid hB
      clear hr hB
      go_wp2_with fail
      go_ret
      exact ⟨by rw [Hpl.out, hX.out, List.take_of_length_le (by simp)]; rfl, HB.out⟩
end Go.Proofs.YtahnhhkbdgaidaaGreatDoor
namespace Go.Proofs.YtahnhhkbdgaidaaGreatDoor
open Go.RowKit
set_option maxRecDepth 100000
def sF (l : List UInt8) : List F := [.atom (.string ⟨l.toArray⟩)]
theorem info9 : (Tryz.prog.info? 9).map (fun i => (i.zero, i.size, i.bytes)) = some (some (.string ⟨#[]⟩), 1, 16) := by kernel_rfl
/-- The texts of the places and of the parts. -/
def partsB (f : Nat → List UInt8) (d : Int) (ns : List Nat) (c : Bool) (ks : List G) : List (List UInt8) := (plsOf d ns).map (plcB f d) ++ bodyBL f c ks
theorem str_at {S : Nat → Prop} {w : World} {ls : List (List UInt8)} {v : Value} (h : Rd S w (.list (ls.map sF)) v) : ∃ a c, v = .slice a ls.length c ∧ ls.length ≤ 17592186044416 ∧
    ∀ i (hi : i < ls.length), ∃ b off, a = some ⟨b, off, none⟩ ∧ S b ∧ b < w.heap.size ∧ w.cell? ⟨b, off + i, none⟩ = some (.string ⟨(ls[i]).toArray⟩) := by
  obtain ⟨a, c, rfl, hm, hi⟩ := list_at h 1 (by simp [sF])
  simp only [List.length_map] at *
  refine ⟨a, c, rfl, hm, fun i hlt => ?_⟩
  obtain ⟨b, off, rfl, hS, hb, x, hx⟩ := hi i hlt
  have e : (ls.map sF)[i]'(by simpa using hlt) = [.atom (.string ⟨(ls[i]).toArray⟩)] := by simp [sF]
  obtain ⟨c0, r0⟩ := hx 0 (by rw [e]; simp)
  simp only [e, List.getElem_cons_zero] at r0
  rw [r0.atom_inv] at c0
  exact ⟨b, off, rfl, hS, hb, by simpa using c0⟩
/-- A text as a call answers it. -/
def TextR (w : World) (l : List UInt8) : Ending → World → Prop := fun e w' => e = .returned (.string ⟨l.toArray⟩) ∧ Below w.heap.size w w'
set_option maxHeartbeats 2000000 in
theorem c12 (f : Nat → List UInt8) (k d : Int) (an ak : Option Addr) (ln cn lk ck : Nat) (body : List UInt8) (w : World) (d0 : 0 ≤ d) (d1 : d ≤ 3) (hlen : body.length ≤ 1000000000000)
    (H : ∀ w', Below w.heap.size w w' → Calls Tryz.prog 29 #[.agg #[.int .i64 k, .int .i64 d, .slice an ln cn, .slice ak lk ck]] w' (TextR w' body)) :
    Calls Tryz.prog 12 #[.agg #[.int .i64 k, .int .i64 d, .slice an ln cn, .slice ak lk ck]] w (TextR w (headB k d body)) := by
  have HB0 := Lib.hid (bl_a1 w (.cells #[.int .i64 k, .int .i64 d, .slice an ln cn, .slice ak lk ck] 25))
  have L0 := Lb.new w #[.int .i64 k, .int .i64 d, .slice an ln cn, .slice ak lk ck] 25
  have HL0 := Lib.hid L0
  have H29 := Lib.hid (H _ HB0.out)
  have H27 := Lib.hid (c27 k); have H28 := Lib.hid (c28 d)
  have hkl := kindName_len k; have hdl := dimName_len d
  have hE : Hid (headB k d body = kindName k ++ (if d ≠ 0 then [32] ++ dimName d else []) ++ (if d ≠ 0 ∨ body = emptyW then [32] else []) ++ body) := Lib.hid rfl
  unfold str at H27 H28
  generalize kindName k = kn at *
  generalize dimName d = dn at *
  generalize headB k d body = out at *
  clear L0 H
  by_cases hd : d = 0
  · have hdb : (d != 0) = false := by simp [hd]
    by_cases hb : body = emptyW
    · have hbb : (body == [69, 77, 80, 84, 89]) = true := by rw [hb]; rfl
      have HE : Hid (out = kn ++ [32] ++ body) := Lib.hid (by rw [hE.out]; simp [hd, hb])
      clear hd hE hb
      go_enter Tryz.func12, Tryz.ntmps12
      go_wp2_with (first | (go_at_call 27; refine (H27.out _).mono ?_; rintro e w' ⟨rfl, rfl⟩) | (go_at_call 28; refine (H28.out _).mono ?_; rintro e w' ⟨rfl, rfl⟩))
      refine H29.out.mono ?_
      rintro _ w1 ⟨rfl, hb1⟩
      obtain ⟨kb, _, _⟩ := (HL0.out.blw hb1).use
      have HB1 := Lib.hid (HB0.out.trans (hb1.mono (by simp)))
      clear hb1
      go_wp2_with fail
      go_ret
      exact ⟨by rw [HE.out, ← str_app, ← str_app]; rfl, HB1.out⟩
    · have hbb : (body == [69, 77, 80, 84, 89]) = false := by rw [beq_eq_false_iff_ne]; exact hb
      have HE : Hid (out = kn ++ body) := Lib.hid (by rw [hE.out]; simp [hd, hb])
      clear hd hE hb
      go_enter Tryz.func12, Tryz.ntmps12
      go_wp2_with (first | (go_at_call 27; refine (H27.out _).mono ?_; rintro e w' ⟨rfl, rfl⟩) | (go_at_call 28; refine (H28.out _).mono ?_; rintro e w' ⟨rfl, rfl⟩))
      refine H29.out.mono ?_
      rintro _ w1 ⟨rfl, hb1⟩
      obtain ⟨kb, _, _⟩ := (HL0.out.blw hb1).use
      have HB1 := Lib.hid (HB0.out.trans (hb1.mono (by simp)))
      clear hb1
      go_wp2_with fail
      go_ret
      exact ⟨by rw [HE.out, ← str_app]; rfl, HB1.out⟩
  · have hdb : (d != 0) = true := by simp [hd]
    have HE : Hid (out = kn ++ ([32] ++ dn) ++ [32] ++ body) := Lib.hid (by rw [hE.out, if_pos hd, if_pos (.inl hd)])
    clear hd hE
    go_enter Tryz.func12, Tryz.ntmps12
    go_wp2_with (first | (go_at_call 27; refine (H27.out _).mono ?_; rintro e w' ⟨rfl, rfl⟩) | (go_at_call 28; refine (H28.out _).mono ?_; rintro e w' ⟨rfl, rfl⟩))
    refine H29.out.mono ?_
    rintro _ w1 ⟨rfl, hb1⟩
    obtain ⟨kb, _, _⟩ := (HL0.out.blw hb1).use
    have HB1 := Lib.hid (HB0.out.trans (hb1.mono (by simp)))
    clear hb1
    go_wp2_with fail
    go_ret
    exact ⟨by rw [HE.out, ← str_app, ← str_app, ← str_app, ← str_app]; rfl, HB1.out⟩
/-- The bracketed text as it grows. -/
theorem wrap_open (ps : List (List UInt8)) (h : ps.length ≠ 0) : wrapB ps = [40] ++ sepB 44 ps ++ [41] := by unfold wrapB; rw [if_neg h]
set_option maxHeartbeats 4000000 in
theorem c29 (tab : Nat → Int) (f : Nat → List UInt8) (hF : Prints tab f) (S : Nat → Prop) (k d : Int) (ns : List Nat) (ks : List G) (an ak : Option Addr) (cn ck : Nat) (w : World) (hT : Tabs tab w) (d0 : 0 ≤ d) (d1 : d ≤ 3) (hnl : ns.length ≤ 1000000) (hkl : ks.length ≤ 1000000)
    (hlen : (wrapB (partsB f d ns (k == 0) ks)).length ≤ 1000000000000)
    (IH : ∀ (j : Nat) (hj : j < ks.length) (vn vk : Value) (w' : World), Below w.heap.size w w' → Rd (fun _ => True) w' (fl (ks[j]).nums) vn → Rd (fun _ => True) w' (.list (G.fsL (ks[j]).kids)) vk → Calls Tryz.prog 29 #[.agg #[.int .i64 (ks[j]).kind, .int .i64 (ks[j]).dim, vn, vk]] w' (TextR w' (bodyB f ks[j])))
    (hkd : ∀ g ∈ ks, 0 ≤ g.dim ∧ g.dim ≤ 3)
    (hn : Rd S w (fl ns) (.slice an ns.length cn)) (hk : Rd S w (.list (G.fsL ks)) (.slice ak ks.length ck)) :
    Calls Tryz.prog 29 #[.agg #[.int .i64 k, .int .i64 d, .slice an ns.length cn, .slice ak ks.length ck]] w (TextR w (wrapB (partsB f d ns (k == 0) ks))) := by
  have HB0 := Lib.hid (bl_a1 w (.cells #[.int .i64 k, .int .i64 d, .slice an ns.length cn, .slice ak ks.length ck] 25))
  have HL0 := Lib.hid (Lb.new w #[.int .i64 k, .int .i64 d, .slice an ns.length cn, .slice ak ks.length ck] 25)
  have Hk := Lib.hid (hk.old.alloc (.cells #[.int .i64 k, .int .i64 d, .slice an ns.length cn, .slice ak ks.length ck] 25))
  have H80 := Lib.hid (c80 (fun _ => True) d ns an cn (w.alloc (.cells #[.int .i64 k, .int .i64 d, .slice an ns.length cn, .slice ak ks.length ck] 25)) d0 d1 hnl (fun _ _ => trivial) ((hn.mono fun _ _ _ => trivial).alloc _))
  have hpl := plsOf_len d ns
  have hplm := Nat.div_le_self ns.length (dN d)
  have hall : (partsB f d ns (k == 0) ks).length = (plsOf d ns).length + ks.length := by unfold partsB; rw [bodyBL_map]; simp
  have hal1 : ∀ j (hj : j < (plsOf d ns).length) (hj' : j < (partsB f d ns (k == 0) ks).length), (partsB f d ns (k == 0) ks)[j] = plcB f d (plsOf d ns)[j] := fun j hj hj' => by
    rw [List.getElem_of_eq (show partsB f d ns (k == 0) ks = (plsOf d ns).map (plcB f d) ++ bodyBL f (k == 0) ks from rfl) hj', List.getElem_append_left (by simpa using hj)]; simp
  have hal2 : ∀ i (hi : i < ks.length) (h' : (plsOf d ns).length + i < (partsB f d ns (k == 0) ks).length), (partsB f d ns (k == 0) ks)[(plsOf d ns).length + i] = if (k == 0) = true then wktB f ks[i] else bodyB f ks[i] := fun i hi h' => by
    rw [List.getElem_of_eq (show partsB f d ns (k == 0) ks = (plsOf d ns).map (plcB f d) ++ bodyBL f (k == 0) ks from rfl) h', List.getElem_append_right (by simp)]; simp [bodyBL_map]
  generalize plsOf d ns = ps at *
  generalize partsB f d ns (k == 0) ks = al at *
  have hal : al.length ≤ 2000000 := by omega
  have hpl1 : ps.length ≤ 1000000 := by omega
  have HSl : Hid (al.length ≠ 0 → ∀ j (h : j < al.length), (Sep [] al j).length + 1 + al[j].length ≤ 1000000000000) := Lib.hid fun h0 j hj => by have := Sep_len2 [] al j hj; simp at this; simp; omega
  have HSa : Hid (al.length ≠ 0 → ∀ j, (Sep [] al j).length + 1 ≤ 1000000000000) := Lib.hid fun h0 j => by have := Sep_len [] al j h0; simp at this; omega
  have H81 : Hid (∀ (j : Nat) (hj : j < ps.length) (hja : j < al.length) (w' : World), Below w.heap.size w w' → Calls Tryz.prog 81 #[.agg #[.float .f64 (ps[j]).x, .float .f64 (ps[j]).y, .float .f64 (ps[j]).z, .float .f64 (ps[j]).m], .int .i64 d] w' fun e w'' => e = .returned (.string ⟨(al[j]).toArray⟩) ∧ Below w'.heap.size w' w'') := Lib.hid fun j hj hja w' hb => by
    rw [hal1 j hj hja]; exact c81 tab f hF d ps[j] w' (hT.blw hb) d0 d1
  have HIH : Hid (∀ (j : Nat) (hj : j < ks.length) (hja : ps.length + j < al.length) (a1 a2 : Option Addr) (c1 c2 : Nat) (w' : World), Below w.heap.size w w' → Rd (fun _ => True) w' (fl (ks[j]).nums) (.slice a1 (ks[j]).nums.length c1) → Rd (fun _ => True) w' (.list (G.fsL (ks[j]).kids)) (.slice a2 (ks[j]).kids.length c2) →
      Calls Tryz.prog (if (k == 0) = true then 12 else 29) #[.agg #[.int .i64 (ks[j]).kind, .int .i64 (ks[j]).dim, .slice a1 (ks[j]).nums.length c1, .slice a2 (ks[j]).kids.length c2]] w' (TextR w' (al[ps.length + j]))) := Lib.hid fun j hj hja a1 a2 c1 c2 w' hb hn hk => by
    have h2 := hal2 j hj hja
    have h3 := HSl.out (by omega) (ps.length + j) hja
    by_cases hk0 : (k == 0) = true
    · simp only [hk0, if_true] at h2 ⊢
      rw [h2] at h3 ⊢
      have hbl : (bodyB f ks[j]).length ≤ 1000000000000 := by
        have : (wktB f ks[j]).length = (kindName (ks[j]).kind ++ (if (ks[j]).dim ≠ 0 then [32] ++ dimName (ks[j]).dim else []) ++ (if (ks[j]).dim ≠ 0 ∨ bodyB f ks[j] = emptyW then [32] else [])).length + (bodyB f ks[j]).length := by unfold wktB headB; rw [List.length_append]
        omega
      have hd := hkd ks[j] (List.getElem_mem hj)
      exact c12 f (ks[j]).kind (ks[j]).dim a1 a2 _ c1 _ c2 (bodyB f ks[j]) w' hd.1 hd.2 hbl (fun w2 h2 => IH j hj _ _ w2 (hb.trans (h2.mono hb.size)) (hn.blw h2) (hk.blw h2))
    · simp only [hk0] at h2 ⊢
      rw [if_neg (by simp)] at h2 ⊢
      rw [h2]
      exact IH j hj _ _ w' hb hn hk
  clear hn hk hal1 hal2 IH hkd hT hF hplm hpl hlen
  have hsf := st_float
  go_enter Tryz.func29, Tryz.ntmps29
  go_wp2_with fail
  refine H80.out.mono ?_
  rintro _ w1 ⟨ap, cp, rfl, hp, hb1⟩
  have hsz1 : w.heap.size + 1 ≤ w1.heap.size := by have := hb1.size; simp at this; omega
  have HL1 := Lib.hid (HL0.out.blw hb1)
  have HB1 := Lib.hid (HB0.out.trans (hb1.mono (by simp)))
  have Hk1 := Lib.hid (Hk.out.blw hb1)
  have Hp1 := Lib.hid hp.old
  clear hb1 hp HL0 HB0 Hk H80
  go_wp2_with fail
  go_loopw [3, 17] (fun v i wr => ∃ j : Nat, j ≤ ps.length ∧ i = .int .i64 j ∧ Row (fun _ => True) w1.heap.size wr 9 1 v ((al.take j).map sF) ∧ w1.heap.size ≤ wr.heap.size ∧ Lb wr w.heap.size #[.int .i64 k, .int .i64 d, .slice an ns.length cn, .slice ak ks.length ck] 25 ∧
      Rd (Old (fun _ => True) w1.heap.size) wr (.list (ps.map plF)) (.slice ap ps.length cp) ∧ Rd (Old S w.heap.size) wr (.list (G.fsL ks)) (.slice ak ks.length ck) ∧ Below w.heap.size w wr) (fun _ i _ => ps.length - (intOf i).toNat)
  case atStart => exact ⟨0, Nat.zero_le _, rfl, Row.nil _ _ _ _ _, Nat.le_refl _, HL1.out, Hp1.out, Hk1.out, HB1.out⟩
  case round =>
  clear HL1 Hp1 Hk1 HB1
  obtain ⟨j, hj, rfl, hR, hw1, hL, hp, hk, hB⟩ := hrel
  obtain ⟨av, cv, hv⟩ := hR.shape
  rw [List.length_map, List.length_take, Nat.min_eq_left (by omega)] at hv
  subst hv
  by_cases hlt : j < ps.length
  · obtain ⟨a0, c0, e0, hm, hat⟩ := pl_at hp
    obtain ⟨rfl, _, rfl⟩ := Value.slice.inj e0
    obtain ⟨b, off, rfl, hSb, hbl, q0, q1, q2, q3⟩ := hat j hlt
    have hja : j < al.length := by omega
    obtain ⟨kb, _, _⟩ := hL.use
    have HbA := Lib.hid (bl_a1 wr (.cells #[.float .f64 (ps[j]).x, .float .f64 (ps[j]).y, .float .f64 (ps[j]).z, .float .f64 (ps[j]).m] 117))
    have H8 := Lib.hid (H81.out j hlt hja (wr.alloc (.cells #[.float .f64 (ps[j]).x, .float .f64 (ps[j]).y, .float .f64 (ps[j]).z, .float .f64 (ps[j]).m] 117)) (hB.trans (HbA.out.mono hB.size)))
    have HR := Lib.hid hR; have HL := Lib.hid hL; have Hp := Lib.hid hp; have Hk := Lib.hid hk; have HB := Lib.hid hB
    clear hR hL hp hk hB hat e0
    go_wp2_with fail
    refine H8.out.mono ?_
    rintro _ w3 ⟨rfl, hb3⟩
    have hbb := HbA.out.trans (hb3.mono HbA.out.size)
    obtain ⟨v2, w4, hap, ⟨a3, c3, rfl⟩, hR4, hg⟩ := app_one (P := Tryz.prog) 113 9 1 16 _ Tryz.underlying113 info9 rfl (by omega) (by omega) (HR.out.step hbb) (sF (al[j]'hja)) rfl #[.string ⟨(al[j]'hja).toArray⟩] rfl (by simp [Value.oneCell']) (by
      intro jj hjj
      obtain rfl : jj = 0 := by have : jj < 1 := hjj; omega
      exact ⟨_, rfl, .atom _⟩) (by rw [List.length_map, List.length_take]; omega) (by have := hbb.size; omega)
    rw [List.length_map, List.length_take, Nat.min_eq_left (by omega)] at hap
    have hown : ∀ qq, (Value.slice av j cv).ownBlock = some qq → w1.heap.size ≤ qq := fun qq hq => ((HR.out.step hbb).lt qq hq).1
    have HL4 := Lib.hid ((HL.out.blw hbb).grown hg (fun e => by have := hown _ e.symm; omega))
    have HB4 := Lib.hid ((HB.out.trans (hbb.mono (by omega))).grown hg (by have := hbb.size; omega) (fun qq hq => by have := hown qq hq; omega))
    have Hk4 := Lib.hid ((Hk.out.blw hbb).grown hg (fun qq hq e => by have := hown _ e.symm; have := hq.2; omega))
    have hsz4 : w1.heap.size ≤ w4.heap.size := by have := hbb.size; have := hg.size; omega
    have HR4 : Hid (Row (fun _ => True) w1.heap.size w4 9 1 (.slice a3 (j + 1) c3) ((al.take (j + 1)).map sF)) := Lib.hid (by
      rw [take_map_succ al sF (j) hja]
      rw [List.length_map, List.length_take, Nat.min_eq_left (by omega)] at hR4
      exact hR4)
    have Hp4 := Lib.hid ((Hp.out.blw hbb).grown hg (fun qq hq e => by have := hown _ e.symm; have := hq.2; omega))
    have Hap := Lib.hid hap
    clear hap hg hown hR4 hbb hb3 q0 q1 q2 q3 kb
    generalize al[j] = T at *
    go_wp2_with (at_builtin; refine wpList_append_eq rfl _ _ 113 rfl rfl rfl rfl Hap.out ?_)
    go_roundw
    case rel => exact ⟨j + 1, by omega, by go_num, HR4.out, hsz4, HL4.out, Hp4.out, Hk4.out, HB4.out⟩
    case measure => simp [intOf]; omega
  · obtain rfl : j = ps.length := by omega
    have hdl : decide (((ps.length : Nat) : Int) < ps.length) = false := by simp
    obtain ⟨kb, _, _⟩ := hL.use
    have HR := Lib.hid hR; have HL := Lib.hid hL; have Hk := Lib.hid hk; have HB := Lib.hid hB
    have hw1' := hw1
    clear hR hL hp hk hB
    go_wp2_with fail
    go_loopw [3, 32] (fun v i wr => ∃ j : Nat, j ≤ ks.length ∧ i = .int .i64 j ∧ Row (fun _ => True) w1.heap.size wr 9 1 v ((al.take (ps.length + j)).map sF) ∧ w1.heap.size ≤ wr.heap.size ∧ Lb wr w.heap.size #[.int .i64 k, .int .i64 d, .slice an ns.length cn, .slice ak ks.length ck] 25 ∧
        Rd (Old S w.heap.size) wr (.list (G.fsL ks)) (.slice ak ks.length ck) ∧ Below w.heap.size w wr) (fun _ i _ => ks.length - (intOf i).toNat)
    case atStart => exact ⟨0, Nat.zero_le _, rfl, HR.out, hw1', HL.out, Hk.out, HB.out⟩
    case round =>
    clear HR HL Hk HB hdl kb hw1 hw1'
    obtain ⟨j, hj, rfl, hR, hw1, hL, hk, hB⟩ := hrel
    obtain ⟨av, cv, hv⟩ := hR.shape
    rw [List.length_map, List.length_take, Nat.min_eq_left (by omega)] at hv
    subst hv
    by_cases hlt : j < ks.length
    · obtain ⟨a0, c0, e0, hm, hat⟩ := kids_inv hk
      obtain ⟨rfl, _, rfl⟩ := Value.slice.inj e0
      obtain ⟨b, off, vn0, vk0, rfl, hSb, hbl, q0, q1, q2, q3, r2, r3⟩ := hat j hlt
      obtain ⟨an0, cn0, rfl⟩ := fl_shape r2
      obtain ⟨ak0, ck0, rfl⟩ := kids_shape r3
      have hja : ps.length + j < al.length := by omega
      obtain ⟨kb, _, _⟩ := hL.use
      have HbA := Lib.hid (bl_a1 wr (.cells #[.int .i64 (ks[j]).kind, .int .i64 (ks[j]).dim, .slice an0 (ks[j]).nums.length cn0, .slice ak0 (ks[j]).kids.length ck0] 25))
      have H12 := Lib.hid (HIH.out j hlt hja an0 ak0 cn0 ck0 (wr.alloc (.cells #[.int .i64 (ks[j]).kind, .int .i64 (ks[j]).dim, .slice an0 (ks[j]).nums.length cn0, .slice ak0 (ks[j]).kids.length ck0] 25)) (hB.trans (HbA.out.mono hB.size)) ((r2.mono fun _ _ _ => trivial).alloc _) ((r3.mono fun _ _ _ => trivial).alloc _))
      have HR := Lib.hid hR; have HL := Lib.hid hL; have Hk := Lib.hid hk; have HB := Lib.hid hB
      clear hR hL hk hB hat e0 r2 r3
      by_cases hk0 : (k == 0) = true
      · rw [if_pos hk0] at H12
        go_wp2_with fail
        refine H12.out.mono ?_
        rintro _ w3 ⟨rfl, hb3⟩
        have hbb := HbA.out.trans (hb3.mono HbA.out.size)
        obtain ⟨v2, w4, hap, ⟨a3, c3, rfl⟩, hR4, hg⟩ := app_one (P := Tryz.prog) 113 9 1 16 _ Tryz.underlying113 info9 rfl (by omega) (by omega) (HR.out.step hbb) (sF (al[ps.length + j]'hja)) rfl #[.string ⟨(al[ps.length + j]'hja).toArray⟩] rfl (by simp [Value.oneCell']) (by
          intro jj hjj
          obtain rfl : jj = 0 := by have : jj < 1 := hjj; omega
          exact ⟨_, rfl, .atom _⟩) (by rw [List.length_map, List.length_take]; omega) (by have := hbb.size; omega)
        rw [List.length_map, List.length_take, Nat.min_eq_left (by omega)] at hap
        have hown : ∀ qq, (Value.slice av (ps.length + j) cv).ownBlock = some qq → w1.heap.size ≤ qq := fun qq hq => ((HR.out.step hbb).lt qq hq).1
        have HB4 := Lib.hid ((HB.out.trans (hbb.mono (by omega))).grown hg (by have := hbb.size; omega) (fun qq hq => by have := hown qq hq; omega))
        have HL4 := Lib.hid ((HL.out.blw hbb).grown hg (fun e => by have := hown _ e.symm; omega))
        have Hk4 := Lib.hid ((Hk.out.blw hbb).grown hg (fun qq hq e => by have := hown _ e.symm; have := hq.2; omega))
        have hsz4 : w1.heap.size ≤ w4.heap.size := by have := hbb.size; have := hg.size; omega
        have HR4 : Hid (Row (fun _ => True) w1.heap.size w4 9 1 (.slice a3 (ps.length + j + 1) c3) ((al.take (ps.length + j + 1)).map sF)) := Lib.hid (by
          rw [take_map_succ al sF (ps.length + j) hja]
          rw [List.length_map, List.length_take, Nat.min_eq_left (by omega)] at hR4
          exact hR4)
        have Hap := Lib.hid hap
        clear hap hg hown hR4 hbb hb3 q0 q1 q2 q3 kb HIH
        generalize al[ps.length + j] = T at *
        go_wp2_with (at_builtin; refine wpList_append_eq rfl _ _ 113 rfl rfl rfl rfl Hap.out ?_)
        go_roundw
        case rel => exact ⟨j + 1, by omega, by go_num, HR4.out, hsz4, HL4.out, Hk4.out, HB4.out⟩
        case measure => simp [intOf]; omega
      · have hk1 : (k == 0) = false := by simpa using hk0
        rw [if_neg hk0] at H12
        clear hk0
        go_wp2_with fail
        refine H12.out.mono ?_
        rintro _ w3 ⟨rfl, hb3⟩
        have hbb := HbA.out.trans (hb3.mono HbA.out.size)
        obtain ⟨v2, w4, hap, ⟨a3, c3, rfl⟩, hR4, hg⟩ := app_one (P := Tryz.prog) 113 9 1 16 _ Tryz.underlying113 info9 rfl (by omega) (by omega) (HR.out.step hbb) (sF (al[ps.length + j]'hja)) rfl #[.string ⟨(al[ps.length + j]'hja).toArray⟩] rfl (by simp [Value.oneCell']) (by
          intro jj hjj
          obtain rfl : jj = 0 := by have : jj < 1 := hjj; omega
          exact ⟨_, rfl, .atom _⟩) (by rw [List.length_map, List.length_take]; omega) (by have := hbb.size; omega)
        rw [List.length_map, List.length_take, Nat.min_eq_left (by omega)] at hap
        have hown : ∀ qq, (Value.slice av (ps.length + j) cv).ownBlock = some qq → w1.heap.size ≤ qq := fun qq hq => ((HR.out.step hbb).lt qq hq).1
        have HB4 := Lib.hid ((HB.out.trans (hbb.mono (by omega))).grown hg (by have := hbb.size; omega) (fun qq hq => by have := hown qq hq; omega))
        have HL4 := Lib.hid ((HL.out.blw hbb).grown hg (fun e => by have := hown _ e.symm; omega))
        have Hk4 := Lib.hid ((Hk.out.blw hbb).grown hg (fun qq hq e => by have := hown _ e.symm; have := hq.2; omega))
        have hsz4 : w1.heap.size ≤ w4.heap.size := by have := hbb.size; have := hg.size; omega
        have HR4 : Hid (Row (fun _ => True) w1.heap.size w4 9 1 (.slice a3 (ps.length + j + 1) c3) ((al.take (ps.length + j + 1)).map sF)) := Lib.hid (by
          rw [take_map_succ al sF (ps.length + j) hja]
          rw [List.length_map, List.length_take, Nat.min_eq_left (by omega)] at hR4
          exact hR4)
        have Hap := Lib.hid hap
        clear hap hg hown hR4 hbb hb3 q0 q1 q2 q3 kb HIH
        generalize al[ps.length + j] = T at *
        go_wp2_with (at_builtin; refine wpList_append_eq rfl _ _ 113 rfl rfl rfl rfl Hap.out ?_)
        go_roundw
        case rel => exact ⟨j + 1, by omega, by go_num, HR4.out, hsz4, HL4.out, Hk4.out, HB4.out⟩
        case measure => simp [intOf]; omega
    · obtain rfl : j = ks.length := by omega
      have hdl : decide (((ks.length : Nat) : Int) < ks.length) = false := by simp
      rw [← hall, List.take_length] at hR
      have hrd := hR.rd (by omega) (fun _ _ => trivial) (by rw [List.length_map]; omega)
      rw [show ps.length + ks.length = al.length from hall.symm]
      obtain ⟨kb, _, _⟩ := hL.use
      have Hr := Lib.hid hrd; have HB := Lib.hid hB
      clear hR hrd hL hk hB HIH H81
      by_cases hz : al.length = 0
      · have hzb : ((al.length : Int) == 0) = true := by rw [hz]; rfl
        have HE : Hid (wrapB al = emptyW) := Lib.hid ((wrap_eq al).2 hz)
        clear hz
        go_wp2_with fail
        go_ret
        exact ⟨by rw [HE.out]; rfl, HB.out⟩
      · have hzb : ((al.length : Int) == 0) = false := by rw [beq_eq_false_iff_ne]; omega
        have HE : Hid (wrapB al = [40] ++ sepB 44 al ++ [41]) := Lib.hid (wrap_open al hz)
        have HSl2 := Lib.hid (HSl.out hz); have HSa2 := Lib.hid (HSa.out hz)
        generalize wrapB al = out at *
        clear hz
        go_wp2_with fail
        go_loopw [8, 55] (fun s i wr2 => ∃ j : Nat, ∃ T : List UInt8, j ≤ al.length ∧ i = .int .i64 j ∧ s = .string ⟨T.toArray⟩ ∧ Hid (T = Sep [] al j) ∧ Rd (fun _ => True) wr2 (.list (al.map sF)) (.slice av al.length cv) ∧ Below w.heap.size w wr2) (fun _ i _ => al.length - (intOf i).toNat)
        case atStart => exact ⟨0, [40], Nat.zero_le _, rfl, rfl, Lib.hid (by rw [Sep_zero]; rfl), Hr.out, HB.out⟩
        case round =>
        clear Hr HB kb hw1
        obtain ⟨j, T, hj, rfl, rfl, hT, hr, hB⟩ := hrel
        have hTl : T.length ≤ 1000000000000 := by have := HSa2.out j; rw [hT.out]; omega
        by_cases hlt : j < al.length
        · obtain ⟨a0, c0, e0, hm, hat⟩ := str_at hr
          obtain ⟨rfl, _, rfl⟩ := Value.slice.inj e0
          obtain ⟨b, off, rfl, hSb, hbl, q0⟩ := hat j hlt
          have hel : (al[j]).length ≤ 1000000000000 := by have := HSl2.out j hlt; omega
          have Hst0 : Hid (j = 0 → Sep [] al (j + 1) = Sep [] al j ++ al[j]) := Lib.hid fun h => by subst h; rw [Sep_one [] al hlt, Sep_zero]
          have Hst1 : Hid (0 < j → Sep [] al (j + 1) = Sep [] al j ++ [44] ++ al[j]) := Lib.hid fun h => Sep_step [] al j hlt h
          generalize al[j] = F at *
          have Hr := Lib.hid hr; have HB := Lib.hid hB
          clear hr hB hat e0
          by_cases hj0 : j = 0
          · have hd1 : decide ((0 : Int) < (j : Int)) = false := by simp; omega
            have hd2 : decide (0 < j) = false := by simp; omega
            have Hst := Lib.hid (Hst0.out hj0)
            clear hj0 Hst0 Hst1
            go_wp2_with fail
            go_roundw
            case rel => exact ⟨j + 1, T ++ F, by omega, by go_num, by rw [str_app], Lib.hid (by rw [Hst.out, hT.out]), Hr.out, HB.out⟩
            case measure => simp [intOf]; omega
          · have hd1 : decide ((0 : Int) < (j : Int)) = true := by simp; omega
            have hd2 : decide (0 < j) = true := by simp; omega
            have Hst := Lib.hid (Hst1.out (by omega))
            clear hj0 Hst0 Hst1
            go_wp2_with fail
            go_roundw
            case rel => exact ⟨j + 1, T ++ [44] ++ F, by omega, by go_num, by rw [← str_app, ← str_app], Lib.hid (by rw [Hst.out, hT.out]), Hr.out, HB.out⟩
            case measure => simp [intOf]; omega
        · obtain rfl : j = al.length := by omega
          have hdl : decide (((al.length : Nat) : Int) < al.length) = false := by simp
          have HE2 : Hid (out = T ++ [41]) := Lib.hid (by rw [HE.out, hT.out]; unfold Sep; rw [List.take_length]; rfl)
          have HB := Lib.hid hB
          clear hr hB
          go_wp2_with fail
          go_ret
          exact ⟨by rw [HE2.out, ← str_app]; rfl, HB.out⟩
/-- The reference's text of a good geometry. -/
theorem c29_all (tab : Nat → Int) (f : Nat → List UInt8) (hF : Prints tab f) : ∀ (m : Nat) (g : G) (S : Nat → Prop) (vn vk : Value) (w : World), g.size ≤ m → Tabs tab w → g.fine → (bodyB f g).length ≤ 1000000000000 → Rd S w (fl g.nums) vn → Rd S w (.list (G.fsL g.kids)) vk →
    Calls Tryz.prog 29 #[.agg #[.int .i64 g.kind, .int .i64 g.dim, vn, vk]] w (TextR w (bodyB f g)) := by
  intro m
  induction m with
  | zero => intro g _ _ _ _ h; have := G.size_eq g; omega
  | succ m ih =>
  intro g S vn vk w hm hT hfine hlen hn hk
  obtain ⟨k, d, ns, ks⟩ := g
  simp only [G.kind, G.dim, G.nums, G.kids] at hn hk ⊢
  simp only [G.size] at hm
  simp only [G.fine] at hfine
  obtain ⟨d0, d1, hnl, hkl, hfl⟩ := hfine
  obtain ⟨an, cn, rfl⟩ := fl_shape hn
  obtain ⟨ak, ck, rfl⟩ := kids_shape hk
  simp only [bodyB] at hlen ⊢
  refine c29 tab f hF S k d ns ks an ak cn ck w hT d0 d1 hnl hkl hlen (fun j hj vn vk w' hb hn hk => ?_) (fun g hg => ?_) hn hk
  · refine ih ks[j] (fun _ => True) vn vk w' (by have := G.size_kid ks j hj; omega) (hT.blw hb) (G.fineL_mem hfl _ (List.getElem_mem hj)) ?_ hn hk
    have h1 : (plsOf d ns).length + j < (partsB f d ns (k == 0) ks).length := by unfold partsB; rw [bodyBL_map]; simp; omega
    have h2 := Sep_len2 [] (partsB f d ns (k == 0) ks) ((plsOf d ns).length + j) h1
    have h3 : (partsB f d ns (k == 0) ks)[(plsOf d ns).length + j] = if (k == 0) = true then wktB f ks[j] else bodyB f ks[j] := by
      rw [List.getElem_of_eq (show partsB f d ns (k == 0) ks = (plsOf d ns).map (plcB f d) ++ bodyBL f (k == 0) ks from rfl) h1, List.getElem_append_right (by simp)]; simp [bodyBL_map]
    rw [h3] at h2
    have h4 : (bodyB f ks[j]).length ≤ (if (k == 0) = true then wktB f ks[j] else bodyB f ks[j]).length := by
      split
      · unfold wktB headB; rw [List.length_append]; omega
      · exact Nat.le_refl _
    simp only [partsB] at h2
    simp only [List.length_nil] at h2
    omega
  · have := G.fineL_mem hfl g hg
    cases g; simp only [G.fine] at this; exact ⟨this.1, this.2.1⟩
/-- The reference's text. -/
theorem c12_all (tab : Nat → Int) (f : Nat → List UInt8) (hF : Prints tab f) (g : G) (S : Nat → Prop) (vn vk : Value) (w : World) (hT : Tabs tab w) (hfine : g.fine) (hlen : (wktB f g).length ≤ 1000000000000) (hn : Rd S w (fl g.nums) vn) (hk : Rd S w (.list (G.fsL g.kids)) vk) :
    Calls Tryz.prog 12 #[.agg #[.int .i64 g.kind, .int .i64 g.dim, vn, vk]] w (TextR w (wktB f g)) := by
  obtain ⟨an, cn, rfl⟩ := fl_shape hn
  obtain ⟨ak, ck, rfl⟩ := kids_shape hk
  have hd : 0 ≤ g.dim ∧ g.dim ≤ 3 := by cases g; simp only [G.fine] at hfine; exact ⟨hfine.1, hfine.2.1⟩
  have hbl : (bodyB f g).length ≤ 1000000000000 := by
    have : (wktB f g).length = (kindName g.kind ++ (if g.dim ≠ 0 then [32] ++ dimName g.dim else []) ++ (if g.dim ≠ 0 ∨ bodyB f g = emptyW then [32] else [])).length + (bodyB f g).length := by unfold wktB headB; rw [List.length_append]
    omega
  exact c12 f g.kind g.dim an ak _ cn _ ck (bodyB f g) w hd.1 hd.2 hbl (fun w' hb => c29_all tab f hF g.size g S _ _ w' (Nat.le_refl _) (hT.blw hb) hfine hbl (hn.blw hb) (hk.blw hb))
end Go.Proofs.YtahnhhkbdgaidaaGreatDoor
