/-
  Numbers in decimal: the tables; a float's shortest decimal.
-/
import Derived.Test.YtahnhhkbdgaidaaGreatDoorBz
import Derived.Lib.SmallJoins
namespace Go.Proofs.YtahnhhkbdgaidaaGreatDoor
open Go.RowKit
set_option maxRecDepth 100000
/-- The two tables as they lie in memory: pairs of words; powers of ten. -/
structure Tabs (tab : Nat → Int) (w : World) : Prop where
  big : ∀ i, i < 1392 → w.cell? ⟨6, i, none⟩ = some (.int .u64 (tab i))
  bd : ∀ i, i < 1392 → 0 ≤ tab i ∧ tab i < 18446744073709551616
  pw : Lib.TabIs Tryz.prog w "internal/strconv.uint64pow10" .u64 Lib.pow10Tab
  lt : 6 < w.heap.size
theorem pow_named : Tryz.prog.globalNamed "internal/strconv.uint64pow10" = some 5 := by kernel_rfl
theorem Tabs.blw {tab : Nat → Int} {w w' : World} (h : Tabs tab w) (hb : Below w.heap.size w w') : Tabs tab w' :=
  ⟨fun i hi => (hb.cell (p := ⟨6, i, none⟩) h.lt).trans (h.big i hi), h.bd, Joins.tab_stays pow_named h.pw hb (Nat.le_refl _), Nat.lt_of_lt_of_le h.lt hb.size⟩
theorem c341 (tab : Nat → Int) (x p lp : Int) (b : Nat) (u0 u1 u2 : Value) (w : World) (hT : Tabs tab w) (hb : Lb w b #[u0, u1, u2] 402) (h6 : 6 < b) (p0 : -348 ≤ p) (p1 : p < 348)
    (x0 : -1000000 ≤ x) (x1 : x ≤ 1000000) (l0 : -1000000 ≤ lp) (l1 : lp ≤ 1000000) :
    Calls Tryz.prog 341 #[.pointer (some ⟨b, 0, none⟩), .int .i64 x, .int .i64 p, .int .i64 lp] w fun e w' => e = .returned (.tuple #[]) ∧
      Lb w' b #[.int .u64 (tab ((p + 348).toNat * 2)), .int .u64 (tab ((p + 348).toNat * 2 + 1)), .int .i64 (-(x + lp + 3))] 402 ∧
      w' = ((w.setCell ⟨b, 0, none⟩ (.int .u64 (tab ((p + 348).toNat * 2)))).setCell ⟨b, 1, none⟩ (.int .u64 (tab ((p + 348).toNat * 2 + 1)))).setCell ⟨b, 2, none⟩ (.int .i64 (-(x + lp + 3))) := by
  obtain ⟨k, rfl⟩ : ∃ k : Nat, p = (k : Int) - 348 := ⟨(p + 348).toNat, by omega⟩
  have hk : ((k : Int) - 348 + 348).toNat = k := by omega
  rw [hk]
  have h1 := hT.big (k * 2) (by omega)
  have h2 := hT.big (k * 2 + 1) (by omega)
  obtain ⟨kb, fb, lb⟩ := hb.use
  have hL := Lib.hid hb
  clear hT hb
  go_enter Tryz.func341, Tryz.ntmps341
  go_wp2_with fail
  go_end0
  exact ⟨rfl, by simpa using ((hL.out.set 0 (.int .u64 (tab (k * 2)))).set 1 (.int .u64 (tab (k * 2 + 1)))).set 2 (.int .i64 (-(x + lp + 3))), rfl⟩

theorem wrap_u64_bd (x : Int) : 0 ≤ IntKind.u64.wrap x ∧ IntKind.u64.wrap x < 18446744073709551616 := by
  simp [IntKind.wrap, IntKind.bits, IntKind.signed]
  omega
/-- The decimal between two bounds that is shortest: its number, and its power of ten. -/
def sfOut (tab : Nat → Int) (m e mn mx od p : Int) : Int × Int :=
  let h := tab ((p + 348).toNat * 2)
  let l := tab ((p + 348).toNat * 2 + 1)
  let s := -(e + p * 108853 / 32768 + 3)
  let dmin := IntKind.u64.wrap (IntKind.u64.wrap (usc mn h l s + od) + 3) / 4
  let dmax := IntKind.u64.wrap (IntKind.u64.wrap (usc mx h l s + IntKind.u64.wrap (-od))) / 4
  if dmin ≤ IntKind.u64.wrap (IntKind.u64.wrap (dmax.tdiv 10) * 10) then (IntKind.u64.wrap (dmax.tdiv 10), -(p - 1))
  else if dmin < dmax then (IntKind.u64.wrap (IntKind.u64.wrap (usc m h l s + 1) + bits BinOp.and IntKind.u64 (usc m h l s / 4) 1) / 4, -p)
  else (dmin, -p)
def sfIn (tab : Nat → Int) (m e : Int) : Int × Int :=
  if e < -1085 then sfOut tab m e (IntKind.u64.wrap (m - IntKind.u64.wrap (2 ^ ((11 + (-1085 - e)).toNat - 1)))) (IntKind.u64.wrap (m + IntKind.u64.wrap (2 ^ ((11 + (-1085 - e)).toNat - 1)))) (bits .and .i64 (wrap64 (m / 2 ^ (11 + (-1085 - e)).toNat)) 1) (-((e + (11 + (-1085 - e))) * 78913 / 262144))
  else if m = 9223372036854775808 ∧ -1085 < e then sfOut tab m e (m - 512) (IntKind.u64.wrap (m + 1024)) (bits .and .i64 (m / 2048) 1) (-(((e + 11) * 631305 - 261663) / 2097152))
  else sfOut tab m e (m - 1024) (IntKind.u64.wrap (m + 1024)) (bits .and .i64 (m / 2048) 1) (-((e + 11) * 78913 / 262144))
theorem sfOut_bd (tab : Nat → Int) (m e mn mx od p : Int) (p0 : -348 ≤ p) (p1 : p < 348) : 0 ≤ (sfOut tab m e mn mx od p).1 ∧ (sfOut tab m e mn mx od p).1 < 18446744073709551616 ∧ -400 ≤ (sfOut tab m e mn mx od p).2 ∧ (sfOut tab m e mn mx od p).2 ≤ 400 := by
  unfold sfOut
  simp only
  split
  · have := wrap_u64_bd ((IntKind.u64.wrap (IntKind.u64.wrap (usc mx (tab ((p + 348).toNat * 2)) (tab ((p + 348).toNat * 2 + 1)) (-(e + p * 108853 / 32768 + 3)) + IntKind.u64.wrap (-od))) / 4).tdiv 10)
    refine ⟨?_, ?_, ?_, ?_⟩ <;> simp only <;> omega
  split
  · have := wrap_u64_bd (IntKind.u64.wrap (usc m (tab ((p + 348).toNat * 2)) (tab ((p + 348).toNat * 2 + 1)) (-(e + p * 108853 / 32768 + 3)) + 1) + bits BinOp.and IntKind.u64 (usc m (tab ((p + 348).toNat * 2)) (tab ((p + 348).toNat * 2 + 1)) (-(e + p * 108853 / 32768 + 3)) / 4) 1)
    refine ⟨?_, ?_, ?_, ?_⟩ <;> simp only <;> omega
  · have := wrap_u64_bd (IntKind.u64.wrap (usc mn (tab ((p + 348).toNat * 2)) (tab ((p + 348).toNat * 2 + 1)) (-(e + p * 108853 / 32768 + 3)) + od) + 3)
    refine ⟨?_, ?_, ?_, ?_⟩ <;> simp only <;> omega
theorem sfIn_bd (tab : Nat → Int) (m e : Int) (e0 : -1137 ≤ e) (e1 : e ≤ 960) : 0 ≤ (sfIn tab m e).1 ∧ (sfIn tab m e).1 < 18446744073709551616 ∧ -400 ≤ (sfIn tab m e).2 ∧ (sfIn tab m e).2 ≤ 400 := by
  unfold sfIn
  split
  · exact sfOut_bd _ _ _ _ _ _ _ (by omega) (by omega)
  split
  · exact sfOut_bd _ _ _ _ _ _ _ (by omega) (by omega)
  · exact sfOut_bd _ _ _ _ _ _ _ (by omega) (by omega)
set_option maxHeartbeats 4000000 in
theorem c323 (tab : Nat → Int) (m e : Int) (w : World) (hT : Tabs tab w) (m0 : 9223372036854775808 ≤ m) (m1 : m < 18446744073709551616) (e0 : -1137 ≤ e) (e1 : e ≤ 960) :
    Calls Tryz.prog 323 #[.int .u64 m, .int .i64 e] w fun x w' => x = .returned (.tuple #[.int .u64 (sfIn tab m e).1, .int .i64 (sfIn tab m e).2]) ∧ Below w.heap.size w w' := by
  generalize hR : sfIn tab m e = R
  unfold sfIn at hR
  by_cases hC : e < -1085
  · rw [if_pos hC] at hR
    have t1 : decide (-1085 < e) = false := by simp; omega
    have t2 : decide (-1085 ≤ e) = false := by simp; omega
    replace hR := Lib.hid hR
    go_enter Tryz.func323, Tryz.ntmps323
    generalize hmb : (m == 9223372036854775808) = mb
    cases mb
    all_goals
      go_wp2_with (first | (go_at_call 318; refine (c318 _ _ (by omega) (by omega)).mono ?_; rintro _ _ ⟨rfl, rfl⟩) | (go_at_call 340; refine (c340 _ _ (by omega) (by omega)).mono ?_; rintro _ _ ⟨rfl, rfl⟩) | fail)
    all_goals
      have hp0 : -348 ≤ (-((e + (11 + (-1085 - e))) * 78913 / 262144)) := by omega
      have hp1 : (-((e + (11 + (-1085 - e))) * 78913 / 262144)) < 348 := by omega
      have ho0 : 0 ≤ (bits .and .i64 (wrap64 (m / 2 ^ (11 + (-1085 - e)).toNat)) 1) := by rw [and_i64_1]; omega
      have ho1 : (bits .and .i64 (wrap64 (m / 2 ^ (11 + (-1085 - e)).toNat)) 1) ≤ 1 := by rw [and_i64_1]; omega
      have hn0 : 0 ≤ (IntKind.u64.wrap (m - IntKind.u64.wrap (2 ^ ((11 + (-1085 - e)).toNat - 1)))) := (wrap_u64_bd _).1
      have hn1 : (IntKind.u64.wrap (m - IntKind.u64.wrap (2 ^ ((11 + (-1085 - e)).toNat - 1)))) < 18446744073709551616 := (wrap_u64_bd _).2
      have hx0 : 0 ≤ (IntKind.u64.wrap (m + IntKind.u64.wrap (2 ^ ((11 + (-1085 - e)).toNat - 1)))) := (wrap_u64_bd _).1
      have hx1 : (IntKind.u64.wrap (m + IntKind.u64.wrap (2 ^ ((11 + (-1085 - e)).toNat - 1)))) < 18446744073709551616 := (wrap_u64_bd _).2
      generalize (-((e + (11 + (-1085 - e))) * 78913 / 262144)) = p at *
      generalize (bits .and .i64 (wrap64 (m / 2 ^ (11 + (-1085 - e)).toNat)) 1) = od at *
      generalize (IntKind.u64.wrap (m - IntKind.u64.wrap (2 ^ ((11 + (-1085 - e)).toNat - 1)))) = mn at *
      generalize (IntKind.u64.wrap (m + IntKind.u64.wrap (2 ^ ((11 + (-1085 - e)).toNat - 1)))) = mx at *
      refine (c342 _ _ (by omega) (by omega)).mono ?_
      rintro _ _ ⟨rfl, rfl⟩
      generalize hlp : p * 108853 / 32768 = lp
      have hl0 : -2000 ≤ lp := by omega
      have hl1 : lp ≤ 2000 := by omega
      have HT := Lib.hid (hT.blw (bl_a1 w (.cells #[.int .u64 0, .int .u64 0, .int .i64 0] 402)))
      have HL := Lib.hid (Lb.new w #[.int .u64 0, .int .u64 0, .int .i64 0] 402)
      have h6 := hT.lt
      clear hT
      go_wp2_with fail
      refine (c341 tab e p lp w.heap.size _ _ _ _ HT.out HL.out h6 hp0 hp1 (by omega) (by omega) (by omega) (by omega)).mono ?_
      rintro _ w1 ⟨rfl, hL1, hw1⟩
      have hB1 : Below w.heap.size w w1 := by
        rw [hw1]
        exact (((bl_a1 w _).setCell (by simp) _).setCell (by simp) _).setCell (by simp) _
      have hh0 := (HT.out.bd ((p + 348).toNat * 2) (by omega))
      have hh1 := (HT.out.bd ((p + 348).toNat * 2 + 1) (by omega))
      clear HT HL hw1
      replace hR := hR.out
      unfold sfOut at hR
      simp only [hlp] at hR
      clear hlp
      generalize tab ((p + 348).toNat * 2) = h at *
      generalize tab ((p + 348).toNat * 2 + 1) = l at *
      generalize -(e + lp + 3) = s at *
      replace hR := Lib.hid hR
      obtain ⟨k1, f1, lt1⟩ := hL1.use
      have H343 : Hid (∀ (x : Int) (w' : World), 0 ≤ x → x < 18446744073709551616 → Lb w' w.heap.size #[.int .u64 h, .int .u64 l, .int .i64 s] 402 → Calls Tryz.prog 343 #[.int .u64 x, .pointer (some ⟨w.heap.size, 0, none⟩)] w' fun y w'' => y = .returned (.int .u64 (usc x h l s)) ∧ Below w'.heap.size w' w'') := Lib.hid fun x w' x0 x1 hL => by
        obtain ⟨k, _, _⟩ := hL.use
        exact c343 x h l s w.heap.size w' x0 x1 hh0.1 hh0.2 hh1.1 hh1.2 (by rw [k]; rfl) (by rw [k]; rfl) (by rw [k]; rfl)
      have HL1 := Lib.hid hL1; have HB1 := Lib.hid hB1
      clear hL1 hB1 hh0 hh1
      go_wp2_with fail
      refine (H343.out mn w1 hn0 hn1 HL1.out).mono ?_
      rintro _ w2 ⟨rfl, hb2⟩
      have HL2 := Lib.hid (HL1.out.blw hb2); have HB2 := Lib.hid (HB1.out.trans (hb2.mono HB1.out.size))
      obtain ⟨k2, f2, lt2⟩ := HL2.out.use
      clear hb2 k1 f1 lt1
      go_wp2_with (first | (go_at_call 344; refine (c344 _ _ _).mono ?_; rintro _ _ ⟨rfl, rfl⟩) | (go_at_call 345; refine (c345 _ _).mono ?_; rintro _ _ ⟨rfl, rfl⟩) | fail)
      refine (H343.out mx w2 hx0 hx1 HL2.out).mono ?_
      rintro _ w3 ⟨rfl, hb3⟩
      have HL3 := Lib.hid (HL2.out.blw hb3); have HB3 := Lib.hid (HB2.out.trans (hb3.mono HB2.out.size))
      obtain ⟨k3, f3, lt3⟩ := HL3.out.use
      clear hb3 k2 f2 lt2
      go_wp2_with (first | (go_at_call 344; refine (c344 _ _ _).mono ?_; rintro _ _ ⟨rfl, rfl⟩) | (go_at_call 346; refine (c346 _ _).mono ?_; rintro _ _ ⟨rfl, rfl⟩) | fail)
      · have hR := hR.out
        rw [if_pos (by assumption)] at hR
        subst hR
        exact bodyPost_ret (v := .tuple #[.int .u64 _, .int .i64 _]) (by simp [results, Tryz.results323, go_sem]) rfl ⟨rfl, HB3.out⟩
      · refine (H343.out m w3 (by omega) m1 HL3.out).mono ?_
        rintro _ w4 ⟨rfl, hb4⟩
        have HB4 := Lib.hid (HB3.out.trans (hb4.mono HB3.out.size))
        clear hb4 k3 f3 lt3
        go_wp2_with (first | (go_at_call 347; refine (c347 _ _).mono ?_; rintro _ _ ⟨rfl, rfl⟩) | fail)
        have hR := hR.out
        rw [if_neg (by omega), if_pos (by assumption)] at hR
        subst hR
        exact bodyPost_ret (v := .tuple #[.int .u64 _, .int .i64 _]) (by simp [results, Tryz.results323, go_sem]) rfl ⟨rfl, HB4.out⟩
      · have hR := hR.out
        rw [if_neg (by omega), if_neg (by omega)] at hR
        subst hR
        exact bodyPost_ret (v := .tuple #[.int .u64 _, .int .i64 _]) (by simp [results, Tryz.results323, go_sem]) rfl ⟨rfl, HB3.out⟩
  rw [if_neg hC] at hR
  have t2 : decide (-1085 ≤ e) = true := by simp; omega
  by_cases hm : m = 9223372036854775808 ∧ -1085 < e
  · rw [if_pos hm] at hR
    replace hR := Lib.hid hR
    have hmb : (m == 9223372036854775808) = true := by simpa using hm.1
    have t1 : decide (-1085 < e) = true := by simpa using hm.2
    clear hm hC
    go_enter Tryz.func323, Tryz.ntmps323
    go_wp2_with (first | (go_at_call 318; refine (c318 _ _ (by omega) (by omega)).mono ?_; rintro _ _ ⟨rfl, rfl⟩) | (go_at_call 340; refine (c340 _ _ (by omega) (by omega)).mono ?_; rintro _ _ ⟨rfl, rfl⟩) | fail)
    have hp0 : -348 ≤ (-(((e + 11) * 631305 - 261663) / 2097152)) := by omega
    have hp1 : (-(((e + 11) * 631305 - 261663) / 2097152)) < 348 := by omega
    have ho0 : 0 ≤ (bits .and .i64 (m / 2048) 1) := by rw [and_i64_1]; omega
    have ho1 : (bits .and .i64 (m / 2048) 1) ≤ 1 := by rw [and_i64_1]; omega
    have hn0 : 0 ≤ (m - 512) := by omega
    have hn1 : (m - 512) < 18446744073709551616 := by omega
    have hx0 : 0 ≤ (IntKind.u64.wrap (m + 1024)) := (wrap_u64_bd _).1
    have hx1 : (IntKind.u64.wrap (m + 1024)) < 18446744073709551616 := (wrap_u64_bd _).2
    generalize (-(((e + 11) * 631305 - 261663) / 2097152)) = p at *
    generalize (bits .and .i64 (m / 2048) 1) = od at *
    generalize (m - 512) = mn at *
    generalize (IntKind.u64.wrap (m + 1024)) = mx at *
    refine (c342 _ _ (by omega) (by omega)).mono ?_
    rintro _ _ ⟨rfl, rfl⟩
    generalize hlp : p * 108853 / 32768 = lp
    have hl0 : -2000 ≤ lp := by omega
    have hl1 : lp ≤ 2000 := by omega
    have HT := Lib.hid (hT.blw (bl_a1 w (.cells #[.int .u64 0, .int .u64 0, .int .i64 0] 402)))
    have HL := Lib.hid (Lb.new w #[.int .u64 0, .int .u64 0, .int .i64 0] 402)
    have h6 := hT.lt
    clear hT
    go_wp2_with fail
    refine (c341 tab e p lp w.heap.size _ _ _ _ HT.out HL.out h6 hp0 hp1 (by omega) (by omega) (by omega) (by omega)).mono ?_
    rintro _ w1 ⟨rfl, hL1, hw1⟩
    have hB1 : Below w.heap.size w w1 := by
      rw [hw1]
      exact (((bl_a1 w _).setCell (by simp) _).setCell (by simp) _).setCell (by simp) _
    have hh0 := (HT.out.bd ((p + 348).toNat * 2) (by omega))
    have hh1 := (HT.out.bd ((p + 348).toNat * 2 + 1) (by omega))
    clear HT HL hw1
    replace hR := hR.out
    unfold sfOut at hR
    simp only [hlp] at hR
    clear hlp
    generalize tab ((p + 348).toNat * 2) = h at *
    generalize tab ((p + 348).toNat * 2 + 1) = l at *
    generalize -(e + lp + 3) = s at *
    replace hR := Lib.hid hR
    obtain ⟨k1, f1, lt1⟩ := hL1.use
    have H343 : Hid (∀ (x : Int) (w' : World), 0 ≤ x → x < 18446744073709551616 → Lb w' w.heap.size #[.int .u64 h, .int .u64 l, .int .i64 s] 402 → Calls Tryz.prog 343 #[.int .u64 x, .pointer (some ⟨w.heap.size, 0, none⟩)] w' fun y w'' => y = .returned (.int .u64 (usc x h l s)) ∧ Below w'.heap.size w' w'') := Lib.hid fun x w' x0 x1 hL => by
      obtain ⟨k, _, _⟩ := hL.use
      exact c343 x h l s w.heap.size w' x0 x1 hh0.1 hh0.2 hh1.1 hh1.2 (by rw [k]; rfl) (by rw [k]; rfl) (by rw [k]; rfl)
    have HL1 := Lib.hid hL1; have HB1 := Lib.hid hB1
    clear hL1 hB1 hh0 hh1
    go_wp2_with fail
    refine (H343.out mn w1 hn0 hn1 HL1.out).mono ?_
    rintro _ w2 ⟨rfl, hb2⟩
    have HL2 := Lib.hid (HL1.out.blw hb2); have HB2 := Lib.hid (HB1.out.trans (hb2.mono HB1.out.size))
    obtain ⟨k2, f2, lt2⟩ := HL2.out.use
    clear hb2 k1 f1 lt1
    go_wp2_with (first | (go_at_call 344; refine (c344 _ _ _).mono ?_; rintro _ _ ⟨rfl, rfl⟩) | (go_at_call 345; refine (c345 _ _).mono ?_; rintro _ _ ⟨rfl, rfl⟩) | fail)
    refine (H343.out mx w2 hx0 hx1 HL2.out).mono ?_
    rintro _ w3 ⟨rfl, hb3⟩
    have HL3 := Lib.hid (HL2.out.blw hb3); have HB3 := Lib.hid (HB2.out.trans (hb3.mono HB2.out.size))
    obtain ⟨k3, f3, lt3⟩ := HL3.out.use
    clear hb3 k2 f2 lt2
    go_wp2_with (first | (go_at_call 344; refine (c344 _ _ _).mono ?_; rintro _ _ ⟨rfl, rfl⟩) | (go_at_call 346; refine (c346 _ _).mono ?_; rintro _ _ ⟨rfl, rfl⟩) | fail)
    · have hR := hR.out
      rw [if_pos (by assumption)] at hR
      subst hR
      exact bodyPost_ret (v := .tuple #[.int .u64 _, .int .i64 _]) (by simp [results, Tryz.results323, go_sem]) rfl ⟨rfl, HB3.out⟩
    · refine (H343.out m w3 (by omega) m1 HL3.out).mono ?_
      rintro _ w4 ⟨rfl, hb4⟩
      have HB4 := Lib.hid (HB3.out.trans (hb4.mono HB3.out.size))
      clear hb4 k3 f3 lt3
      go_wp2_with (first | (go_at_call 347; refine (c347 _ _).mono ?_; rintro _ _ ⟨rfl, rfl⟩) | fail)
      have hR := hR.out
      rw [if_neg (by omega), if_pos (by assumption)] at hR
      subst hR
      exact bodyPost_ret (v := .tuple #[.int .u64 _, .int .i64 _]) (by simp [results, Tryz.results323, go_sem]) rfl ⟨rfl, HB4.out⟩
    · have hR := hR.out
      rw [if_neg (by omega), if_neg (by omega)] at hR
      subst hR
      exact bodyPost_ret (v := .tuple #[.int .u64 _, .int .i64 _]) (by simp [results, Tryz.results323, go_sem]) rfl ⟨rfl, HB3.out⟩
  · rw [if_neg hm] at hR
    replace hR := Lib.hid hR
    generalize hmb : (m == 9223372036854775808) = mb
    generalize t1 : decide (-1085 < e) = mc
    have hmc : mb = false ∨ mc = false := by
      rcases Bool.eq_false_or_eq_true mb with h | h
      · rcases Bool.eq_false_or_eq_true mc with h' | h'
        · exact absurd ⟨by simpa [h] using hmb, by simpa [h'] using t1⟩ hm
        · exact .inr h'
      · exact .inl h
    clear hm hC
    go_enter Tryz.func323, Tryz.ntmps323
    rcases hmc with rfl | rfl
    · clear t1
      go_wp2_with (first | (go_at_call 318; refine (c318 _ _ (by omega) (by omega)).mono ?_; rintro _ _ ⟨rfl, rfl⟩) | (go_at_call 340; refine (c340 _ _ (by omega) (by omega)).mono ?_; rintro _ _ ⟨rfl, rfl⟩) | fail)
      have hp0 : -348 ≤ (-((e + 11) * 78913 / 262144)) := by omega
      have hp1 : (-((e + 11) * 78913 / 262144)) < 348 := by omega
      have ho0 : 0 ≤ (bits .and .i64 (m / 2048) 1) := by rw [and_i64_1]; omega
      have ho1 : (bits .and .i64 (m / 2048) 1) ≤ 1 := by rw [and_i64_1]; omega
      have hn0 : 0 ≤ (m - 1024) := by omega
      have hn1 : (m - 1024) < 18446744073709551616 := by omega
      have hx0 : 0 ≤ (IntKind.u64.wrap (m + 1024)) := (wrap_u64_bd _).1
      have hx1 : (IntKind.u64.wrap (m + 1024)) < 18446744073709551616 := (wrap_u64_bd _).2
      generalize (-((e + 11) * 78913 / 262144)) = p at *
      generalize (bits .and .i64 (m / 2048) 1) = od at *
      generalize (m - 1024) = mn at *
      generalize (IntKind.u64.wrap (m + 1024)) = mx at *
      refine (c342 _ _ (by omega) (by omega)).mono ?_
      rintro _ _ ⟨rfl, rfl⟩
      generalize hlp : p * 108853 / 32768 = lp
      have hl0 : -2000 ≤ lp := by omega
      have hl1 : lp ≤ 2000 := by omega
      have HT := Lib.hid (hT.blw (bl_a1 w (.cells #[.int .u64 0, .int .u64 0, .int .i64 0] 402)))
      have HL := Lib.hid (Lb.new w #[.int .u64 0, .int .u64 0, .int .i64 0] 402)
      have h6 := hT.lt
      clear hT
      go_wp2_with fail
      refine (c341 tab e p lp w.heap.size _ _ _ _ HT.out HL.out h6 hp0 hp1 (by omega) (by omega) (by omega) (by omega)).mono ?_
      rintro _ w1 ⟨rfl, hL1, hw1⟩
      have hB1 : Below w.heap.size w w1 := by
        rw [hw1]
        exact (((bl_a1 w _).setCell (by simp) _).setCell (by simp) _).setCell (by simp) _
      have hh0 := (HT.out.bd ((p + 348).toNat * 2) (by omega))
      have hh1 := (HT.out.bd ((p + 348).toNat * 2 + 1) (by omega))
      clear HT HL hw1
      replace hR := hR.out
      unfold sfOut at hR
      simp only [hlp] at hR
      clear hlp
      generalize tab ((p + 348).toNat * 2) = h at *
      generalize tab ((p + 348).toNat * 2 + 1) = l at *
      generalize -(e + lp + 3) = s at *
      replace hR := Lib.hid hR
      obtain ⟨k1, f1, lt1⟩ := hL1.use
      have H343 : Hid (∀ (x : Int) (w' : World), 0 ≤ x → x < 18446744073709551616 → Lb w' w.heap.size #[.int .u64 h, .int .u64 l, .int .i64 s] 402 → Calls Tryz.prog 343 #[.int .u64 x, .pointer (some ⟨w.heap.size, 0, none⟩)] w' fun y w'' => y = .returned (.int .u64 (usc x h l s)) ∧ Below w'.heap.size w' w'') := Lib.hid fun x w' x0 x1 hL => by
        obtain ⟨k, _, _⟩ := hL.use
        exact c343 x h l s w.heap.size w' x0 x1 hh0.1 hh0.2 hh1.1 hh1.2 (by rw [k]; rfl) (by rw [k]; rfl) (by rw [k]; rfl)
      have HL1 := Lib.hid hL1; have HB1 := Lib.hid hB1
      clear hL1 hB1 hh0 hh1
      go_wp2_with fail
      refine (H343.out mn w1 hn0 hn1 HL1.out).mono ?_
      rintro _ w2 ⟨rfl, hb2⟩
      have HL2 := Lib.hid (HL1.out.blw hb2); have HB2 := Lib.hid (HB1.out.trans (hb2.mono HB1.out.size))
      obtain ⟨k2, f2, lt2⟩ := HL2.out.use
      clear hb2 k1 f1 lt1
      go_wp2_with (first | (go_at_call 344; refine (c344 _ _ _).mono ?_; rintro _ _ ⟨rfl, rfl⟩) | (go_at_call 345; refine (c345 _ _).mono ?_; rintro _ _ ⟨rfl, rfl⟩) | fail)
      refine (H343.out mx w2 hx0 hx1 HL2.out).mono ?_
      rintro _ w3 ⟨rfl, hb3⟩
      have HL3 := Lib.hid (HL2.out.blw hb3); have HB3 := Lib.hid (HB2.out.trans (hb3.mono HB2.out.size))
      obtain ⟨k3, f3, lt3⟩ := HL3.out.use
      clear hb3 k2 f2 lt2
      go_wp2_with (first | (go_at_call 344; refine (c344 _ _ _).mono ?_; rintro _ _ ⟨rfl, rfl⟩) | (go_at_call 346; refine (c346 _ _).mono ?_; rintro _ _ ⟨rfl, rfl⟩) | fail)
      · have hR := hR.out
        rw [if_pos (by assumption)] at hR
        subst hR
        exact bodyPost_ret (v := .tuple #[.int .u64 _, .int .i64 _]) (by simp [results, Tryz.results323, go_sem]) rfl ⟨rfl, HB3.out⟩
      · refine (H343.out m w3 (by omega) m1 HL3.out).mono ?_
        rintro _ w4 ⟨rfl, hb4⟩
        have HB4 := Lib.hid (HB3.out.trans (hb4.mono HB3.out.size))
        clear hb4 k3 f3 lt3
        go_wp2_with (first | (go_at_call 347; refine (c347 _ _).mono ?_; rintro _ _ ⟨rfl, rfl⟩) | fail)
        have hR := hR.out
        rw [if_neg (by omega), if_pos (by assumption)] at hR
        subst hR
        exact bodyPost_ret (v := .tuple #[.int .u64 _, .int .i64 _]) (by simp [results, Tryz.results323, go_sem]) rfl ⟨rfl, HB4.out⟩
      · have hR := hR.out
        rw [if_neg (by omega), if_neg (by omega)] at hR
        subst hR
        exact bodyPost_ret (v := .tuple #[.int .u64 _, .int .i64 _]) (by simp [results, Tryz.results323, go_sem]) rfl ⟨rfl, HB3.out⟩
    · cases mb
      all_goals
        go_wp2_with (first | (go_at_call 318; refine (c318 _ _ (by omega) (by omega)).mono ?_; rintro _ _ ⟨rfl, rfl⟩) | (go_at_call 340; refine (c340 _ _ (by omega) (by omega)).mono ?_; rintro _ _ ⟨rfl, rfl⟩) | fail)
      all_goals
        have hp0 : -348 ≤ (-((e + 11) * 78913 / 262144)) := by omega
        have hp1 : (-((e + 11) * 78913 / 262144)) < 348 := by omega
        have ho0 : 0 ≤ (bits .and .i64 (m / 2048) 1) := by rw [and_i64_1]; omega
        have ho1 : (bits .and .i64 (m / 2048) 1) ≤ 1 := by rw [and_i64_1]; omega
        have hn0 : 0 ≤ (m - 1024) := by omega
        have hn1 : (m - 1024) < 18446744073709551616 := by omega
        have hx0 : 0 ≤ (IntKind.u64.wrap (m + 1024)) := (wrap_u64_bd _).1
        have hx1 : (IntKind.u64.wrap (m + 1024)) < 18446744073709551616 := (wrap_u64_bd _).2
        generalize (-((e + 11) * 78913 / 262144)) = p at *
        generalize (bits .and .i64 (m / 2048) 1) = od at *
        generalize (m - 1024) = mn at *
        generalize (IntKind.u64.wrap (m + 1024)) = mx at *
        refine (c342 _ _ (by omega) (by omega)).mono ?_
        rintro _ _ ⟨rfl, rfl⟩
        generalize hlp : p * 108853 / 32768 = lp
        have hl0 : -2000 ≤ lp := by omega
        have hl1 : lp ≤ 2000 := by omega
        have HT := Lib.hid (hT.blw (bl_a1 w (.cells #[.int .u64 0, .int .u64 0, .int .i64 0] 402)))
        have HL := Lib.hid (Lb.new w #[.int .u64 0, .int .u64 0, .int .i64 0] 402)
        have h6 := hT.lt
        clear hT
        go_wp2_with fail
        refine (c341 tab e p lp w.heap.size _ _ _ _ HT.out HL.out h6 hp0 hp1 (by omega) (by omega) (by omega) (by omega)).mono ?_
        rintro _ w1 ⟨rfl, hL1, hw1⟩
        have hB1 : Below w.heap.size w w1 := by
          rw [hw1]
          exact (((bl_a1 w _).setCell (by simp) _).setCell (by simp) _).setCell (by simp) _
        have hh0 := (HT.out.bd ((p + 348).toNat * 2) (by omega))
        have hh1 := (HT.out.bd ((p + 348).toNat * 2 + 1) (by omega))
        clear HT HL hw1
        replace hR := hR.out
        unfold sfOut at hR
        simp only [hlp] at hR
        clear hlp
        generalize tab ((p + 348).toNat * 2) = h at *
        generalize tab ((p + 348).toNat * 2 + 1) = l at *
        generalize -(e + lp + 3) = s at *
        replace hR := Lib.hid hR
        obtain ⟨k1, f1, lt1⟩ := hL1.use
        have H343 : Hid (∀ (x : Int) (w' : World), 0 ≤ x → x < 18446744073709551616 → Lb w' w.heap.size #[.int .u64 h, .int .u64 l, .int .i64 s] 402 → Calls Tryz.prog 343 #[.int .u64 x, .pointer (some ⟨w.heap.size, 0, none⟩)] w' fun y w'' => y = .returned (.int .u64 (usc x h l s)) ∧ Below w'.heap.size w' w'') := Lib.hid fun x w' x0 x1 hL => by
          obtain ⟨k, _, _⟩ := hL.use
          exact c343 x h l s w.heap.size w' x0 x1 hh0.1 hh0.2 hh1.1 hh1.2 (by rw [k]; rfl) (by rw [k]; rfl) (by rw [k]; rfl)
        have HL1 := Lib.hid hL1; have HB1 := Lib.hid hB1
        clear hL1 hB1 hh0 hh1
        go_wp2_with fail
        refine (H343.out mn w1 hn0 hn1 HL1.out).mono ?_
        rintro _ w2 ⟨rfl, hb2⟩
        have HL2 := Lib.hid (HL1.out.blw hb2); have HB2 := Lib.hid (HB1.out.trans (hb2.mono HB1.out.size))
        obtain ⟨k2, f2, lt2⟩ := HL2.out.use
        clear hb2 k1 f1 lt1
        go_wp2_with (first | (go_at_call 344; refine (c344 _ _ _).mono ?_; rintro _ _ ⟨rfl, rfl⟩) | (go_at_call 345; refine (c345 _ _).mono ?_; rintro _ _ ⟨rfl, rfl⟩) | fail)
        refine (H343.out mx w2 hx0 hx1 HL2.out).mono ?_
        rintro _ w3 ⟨rfl, hb3⟩
        have HL3 := Lib.hid (HL2.out.blw hb3); have HB3 := Lib.hid (HB2.out.trans (hb3.mono HB2.out.size))
        obtain ⟨k3, f3, lt3⟩ := HL3.out.use
        clear hb3 k2 f2 lt2
        go_wp2_with (first | (go_at_call 344; refine (c344 _ _ _).mono ?_; rintro _ _ ⟨rfl, rfl⟩) | (go_at_call 346; refine (c346 _ _).mono ?_; rintro _ _ ⟨rfl, rfl⟩) | fail)
        · have hR := hR.out
          rw [if_pos (by assumption)] at hR
          subst hR
          exact bodyPost_ret (v := .tuple #[.int .u64 _, .int .i64 _]) (by simp [results, Tryz.results323, go_sem]) rfl ⟨rfl, HB3.out⟩
        · refine (H343.out m w3 (by omega) m1 HL3.out).mono ?_
          rintro _ w4 ⟨rfl, hb4⟩
          have HB4 := Lib.hid (HB3.out.trans (hb4.mono HB3.out.size))
          clear hb4 k3 f3 lt3
          go_wp2_with (first | (go_at_call 347; refine (c347 _ _).mono ?_; rintro _ _ ⟨rfl, rfl⟩) | fail)
          have hR := hR.out
          rw [if_neg (by omega), if_pos (by assumption)] at hR
          subst hR
          exact bodyPost_ret (v := .tuple #[.int .u64 _, .int .i64 _]) (by simp [results, Tryz.results323, go_sem]) rfl ⟨rfl, HB4.out⟩
        · have hR := hR.out
          rw [if_neg (by omega), if_neg (by omega)] at hR
          subst hR
          exact bodyPost_ret (v := .tuple #[.int .u64 _, .int .i64 _]) (by simp [results, Tryz.results323, go_sem]) rfl ⟨rfl, HB3.out⟩
end Go.Proofs.YtahnhhkbdgaidaaGreatDoor
