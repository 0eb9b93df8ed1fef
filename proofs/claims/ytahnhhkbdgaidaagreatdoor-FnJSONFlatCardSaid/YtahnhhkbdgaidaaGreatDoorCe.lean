/-
  Numbers in decimal: the text of a float.
-/
import Derived.Test.YtahnhhkbdgaidaaGreatDoorCd
import Derived.Deep.RegionWith
namespace Go.Proofs.YtahnhhkbdgaidaaGreatDoor
open Go.RowKit
set_option maxRecDepth 100000
theorem wpList_append_eqs {P : Program} {w : World} {ops : Array Oper} {rest : List Oper} {o : Oper} {a : Act} {Q : Exit → Act → World → Prop} (hgd : o.guard = none) (s x : Operand) (T U : TypeId)
    (ho : o.op = .call { callee := .builtin .append, args := #[s, x], argTypes := #[T, U] }) (hty : o.type = T) {v u v' : Value} {w' : World} (hs : a.eval s = v) (hx : a.eval x = u)
    (hrun : (Builtin.append_ #[T, U] T #[v, u]).run P w = .ok v' w') (h : wpList P ops Q rest (a.put o.dst v') w') : wpList P ops Q (o :: rest) a w := by
  refine wpList_plain hgd fun K hK => ?_
  unfold Oper.wp
  simp [execOp, ho, hty, resolve, invoke, builtin, hs, hx, hrun, Result.andThen]
  exact hK _ _ h
theorem Bf.other {B : Nat} {W w w' : World} {r : Option Nat} {v : Value} {bs : List UInt8} (h : Bf B W r v bs w) {D : Nat} (hg : w.grownBy w' (some D)) (hne : some D ≠ v.ownBlock) (hD : W.heap.size ≤ D) : Bf B W r v bs w' :=
  ⟨h.own.kept hg (.inr fun e => hne e.symm), h.kept.andThen hg (fun j hj => by cases hj; exact .inl hD), h.lies, h.hB⟩
theorem fmtF_zero (neg : Bool) : fmtF neg [] 0 0 (-1) = signB neg ++ [48] := by simp [fmtF, wholeB, restB]
theorem c313z (B : Nat) (bs : List UInt8) (v : Value) (neg : Bool) (w : World) (hb : Bf B w v.ownBlock v bs w) (hlen : bs.length ≤ 100000000000000) :
    Calls Tryz.prog 313 #[v, .bool neg, .slice none 0 0, .int .i64 0, .int .i64 0, .int .i64 (-1), .int .u8 102, .bool true] w fun e w' => ∃ v', e = .returned v' ∧ Bf B w v.ownBlock v' (bs ++ (signB neg ++ [48])) w' := by
  replace hb := Lib.hid hb
  cases neg
  · obtain ⟨v1, w1, hap0, hb1⟩ := hb.out.byte 48 (by omega)
    replace hap0 := Lib.hid hap0; replace hb1 := Lib.hid hb1
    go_enter Tryz.func313, Tryz.ntmps313
    go_wp2_with (at_builtin; refine wpList_append_eq rfl _ _ 32 rfl rfl rfl rfl hap0.out ?_)
    go_ret
    exact ⟨_, rfl, by simpa [signB] using hb1.out⟩
  · obtain ⟨v1, w1, hap0, hb1⟩ := hb.out.byte 45 (by omega)
    obtain ⟨v2, w2, hap1, hb2⟩ := hb1.byte 48 (by simp; omega)
    replace hap0 := Lib.hid hap0; replace hap1 := Lib.hid hap1; replace hb2 := Lib.hid hb2; clear hb1
    go_enter Tryz.func313, Tryz.ntmps313
    go_wp2_with (at_builtin; first | refine wpList_append_eq rfl _ _ 32 rfl rfl rfl rfl hap0.out ?_ | refine wpList_append_eq rfl _ _ 32 rfl rfl rfl rfl hap1.out ?_)
    go_ret
    exact ⟨_, rfl, by simpa [signB] using hb2.out⟩
theorem and_i64_2047 (x : Int) : bits .and .i64 x 2047 = x % 2048 := by
  show IntKind.i64.wrap ((BitVec.ofInt 64 x &&& BitVec.ofInt 64 2047).toNat : Int) = _
  have h2 : (BitVec.ofInt 64 2047).toNat = 2 ^ 11 - 1 := rfl
  rw [BitVec.toNat_and, h2, Nat.and_two_pow_sub_one_eq_mod, BitVec.toNat_ofInt]
  simp [IntKind.wrap, IntKind.bits, IntKind.signed]
  omega
theorem blen_bd : ∀ (f x : Nat), 0 < x → x < 2 ^ f → 1 ≤ Lib.bitLenAux f x ∧ Lib.bitLenAux f x ≤ f ∧ 2 ^ (Lib.bitLenAux f x - 1) ≤ x ∧ x < 2 ^ Lib.bitLenAux f x
  | 0, x, h0, h => by simp at h; omega
  | f + 1, x, h0, h => by
    unfold Lib.bitLenAux
    rw [if_neg (by omega)]
    by_cases h1 : x / 2 = 0
    · have hx : x = 1 := by omega
      subst hx
      have : Lib.bitLenAux f (1 / 2) = 0 := by cases f <;> simp [Lib.bitLenAux]
      rw [this]
      exact ⟨by omega, by omega, by simp, by simp⟩
    · have h2 : x / 2 < 2 ^ f := by rw [Nat.pow_succ] at h; omega
      obtain ⟨a, b, c, d⟩ := blen_bd f (x / 2) (by omega) h2
      generalize Lib.bitLenAux f (x / 2) = k at *
      obtain ⟨k, rfl⟩ : ∃ j, k = j + 1 := ⟨k - 1, by omega⟩
      have e1 : 1 + (k + 1) - 1 = k + 1 := by omega
      have e2 : 1 + (k + 1) = k + 1 + 1 := by omega
      rw [e1, e2]
      simp only [Nat.add_sub_cancel] at c
      rw [Nat.pow_succ] at d ⊢
      refine ⟨by omega, by omega, ?_, ?_⟩
      · omega
      · omega
/-- The number with its first bit at the top. -/
theorem top_bd (k : Nat) (h0 : 0 < k) (h1 : k < 9007199254740992) : 1 ≤ Lib.bitLen k ∧ Lib.bitLen k ≤ 53 ∧ 9223372036854775808 ≤ k * 2 ^ (64 - Lib.bitLen k) ∧ k * 2 ^ (64 - Lib.bitLen k) < 18446744073709551616 := by
  obtain ⟨a, b, c, d⟩ := blen_bd 64 k h0 (by omega)
  have hl : Lib.bitLen k ≤ 53 := by
    rcases Nat.lt_or_ge 53 (Lib.bitLen k) with h | h
    · have : 2 ^ 53 ≤ 2 ^ (Lib.bitLenAux 64 k - 1) := Nat.pow_le_pow_right (by omega) (by have h' : 53 < Lib.bitLenAux 64 k := h; omega)
      omega
    · exact h
  refine ⟨a, hl, ?_, ?_⟩
  · have e : 2 ^ (Lib.bitLen k - 1) * 2 ^ (64 - Lib.bitLen k) = 9223372036854775808 := by
      rw [← Nat.pow_add]
      have h1' : 1 ≤ Lib.bitLen k := a
      have : Lib.bitLen k - 1 + (64 - Lib.bitLen k) = 63 := by omega
      rw [this]
    have c' : 2 ^ (Lib.bitLen k - 1) ≤ k := c
    have := Nat.mul_le_mul_right (2 ^ (64 - Lib.bitLen k)) c'
    omega
  · have e : 2 ^ Lib.bitLen k * 2 ^ (64 - Lib.bitLen k) = 18446744073709551616 := by
      rw [← Nat.pow_add]
      have : Lib.bitLen k + (64 - Lib.bitLen k) = 64 := by omega
      rw [this]
    have d' : k < 2 ^ Lib.bitLen k := d
    have := Nat.mul_lt_mul_of_pos_right d' (Nat.pow_pos (n := 64 - Lib.bitLen k) (show 0 < 2 by omega))
    omega
theorem and_u64_52 (x : Int) : 0 ≤ bits .and .u64 x 4503599627370495 ∧ bits .and .u64 x 4503599627370495 < 4503599627370496 := by
  have e : bits .and .u64 x 4503599627370495 = IntKind.u64.wrap ((BitVec.ofInt 64 x &&& BitVec.ofInt 64 4503599627370495).toNat : Int) := rfl
  have h2 : (BitVec.ofInt 64 4503599627370495).toNat = 2 ^ 52 - 1 := rfl
  rw [e, BitVec.toNat_and, h2, Nat.and_two_pow_sub_one_eq_mod]
  simp [IntKind.wrap, IntKind.bits, IntKind.signed]
  omega
theorem or_u64_52 (k : Nat) (h : k < 4503599627370496) : ∃ m : Nat, bits .or .u64 (k : Int) 4503599627370496 = (m : Int) ∧ 0 < m ∧ m < 9007199254740992 := by
  have e : bits .or .u64 (k : Int) 4503599627370496 = IntKind.u64.wrap ((BitVec.ofInt 64 (k : Int) ||| BitVec.ofInt 64 4503599627370496).toNat : Int) := rfl
  have h2 : (BitVec.ofInt 64 4503599627370496).toNat = 4503599627370496 := rfl
  have h3 : (BitVec.ofInt 64 (k : Int)).toNat = k := by rw [BitVec.toNat_ofInt]; omega
  rw [e, BitVec.toNat_or, h2, h3]
  have h4 : k ||| 4503599627370496 < 2 ^ 53 := Nat.or_lt_two_pow (by omega) (by omega)
  have h5 : 4503599627370496 ≤ k ||| 4503599627370496 := Nat.right_le_or
  refine ⟨k ||| 4503599627370496, ?_, by omega, by omega⟩
  simp [IntKind.wrap, IntKind.bits, IntKind.signed]
  omega
/-- The text of a number that is not zero: its digits, found between two bounds. -/
def tailX (tab : Nat → Int) (neg : Bool) (k : Nat) (ex : Int) : List UInt8 :=
  let r := sfIn tab ((k * 2 ^ (64 - Lib.bitLen k) : Nat) : Int) (ex - (64 - (Lib.bitLen k : Int)) - 52)
  let N := ndg r.1.toNat
  let nd := trimZ (digs r.1.toNat) N
  let dp : Int := N + r.2
  fmtF neg (digs r.1.toNat) dp nd (max (nd - dp) 0)
/-- The text of a float. -/
def ftxt (tab : Nat → Int) (x : Nat) : List UInt8 :=
  let neg := ((x : Int) / 9223372036854775808 != 0)
  let e0 := wrap64 ((x : Int) / 4503599627370496) % 2048
  let m0 := bits .and .u64 (x : Int) 4503599627370495
  if e0 = 2047 then (if m0 = 0 then (if neg then [45, 73, 110, 102] else [43, 73, 110, 102]) else [78, 97, 78])
  else if e0 = 0 then (if m0 = 0 then signB neg ++ [48] else tailX tab neg m0.toNat (-1022))
  else tailX tab neg (bits .or .u64 m0 4503599627370496).toNat (e0 - 1023)
set_option maxHeartbeats 4000000 in
theorem c269 (tab : Nat → Int) (B : Nat) (bs : List UInt8) (v : Value) (x : Nat) (w : World) (hT : Tabs tab w) (hB6 : 6 < B) (hb : Bf B w v.ownBlock v bs w) (hlen : bs.length ≤ 100000000000000) :
    Calls Tryz.prog 269 #[v, .float .f64 x, .int .u8 102, .int .i64 (-1)] w fun e w' => ∃ v', e = .returned v' ∧ Bf B w v.ownBlock v' (bs ++ ftxt tab x) w' := by
  have hx := x310 x
  generalize hR : ftxt tab x = R
  unfold ftxt at hR
  simp only at hR
  have he := and_i64_2047 (wrap64 ((x : Int) / 4503599627370496))
  have hm := and_u64_52 (x : Int)
  replace hb := Lib.hid hb; replace hT := Lib.hid hT
  go_enter Tryz.func269, Tryz.ntmps269
  go_wp2_with fail
  generalize hneg : ((x : Int) / 9223372036854775808 != 0) = neg at *
  go_quiet (fail)
  generalize he0 : wrap64 ((x : Int) / 4503599627370496) % 2048 = e0 at *
  replace hb := Lib.hid (hb.out.drewN nq)
  replace hT : Hid (Tabs tab (w.drewN nq)) := Lib.hid (hT.out.blw (bl_drewN (Below.refl _ _) nq))
  have hv1 : Hid (∀ j, v.ownBlock = some j → j < (w.drewN nq).heap.size) := Lib.hid fun j hj => (hb.out.blk j hj).2
  have hww : Hid ((w.drewN nq).heap.size = w.heap.size) := Lib.hid rfl
  generalize w.drewN nq = w1 at *
  generalize hm0 : bits .and .u64 (x : Int) 4503599627370495 = m0 at *
  obtain ⟨k, rfl⟩ : ∃ k : Nat, m0 = (k : Int) := ⟨m0.toNat, by omega⟩
  have hk : k < 4503599627370496 := by omega
  have he1 : 0 ≤ e0 := by omega
  have he2 : e0 < 2048 := by omega
  have ho := or_u64_52 k hk
  clear hm hneg hx
  by_cases c1 : e0 = 2047
  · rw [if_pos c1] at hR
    subst c1
    by_cases c2 : k = 0
    · rw [if_pos (by omega)] at hR
      subst c2
      cases neg
      · obtain ⟨v1, w2, hap0, hb1⟩ := hb.out.text ⟨#[43, 73, 110, 102]⟩ (by show bs.length + 4 ≤ _; omega)
        replace hap0 := Lib.hid hap0; replace hb1 := Lib.hid hb1
        replace hR := Lib.hid hR
        go_wp2_with (at_builtin; refine wpList_append_eqs rfl _ _ 32 9 rfl rfl rfl rfl hap0.out ?_)
        go_ret
        exact ⟨_, rfl, by have e := hb1.out; rw [← hR.out]; simpa using e⟩
      · obtain ⟨v1, w2, hap0, hb1⟩ := hb.out.text ⟨#[45, 73, 110, 102]⟩ (by show bs.length + 4 ≤ _; omega)
        replace hap0 := Lib.hid hap0; replace hb1 := Lib.hid hb1
        replace hR := Lib.hid hR
        go_wp2_with (at_builtin; refine wpList_append_eqs rfl _ _ 32 9 rfl rfl rfl rfl hap0.out ?_)
        go_ret
        exact ⟨_, rfl, by have e := hb1.out; rw [← hR.out]; simpa using e⟩
    · rw [if_neg (by omega)] at hR
      have c2b : ((k : Int) != 0) = true := by simp; omega
      obtain ⟨v1, w2, hap0, hb1⟩ := hb.out.text ⟨#[78, 97, 78]⟩ (by show bs.length + 3 ≤ _; omega)
      replace hap0 := Lib.hid hap0; replace hb1 := Lib.hid hb1
      replace hR := Lib.hid hR
      go_wp2_with (at_builtin; refine wpList_append_eqs rfl _ _ 32 9 rfl rfl rfl rfl hap0.out ?_)
      go_ret
      exact ⟨_, rfl, by have e := hb1.out; rw [← hR.out]; simpa using e⟩
  rw [if_neg c1] at hR
  have c1b : (e0 == 2047) = false := by simpa using c1
  clear c1
  by_cases c3 : e0 = 0
  · rw [if_pos c3] at hR
    subst c3
    by_cases c2 : k = 0
    · rw [if_pos (by omega)] at hR
      subst c2
      replace hR := Lib.hid hR
      go_wp2_with fail
      refine (c313z B bs v neg w1 hb.out.here hlen).mono ?_
      rintro _ w2 ⟨v', rfl, hb2⟩
      replace hb2 := Lib.hid hb2
      go_wp2_with fail
      go_ret
      exact ⟨_, rfl, by rw [← hR.out]; exact hb.out.then hb2.out⟩
    rw [if_neg (by omega)] at hR
    rw [Int.toNat_natCast] at hR
    have hk0 : 0 < k := by omega
    have hk1 : k < 9007199254740992 := by omega
    have c2b : ((k : Int) == 0) = false := by rw [beq_eq_false_iff_ne]; omega
    clear c2
    obtain ⟨l0, l1, l2, l3⟩ := top_bd k hk0 hk1
    have H314 := Lib.hid fun w => c314 k w (by omega)
    have hM : IntKind.u64.wrap ((k : Int) * 2 ^ (64 - (Lib.bitLen k : Int)).toNat) = ((k * 2 ^ (64 - Lib.bitLen k) : Nat) : Int) := by
      have e : (64 - (Lib.bitLen k : Int)).toNat = 64 - Lib.bitLen k := by omega
      have e2 : (k : Int) * 2 ^ (64 - Lib.bitLen k) = ((k * 2 ^ (64 - Lib.bitLen k) : Nat) : Int) := by
        rw [Int.natCast_mul, Int.natCast_pow]
        rfl
      rw [e, e2]
      generalize k * 2 ^ (64 - Lib.bitLen k) = M at *
      simp [IntKind.wrap, IntKind.bits, IntKind.signed]
      omega
    unfold tailX at hR
    generalize k * 2 ^ (64 - Lib.bitLen k) = M at *
    have l4 : ((Lib.bitLen k : Nat) : Int) ≤ 53 := by omega
    have l5 : (1 : Int) ≤ ((Lib.bitLen k : Nat) : Int) := by omega
    generalize ((Lib.bitLen k : Nat) : Int) = len at *
    have hsfb := sfIn_bd tab (M : Int) (-1022 - (64 - len) - 52) (by omega) (by omega)
    have H323 := Lib.hid fun w hT => c323 tab (M : Int) (-1022 - (64 - len) - 52) w hT (by omega) (by omega) (by omega) (by omega)
    generalize sfIn tab (M : Int) (-1022 - (64 - len) - 52) = r at *
    obtain ⟨rd, rp⟩ := r
    simp only at hsfb H323 hR
    obtain ⟨d, hd⟩ : ∃ d : Nat, rd = (d : Int) := ⟨rd.toNat, by omega⟩
    subst hd
    rw [Int.toNat_natCast] at hR
    have hdl : d < 18446744073709551616 := by omega
    replace hR := Lib.hid hR
    have HL0 : Hid (Lb (w1.alloc (.cells (Array.replicate 32 (.int .u8 0)) 364)) w1.heap.size (Array.replicate 32 (.int .u8 0)) 364) := Lib.hid (Lb.new w1 (Array.replicate 32 (.int .u8 0)) 364)
    have HT0 : Hid (Tabs tab (w1.alloc (.cells (Array.replicate 32 (.int .u8 0)) 364))) := Lib.hid (hT.out.blw (bl_a1 _ _))
    replace hb : Hid (Bf B w v.ownBlock v bs (w1.alloc (.cells (Array.replicate 32 (.int .u8 0)) 364))) := Lib.hid (hb.out.alloc _)
    have hne : some w1.heap.size ≠ v.ownBlock := fun e => by have := (hv1.out _ e.symm); omega
    clear hT
    go_wp2_with fail
    refine (H314.out _).mono ?_
    rintro _ _ ⟨rfl, rfl⟩
    have hrep : #[Value.int .u8 0, Value.int .u8 0, Value.int .u8 0, Value.int .u8 0, Value.int .u8 0, Value.int .u8 0, Value.int .u8 0, Value.int .u8 0, Value.int .u8 0, Value.int .u8 0, Value.int .u8 0, Value.int .u8 0, Value.int .u8 0, Value.int .u8 0, Value.int .u8 0, Value.int .u8 0, Value.int .u8 0, Value.int .u8 0, Value.int .u8 0, Value.int .u8 0, Value.int .u8 0, Value.int .u8 0, Value.int .u8 0, Value.int .u8 0, Value.int .u8 0, Value.int .u8 0, Value.int .u8 0, Value.int .u8 0, Value.int .u8 0, Value.int .u8 0, Value.int .u8 0, Value.int .u8 0] = Array.replicate 32 (Value.int .u8 0) := rfl
    simp only [hrep]
    generalize hw2 : w1.alloc (.cells (Array.replicate 32 (.int .u8 0)) 364) = w2 at *
    clear hrep
    go_wp2_with fail
    refine (H323.out w2 HT0.out).mono ?_
    rintro _ w3 ⟨rfl, hb3⟩
    replace HL0 := Lib.hid (HL0.out.blw hb3); replace HT0 := Lib.hid (HT0.out.blw hb3); replace hb := Lib.hid (hb.out.step hb3)
    have hlt3 : w1.heap.size < w3.heap.size := by have := hb3.size; rw [← hw2] at this; simp at this; omega
    clear hb3
    go_wp2_with fail
    replace HL0 : Hid (Lb w3.drew w1.heap.size (Array.replicate 32 (.int .u8 0)) 364) := Lib.hid HL0.out
    replace HT0 : Hid (Tabs tab w3.drew) := Lib.hid (HT0.out.blw (bl_drewN (Below.refl _ _) 1))
    replace hb : Hid (Bf B w v.ownBlock v bs w3.drew) := Lib.hid (hb.out.drewN 1)
    have hlt4 : w1.heap.size < w3.drew.heap.size := hlt3
    have hn20 := ndg_20 d hdl
    have htz := trimZ_le (digs d) (ndg d)
    have hdlen := digs_len d
    have H316 := Lib.hid (c316 d rp w1.heap.size w3.drew hdl (by omega) (by omega) 364 HL0.out)
    have H317 := Lib.hid (c317' tab d hdl w3.drew HT0.out)
    generalize ndg d = N at *
    generalize trimZ (digs d) N = nd at *
    clear HL0 HT0
    go_region_with (first | (go_at_call 317; refine H317.out.mono ?_; rintro _ _ ⟨rfl, rfl⟩) | (go_at_call 316; refine H316.out.mono ?_; rintro _ w5 ⟨rfl, hBts, hg5⟩))
    have hb5 : Hid (Bf B w v.ownBlock v bs w5) := Lib.hid (hb.out.other hg5 hne (by have := hww.out; omega))
    replace hBts := Lib.hid hBts
    clear hg5 hb H316 H317
    have hp1 : -1000 ≤ (N : Int) + rp := by omega
    have hp2 : (N : Int) + rp ≤ 1000 := by omega
    generalize hdp : (N : Int) + rp = dp at *
    have hq1 : -dp ≤ max ((nd : Int) - dp) 0 := by omega
    have hq2 : max ((nd : Int) - dp) 0 ≤ 2000 := by omega
    have hq3 : -1000 ≤ max ((nd : Int) - dp) 0 := by omega
    go_wp2_with fail
    refine (c313 B w1.heap.size bs v neg (digs d) dp nd (max ((nd : Int) - dp) 0) w5 hb5.out.here hlen hp1 hp2 hq1 hq3 hq2 hBts.out hne (by omega) (by omega)).mono ?_
    rintro _ w6 ⟨v', rfl, hb6⟩
    replace hb6 := Lib.hid hb6
    clear hBts
    go_wp2_with fail
    go_ret
    exact ⟨_, rfl, by have e := hb5.out.then hb6.out; rw [← hR.out]; exact e⟩

  rw [if_neg c3] at hR
  have c3b : (e0 == 0) = false := by simpa using c3
  clear c3
  obtain ⟨k', ho1, hk0, hk1⟩ := ho
  rw [ho1, Int.toNat_natCast] at hR
  clear hk
  have he3 : e0 ≠ 2047 := by simpa using c1b
  have c2b : ((k' : Int) == 0) = false := by rw [beq_eq_false_iff_ne]; omega
  rw [Int.sub_eq_add_neg] at hR
  generalize hex : e0 + -1023 = ex at *
  have hex0 : -1023 ≤ ex := by omega
  have hex1 : ex ≤ 1023 := by omega
  have hex2 : -1022 ≤ ex := by
    have : e0 ≠ 0 := by simpa using c3b
    omega
  obtain ⟨l0, l1, l2, l3⟩ := top_bd k' hk0 hk1
  have H314 := Lib.hid fun w => c314 k' w (by omega)
  have hM : IntKind.u64.wrap ((k' : Int) * 2 ^ (64 - (Lib.bitLen k' : Int)).toNat) = ((k' * 2 ^ (64 - Lib.bitLen k') : Nat) : Int) := by
    have e : (64 - (Lib.bitLen k' : Int)).toNat = 64 - Lib.bitLen k' := by omega
    have e2 : (k' : Int) * 2 ^ (64 - Lib.bitLen k') = ((k' * 2 ^ (64 - Lib.bitLen k') : Nat) : Int) := by
      rw [Int.natCast_mul, Int.natCast_pow]
      rfl
    rw [e, e2]
    generalize k' * 2 ^ (64 - Lib.bitLen k') = M at *
    simp [IntKind.wrap, IntKind.bits, IntKind.signed]
    omega
  unfold tailX at hR
  generalize k' * 2 ^ (64 - Lib.bitLen k') = M at *
  have l4 : ((Lib.bitLen k' : Nat) : Int) ≤ 53 := by omega
  have l5 : (1 : Int) ≤ ((Lib.bitLen k' : Nat) : Int) := by omega
  generalize ((Lib.bitLen k' : Nat) : Int) = len at *
  have hsfb := sfIn_bd tab (M : Int) (ex - (64 - len) - 52) (by omega) (by omega)
  have H323 := Lib.hid fun w hT => c323 tab (M : Int) (ex - (64 - len) - 52) w hT (by omega) (by omega) (by omega) (by omega)
  generalize sfIn tab (M : Int) (ex - (64 - len) - 52) = r at *
  obtain ⟨rd, rp⟩ := r
  simp only at hsfb H323 hR
  obtain ⟨d, hd⟩ : ∃ d : Nat, rd = (d : Int) := ⟨rd.toNat, by omega⟩
  subst hd
  rw [Int.toNat_natCast] at hR
  have hdl : d < 18446744073709551616 := by omega
  replace hR := Lib.hid hR
  have HL0 : Hid (Lb (w1.alloc (.cells (Array.replicate 32 (.int .u8 0)) 364)) w1.heap.size (Array.replicate 32 (.int .u8 0)) 364) := Lib.hid (Lb.new w1 (Array.replicate 32 (.int .u8 0)) 364)
  have HT0 : Hid (Tabs tab (w1.alloc (.cells (Array.replicate 32 (.int .u8 0)) 364))) := Lib.hid (hT.out.blw (bl_a1 _ _))
  replace hb : Hid (Bf B w v.ownBlock v bs (w1.alloc (.cells (Array.replicate 32 (.int .u8 0)) 364))) := Lib.hid (hb.out.alloc _)
  have hne : some w1.heap.size ≠ v.ownBlock := fun e => by have := (hv1.out _ e.symm); omega
  clear hT
  go_wp2_with fail
  refine (H314.out _).mono ?_
  rintro _ _ ⟨rfl, rfl⟩
  have hrep : #[Value.int .u8 0, Value.int .u8 0, Value.int .u8 0, Value.int .u8 0, Value.int .u8 0, Value.int .u8 0, Value.int .u8 0, Value.int .u8 0, Value.int .u8 0, Value.int .u8 0, Value.int .u8 0, Value.int .u8 0, Value.int .u8 0, Value.int .u8 0, Value.int .u8 0, Value.int .u8 0, Value.int .u8 0, Value.int .u8 0, Value.int .u8 0, Value.int .u8 0, Value.int .u8 0, Value.int .u8 0, Value.int .u8 0, Value.int .u8 0, Value.int .u8 0, Value.int .u8 0, Value.int .u8 0, Value.int .u8 0, Value.int .u8 0, Value.int .u8 0, Value.int .u8 0, Value.int .u8 0] = Array.replicate 32 (Value.int .u8 0) := rfl
  simp only [hrep]
  generalize hw2 : w1.alloc (.cells (Array.replicate 32 (.int .u8 0)) 364) = w2 at *
  clear hrep
  go_wp2_with fail
  refine (H323.out w2 HT0.out).mono ?_
  rintro _ w3 ⟨rfl, hb3⟩
  replace HL0 := Lib.hid (HL0.out.blw hb3); replace HT0 := Lib.hid (HT0.out.blw hb3); replace hb := Lib.hid (hb.out.step hb3)
  have hlt3 : w1.heap.size < w3.heap.size := by have := hb3.size; rw [← hw2] at this; simp at this; omega
  clear hb3
  go_wp2_with fail
  replace HL0 : Hid (Lb w3.drew w1.heap.size (Array.replicate 32 (.int .u8 0)) 364) := Lib.hid HL0.out
  replace HT0 : Hid (Tabs tab w3.drew) := Lib.hid (HT0.out.blw (bl_drewN (Below.refl _ _) 1))
  replace hb : Hid (Bf B w v.ownBlock v bs w3.drew) := Lib.hid (hb.out.drewN 1)
  have hlt4 : w1.heap.size < w3.drew.heap.size := hlt3
  have hn20 := ndg_20 d hdl
  have htz := trimZ_le (digs d) (ndg d)
  have hdlen := digs_len d
  have H316 := Lib.hid (c316 d rp w1.heap.size w3.drew hdl (by omega) (by omega) 364 HL0.out)
  have H317 := Lib.hid (c317' tab d hdl w3.drew HT0.out)
  generalize ndg d = N at *
  generalize trimZ (digs d) N = nd at *
  clear HL0 HT0
  go_region_with (first | (go_at_call 317; refine H317.out.mono ?_; rintro _ _ ⟨rfl, rfl⟩) | (go_at_call 316; refine H316.out.mono ?_; rintro _ w5 ⟨rfl, hBts, hg5⟩))
  have hb5 : Hid (Bf B w v.ownBlock v bs w5) := Lib.hid (hb.out.other hg5 hne (by have := hww.out; omega))
  replace hBts := Lib.hid hBts
  clear hg5 hb H316 H317
  have hp1 : -1000 ≤ (N : Int) + rp := by omega
  have hp2 : (N : Int) + rp ≤ 1000 := by omega
  generalize hdp : (N : Int) + rp = dp at *
  have hq1 : -dp ≤ max ((nd : Int) - dp) 0 := by omega
  have hq2 : max ((nd : Int) - dp) 0 ≤ 2000 := by omega
  have hq3 : -1000 ≤ max ((nd : Int) - dp) 0 := by omega
  go_wp2_with fail
  refine (c313 B w1.heap.size bs v neg (digs d) dp nd (max ((nd : Int) - dp) 0) w5 hb5.out.here hlen hp1 hp2 hq1 hq3 hq2 hBts.out hne (by omega) (by omega)).mono ?_
  rintro _ w6 ⟨v', rfl, hb6⟩
  replace hb6 := Lib.hid hb6
  clear hBts
  go_wp2_with fail
  go_ret
  exact ⟨_, rfl, by have e := hb5.out.then hb6.out; rw [← hR.out]; exact e⟩

end Go.Proofs.YtahnhhkbdgaidaaGreatDoor
