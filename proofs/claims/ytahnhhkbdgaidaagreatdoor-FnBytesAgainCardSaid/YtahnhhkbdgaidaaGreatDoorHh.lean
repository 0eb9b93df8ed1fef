/-
  The reference's reader of binary forms: lines.
-/
import Derived.Test.YtahnhhkbdgaidaaGreatDoorHg
namespace Go.Proofs.YtahnhhkbdgaidaaGreatDoor
open Go.RowKit
set_option maxRecDepth 100000
theorem ln_q {big : Bool} {body r4 r : List UInt8} {nv N D t : Nat} {bad4 bad5 : Bool} {xs : List Nat}
    (hc : nv ≤ 4096 ∧ r4.length ≤ body.length ∧ ((bad4 = true ∧ nv = 0) ∨ (bad4 = false ∧ ∃ a, body = a ++ r4 ∧ a.length = 4 ∧ nv = decB big a)))
    (i1 : ∀ x ∈ xs, x < 18446744073709551616) (i3 : 8 * xs.length + r.length ≤ r4.length + 8) (i6 : bad5 = false → bad4 = false ∧ xs.length = N ∧ ∃ a, r4 = a ++ r ∧ N8 big xs a) (hD : dN (t : Int) = D) (hN : N = nv * D) :
    (∀ n ∈ xs, n < 18446744073709551616) ∧ 8 * xs.length ≤ body.length + 8 ∧ (bad5 = false → ∃ (c4 f : List UInt8) (n : Nat), body = c4 ++ (f ++ r) ∧ c4.length = 4 ∧ decB big c4 = n ∧ n * dN (t : Int) = xs.length ∧ N8 big xs f) := by
  obtain ⟨h1, h2, h3⟩ := hc
  refine ⟨i1, by omega, fun h5 => ?_⟩
  obtain ⟨h6, h7, f, rfl, hf⟩ := i6 h5
  rcases h3 with ⟨h3, _⟩ | ⟨_, a, rfl, ha, rfl⟩
  · rw [h3] at h6; cases h6
  · exact ⟨a, f, _, rfl, ha, rfl, by rw [hD, h7, hN], hf⟩
set_option maxHeartbeats 8000000 in
theorem c50_ln_1 (P B : Nat) (any great : Bool) (kind : Int) (x : UInt8) (l4 body : List UInt8) (cc t : Nat) (w : World) (h4 : l4.length = 4) (hc : decB (x == 0) l4 = cc) (hx : x.toNat ≤ 1) (hq : kind < 0)(ht : t ≤ 3) (hkk : (cc : Int) % 1000 = 2) (htt : (cc : Int) / 1000 = (t : Int)) (h : St P B any false great (x :: (l4 ++ body)) w) :
    Calls Tryz.prog 50 #[.pointer (some ⟨P, 0, none⟩), .int .i64 kind] w (GeomQ P B any great w (fun g r bad' => ∃ xs : List Nat, g = .mk 2 (t : Int) xs [] ∧ (∀ n ∈ xs, n < 18446744073709551616) ∧ 8 * xs.length ≤ body.length + 8 ∧ (bad' = false → ∃ (c4 f : List UInt8) (n : Nat), body = c4 ++ (f ++ r) ∧ c4.length = 4 ∧ decB (x == 0) c4 = n ∧ n * dN (t : Int) = xs.length ∧ N8 (x == 0) xs f))) := by
  have hP := h.lt
  have hB := h.uses.2.2.2.2.2
  have HA := Lib.hid (one_byte x ▸ c116_ok P B 1 false any great [x] (l4 ++ body) _ rfl (by omega) (by omega) (h.al (.cells #[.int .i64 0, .int .i64 0, .slice none 0 0, .slice none 0 0] 25)) : _)
  have HB := Lib.hid fun (w1 : World) hs => (hc ▸ c116_ok P B 4 (x == 0) any great l4 body w1 h4 (by omega) (by omega) hs : _)
  have L0 := Lib.hid (Lb.new w #[.int .i64 0, .int .i64 0, .slice none 0 0, .slice none 0 0] 25)
  have hx0 := order_big x
  have hcl := decB_lt (x == 0) l4
  rw [h4, hc] at hcl
  have hb1 : decide ((1 : Int) < (x.toNat : Int)) = false := decide_eq_false (by omega)
  have hb4 : decide (3 < (t : Int)) = false := decide_eq_false (by omega)
  have hq0 : decide (0 ≤ kind) = false := decide_eq_false (by omega)
  clear h hx h4 hc
  generalize (x == 0) = big at *
  go_enter Tryz.func50, Tryz.ntmps50
  go_wp2_with fail
  refine HA.out.mono ?_
  rintro _ w1 ⟨rfl, hs1, hg1⟩
  have HB1 := Lib.hid (HB.out w1 hs1)
  have L1 := Lib.hid (L0.out.grown hg1 (fun e => by have := Option.some.inj e; omega))
  have HG1 := Lib.hid (grown_more (gr_alloc (gr_refl w P) (.cells #[.int .i64 0, .int .i64 0, .slice none 0 0, .slice none 0 0] 25)) hg1 (fun q e => .inl (Option.some.inj e).symm))
  clear hs1 hg1 L0 HA HB
  go_wp2_with fail
  refine HB1.out.mono ?_
  rintro _ w2 ⟨rfl, hs2, hg2⟩
  have L2 := Lib.hid (L1.out.grown hg2 (fun e => by have := Option.some.inj e; omega))
  have HG2 := Lib.hid (grown_more HG1.out hg2 (fun q e => .inl (Option.some.inj e).symm))
  have HS2 := Lib.hid hs2
  obtain ⟨k1, k2, k3, f2, lP, lB⟩ := hs2.uses
  have hsz := HG2.out.size
  have lr := L2.out.use.2.2
  have hPn : ¬ w.heap.size = P := by omega
  clear hs2 hg2 HB1 L1 HG1
  have hcv : IntKind.i64.wrap ((cc : Nat) : Int) = (cc : Int) := IntWalk.i64_in _ (by omega)
  have hdl := dN_bd (t : Int)
  have H31 := Lib.hid fun (w : World) => (show Calls Tryz.prog 31 #[.int .i64 (t : Int)] w fun e w' => e = .returned (.int .i64 (dN (t : Int) : Int)) ∧ w = w' from (c31 (t : Int) w).mono fun e w' h => ⟨by rw [h.1, dN_eq], h.2⟩)
  have L8 := Lib.hid (Lb.new w2 #[.int .i64 2, .int .i64 (t : Int), .slice none 0 0, .slice none 0 0] 25)
  have HG3 := Lib.hid (gr_alloc HG2.out (.cells #[.int .i64 2, .int .i64 (t : Int), .slice none 0 0, .slice none 0 0] 25))
  have L3 := Lib.hid (L2.out.alloc (.cells #[.int .i64 2, .int .i64 (t : Int), .slice none 0 0, .slice none 0 0] 25))
  have H118 := Lib.hid (c118 P B big any false great body _ (HS2.out.al (.cells #[.int .i64 2, .int .i64 (t : Int), .slice none 0 0, .slice none 0 0] 25)).dr)
  generalize hD : dN (t : Int) = D at *
  have HD := Lib.hid hD
  clear hD
  go_wp2_with fail
  clear k1 k2 k3 f2 HS2 L2 HG2
  go_region_held3 (fun w' => w'.cell? ⟨w2.heap.size, 1, none⟩ = some (.int .i64 (t : Int))) (first | (go_keep; done) | (go_simp; done)) (first
    | (go_at_call 31; refine (H31.out _).mono ?_; rintro _ _ ⟨rfl, rfl⟩)
    | (go_at_call 118; refine H118.out.mono ?_; rintro _ w4 ⟨nv, bad4, great4, r4, ⟨rfl, hs4, hg4⟩, hv4, hr4, hc4⟩
       have L8b := Lib.hid (L8.out.grown (gr_dr' hg4) (fun e => by have := Option.some.inj e; omega))
       obtain ⟨k9, f9, l9⟩ := L8b.out.use
       obtain ⟨N, hN⟩ : ∃ N, Hid (N = nv * D) := ⟨_, Lib.hid rfl⟩
       have hNb : N ≤ 100000 := by rw [hN.out]; exact Nat.le_trans (Nat.mul_le_mul hv4 hdl.2) (by omega)
       have hmul : IntKind.i64.wrap ((nv : Int) * (D : Int)) = (N : Int) := by rw [← Int.natCast_mul, ← hN.out]; exact IntWalk.i64_in _ (by omega)
       have HC4 := Lib.hid (And.intro hv4 (And.intro hr4 hc4))
       have HS4 := Lib.hid hs4; have HG4 := Lib.hid hg4
       have H117 := Lib.hid (c117 P B N big any bad4 great4 r4 w4 (by omega) hs4)
       clear hs4 hg4 hv4 hr4 hc4)
    | (go_at_call 117; refine H117.out.mono ?_; rintro _ w5 ⟨xs, r, bad5, v5, rfl, hF, hS, hG, i1, i2, i3, i4, i5, i6⟩
       obtain ⟨av, cv, rfl⟩ := hF.shape
       have L8c := Lib.hid (L8b.out.grown hG (fun e => by have := Option.some.inj e; omega))
       obtain ⟨k10, f10, l10⟩ := L8c.out.use
       have HI := Lib.hid (And.intro i1 (And.intro i3 (And.intro i4 i6)))
       have HF5 := Lib.hid hF; have HS5 := Lib.hid hS; have HG5 := Lib.hid hG
       clear i1 i2 i3 i4 i5 i6 hF hS hG k9 f9))
  all_goals (
    have hs24 := HG4.out.size
    have hs25 := HG5.out.size
    simp only [World.size_alloc, World.drew] at hs24
    have L5 := Lib.hid ((L3.out.grown (gr_dr' HG4.out) (fun e => by have := Option.some.inj e; omega)).grown HG5.out (fun e => by have := Option.some.inj e; omega))
    have HG6 := Lib.hid (grown_more (grown_more HG3.out (gr_dr' HG4.out) (fun q e => .inl (Option.some.inj e).symm)) HG5.out (fun q e => .inl (Option.some.inj e).symm))
    obtain ⟨i1, i3, i4, i6⟩ := HI.out
    have HX := Lib.hid (HF5.out.gd 2 (t : Int) (by omega))
    have HQ := Lib.hid (ln_q (body := body) (r4 := r4) (by simpa using HC4.out) i1 i3 i6 HD.out hN.out)
    obtain ⟨k0, f0, l0⟩ := L5.out.use
    clear i1 i3 i4 i6
    go_wp2_with fail
    refine bodyPost_ret (v := .agg #[.int .i64 2, .int .i64 (t : Int), .slice av xs.length cv, .slice none 0 0]) ?_ rfl ⟨.mk 2 (t : Int) xs [], .slice av xs.length cv, .slice none 0 0, r, bad5, great4, rfl, ?_, ?_, ?_, xs, rfl, HQ.out⟩
    · simp [results, Tryz.results50, go_sem, L5.out.use.1]
    · refine Gd.mono (S := (w4.heap.size ≤ ·)) ?_ (fun b _ hb => by omega)
      repeat (with_reducible first | exact HX.out | refine Gd.far ?_ (by simp <;> omega) _ _ | refine Gd.dr ?_)
    · repeat (with_reducible first | exact HS5.out | refine St.far ?_ (by omega) (by omega) _ _ | refine St.dr ?_)
    · repeat (with_reducible first | exact HG6.out | refine gr_set ?_ (by first | exact Or.inl rfl | (right; omega)) _ _ | refine gr_dr ?_))
set_option maxHeartbeats 8000000 in
theorem c50_ln_2 (P B : Nat) (any great : Bool) (x : UInt8) (l4 body : List UInt8) (cc t : Nat) (w : World) (h4 : l4.length = 4) (hc : decB (x == 0) l4 = cc) (hx : x.toNat ≤ 1) (ht : t ≤ 3) (hkk : (cc : Int) % 1000 = 2) (htt : (cc : Int) / 1000 = (t : Int)) (h : St P B any false great (x :: (l4 ++ body)) w) :
    Calls Tryz.prog 50 #[.pointer (some ⟨P, 0, none⟩), .int .i64 2] w (GeomQ P B any great w (fun g r bad' => ∃ xs : List Nat, g = .mk 2 (t : Int) xs [] ∧ (∀ n ∈ xs, n < 18446744073709551616) ∧ 8 * xs.length ≤ body.length + 8 ∧ (bad' = false → ∃ (c4 f : List UInt8) (n : Nat), body = c4 ++ (f ++ r) ∧ c4.length = 4 ∧ decB (x == 0) c4 = n ∧ n * dN (t : Int) = xs.length ∧ N8 (x == 0) xs f))) := by
  have hP := h.lt
  have hB := h.uses.2.2.2.2.2
  have HA := Lib.hid (one_byte x ▸ c116_ok P B 1 false any great [x] (l4 ++ body) _ rfl (by omega) (by omega) (h.al (.cells #[.int .i64 0, .int .i64 0, .slice none 0 0, .slice none 0 0] 25)) : _)
  have HB := Lib.hid fun (w1 : World) hs => (hc ▸ c116_ok P B 4 (x == 0) any great l4 body w1 h4 (by omega) (by omega) hs : _)
  have L0 := Lib.hid (Lb.new w #[.int .i64 0, .int .i64 0, .slice none 0 0, .slice none 0 0] 25)
  have hx0 := order_big x
  have hcl := decB_lt (x == 0) l4
  rw [h4, hc] at hcl
  have hb1 : decide ((1 : Int) < (x.toNat : Int)) = false := decide_eq_false (by omega)
  have hb4 : decide (3 < (t : Int)) = false := decide_eq_false (by omega)
  clear h hx h4 hc
  generalize (x == 0) = big at *
  go_enter Tryz.func50, Tryz.ntmps50
  go_wp2_with fail
  refine HA.out.mono ?_
  rintro _ w1 ⟨rfl, hs1, hg1⟩
  have HB1 := Lib.hid (HB.out w1 hs1)
  have L1 := Lib.hid (L0.out.grown hg1 (fun e => by have := Option.some.inj e; omega))
  have HG1 := Lib.hid (grown_more (gr_alloc (gr_refl w P) (.cells #[.int .i64 0, .int .i64 0, .slice none 0 0, .slice none 0 0] 25)) hg1 (fun q e => .inl (Option.some.inj e).symm))
  clear hs1 hg1 L0 HA HB
  go_wp2_with fail
  refine HB1.out.mono ?_
  rintro _ w2 ⟨rfl, hs2, hg2⟩
  have L2 := Lib.hid (L1.out.grown hg2 (fun e => by have := Option.some.inj e; omega))
  have HG2 := Lib.hid (grown_more HG1.out hg2 (fun q e => .inl (Option.some.inj e).symm))
  have HS2 := Lib.hid hs2
  obtain ⟨k1, k2, k3, f2, lP, lB⟩ := hs2.uses
  have hsz := HG2.out.size
  have lr := L2.out.use.2.2
  have hPn : ¬ w.heap.size = P := by omega
  clear hs2 hg2 HB1 L1 HG1
  have hcv : IntKind.i64.wrap ((cc : Nat) : Int) = (cc : Int) := IntWalk.i64_in _ (by omega)
  have hdl := dN_bd (t : Int)
  have H31 := Lib.hid fun (w : World) => (show Calls Tryz.prog 31 #[.int .i64 (t : Int)] w fun e w' => e = .returned (.int .i64 (dN (t : Int) : Int)) ∧ w = w' from (c31 (t : Int) w).mono fun e w' h => ⟨by rw [h.1, dN_eq], h.2⟩)
  have L8 := Lib.hid (Lb.new w2 #[.int .i64 2, .int .i64 (t : Int), .slice none 0 0, .slice none 0 0] 25)
  have HG3 := Lib.hid (gr_alloc HG2.out (.cells #[.int .i64 2, .int .i64 (t : Int), .slice none 0 0, .slice none 0 0] 25))
  have L3 := Lib.hid (L2.out.alloc (.cells #[.int .i64 2, .int .i64 (t : Int), .slice none 0 0, .slice none 0 0] 25))
  have H118 := Lib.hid (c118 P B big any false great body _ (HS2.out.al (.cells #[.int .i64 2, .int .i64 (t : Int), .slice none 0 0, .slice none 0 0] 25)).dr)
  generalize hD : dN (t : Int) = D at *
  have HD := Lib.hid hD
  clear hD
  go_wp2_with fail
  clear k1 k2 k3 f2 HS2 L2 HG2
  go_region_held3 (fun w' => w'.cell? ⟨w2.heap.size, 1, none⟩ = some (.int .i64 (t : Int))) (first | (go_keep; done) | (go_simp; done)) (first
    | (go_at_call 31; refine (H31.out _).mono ?_; rintro _ _ ⟨rfl, rfl⟩)
    | (go_at_call 118; refine H118.out.mono ?_; rintro _ w4 ⟨nv, bad4, great4, r4, ⟨rfl, hs4, hg4⟩, hv4, hr4, hc4⟩
       have L8b := Lib.hid (L8.out.grown (gr_dr' hg4) (fun e => by have := Option.some.inj e; omega))
       obtain ⟨k9, f9, l9⟩ := L8b.out.use
       obtain ⟨N, hN⟩ : ∃ N, Hid (N = nv * D) := ⟨_, Lib.hid rfl⟩
       have hNb : N ≤ 100000 := by rw [hN.out]; exact Nat.le_trans (Nat.mul_le_mul hv4 hdl.2) (by omega)
       have hmul : IntKind.i64.wrap ((nv : Int) * (D : Int)) = (N : Int) := by rw [← Int.natCast_mul, ← hN.out]; exact IntWalk.i64_in _ (by omega)
       have HC4 := Lib.hid (And.intro hv4 (And.intro hr4 hc4))
       have HS4 := Lib.hid hs4; have HG4 := Lib.hid hg4
       have H117 := Lib.hid (c117 P B N big any bad4 great4 r4 w4 (by omega) hs4)
       clear hs4 hg4 hv4 hr4 hc4)
    | (go_at_call 117; refine H117.out.mono ?_; rintro _ w5 ⟨xs, r, bad5, v5, rfl, hF, hS, hG, i1, i2, i3, i4, i5, i6⟩
       obtain ⟨av, cv, rfl⟩ := hF.shape
       have L8c := Lib.hid (L8b.out.grown hG (fun e => by have := Option.some.inj e; omega))
       obtain ⟨k10, f10, l10⟩ := L8c.out.use
       have HI := Lib.hid (And.intro i1 (And.intro i3 (And.intro i4 i6)))
       have HF5 := Lib.hid hF; have HS5 := Lib.hid hS; have HG5 := Lib.hid hG
       clear i1 i2 i3 i4 i5 i6 hF hS hG k9 f9))
  all_goals (
    have hs24 := HG4.out.size
    have hs25 := HG5.out.size
    simp only [World.size_alloc, World.drew] at hs24
    have L5 := Lib.hid ((L3.out.grown (gr_dr' HG4.out) (fun e => by have := Option.some.inj e; omega)).grown HG5.out (fun e => by have := Option.some.inj e; omega))
    have HG6 := Lib.hid (grown_more (grown_more HG3.out (gr_dr' HG4.out) (fun q e => .inl (Option.some.inj e).symm)) HG5.out (fun q e => .inl (Option.some.inj e).symm))
    obtain ⟨i1, i3, i4, i6⟩ := HI.out
    have HX := Lib.hid (HF5.out.gd 2 (t : Int) (by omega))
    have HQ := Lib.hid (ln_q (body := body) (r4 := r4) (by simpa using HC4.out) i1 i3 i6 HD.out hN.out)
    obtain ⟨k0, f0, l0⟩ := L5.out.use
    clear i1 i3 i4 i6
    go_wp2_with fail
    refine bodyPost_ret (v := .agg #[.int .i64 2, .int .i64 (t : Int), .slice av xs.length cv, .slice none 0 0]) ?_ rfl ⟨.mk 2 (t : Int) xs [], .slice av xs.length cv, .slice none 0 0, r, bad5, great4, rfl, ?_, ?_, ?_, xs, rfl, HQ.out⟩
    · simp [results, Tryz.results50, go_sem, L5.out.use.1]
    · refine Gd.mono (S := (w4.heap.size ≤ ·)) ?_ (fun b _ hb => by omega)
      repeat (with_reducible first | exact HX.out | refine Gd.far ?_ (by simp <;> omega) _ _ | refine Gd.dr ?_)
    · repeat (with_reducible first | exact HS5.out | refine St.far ?_ (by omega) (by omega) _ _ | refine St.dr ?_)
    · repeat (with_reducible first | exact HG6.out | refine gr_set ?_ (by first | exact Or.inl rfl | (right; omega)) _ _ | refine gr_dr ?_))
set_option maxHeartbeats 8000000 in
theorem c50_ln_3 (P B : Nat) (great : Bool) (kind : Int) (x : UInt8) (l4 body : List UInt8) (cc t : Nat) (w : World) (h4 : l4.length = 4) (hc : decB (x == 0) l4 = cc) (hx : x.toNat ≤ 1) (hq : 0 ≤ kind) (hne : kind ≠ 2)(ht : t ≤ 3) (hkk : (cc : Int) % 1000 = 2) (htt : (cc : Int) / 1000 = (t : Int)) (h : St P B true false great (x :: (l4 ++ body)) w) :
    Calls Tryz.prog 50 #[.pointer (some ⟨P, 0, none⟩), .int .i64 kind] w (GeomQ P B true great w (fun g r bad' => ∃ xs : List Nat, g = .mk 2 (t : Int) xs [] ∧ (∀ n ∈ xs, n < 18446744073709551616) ∧ 8 * xs.length ≤ body.length + 8 ∧ (bad' = false → ∃ (c4 f : List UInt8) (n : Nat), body = c4 ++ (f ++ r) ∧ c4.length = 4 ∧ decB (x == 0) c4 = n ∧ n * dN (t : Int) = xs.length ∧ N8 (x == 0) xs f))) := by
  have hP := h.lt
  have hB := h.uses.2.2.2.2.2
  have HA := Lib.hid (one_byte x ▸ c116_ok P B 1 false true great [x] (l4 ++ body) _ rfl (by omega) (by omega) (h.al (.cells #[.int .i64 0, .int .i64 0, .slice none 0 0, .slice none 0 0] 25)) : _)
  have HB := Lib.hid fun (w1 : World) hs => (hc ▸ c116_ok P B 4 (x == 0) true great l4 body w1 h4 (by omega) (by omega) hs : _)
  have L0 := Lib.hid (Lb.new w #[.int .i64 0, .int .i64 0, .slice none 0 0, .slice none 0 0] 25)
  have hx0 := order_big x
  have hcl := decB_lt (x == 0) l4
  rw [h4, hc] at hcl
  have hb1 : decide ((1 : Int) < (x.toNat : Int)) = false := decide_eq_false (by omega)
  have hb4 : decide (3 < (t : Int)) = false := decide_eq_false (by omega)
  have hq0 : decide (0 ≤ kind) = true := decide_eq_true hq
  have hq1 : ((2 : Int) != kind) = true := by simpa using fun e => hne e.symm
  clear h hx h4 hc
  generalize (x == 0) = big at *
  go_enter Tryz.func50, Tryz.ntmps50
  go_wp2_with fail
  refine HA.out.mono ?_
  rintro _ w1 ⟨rfl, hs1, hg1⟩
  have HB1 := Lib.hid (HB.out w1 hs1)
  have L1 := Lib.hid (L0.out.grown hg1 (fun e => by have := Option.some.inj e; omega))
  have HG1 := Lib.hid (grown_more (gr_alloc (gr_refl w P) (.cells #[.int .i64 0, .int .i64 0, .slice none 0 0, .slice none 0 0] 25)) hg1 (fun q e => .inl (Option.some.inj e).symm))
  clear hs1 hg1 L0 HA HB
  go_wp2_with fail
  refine HB1.out.mono ?_
  rintro _ w2 ⟨rfl, hs2, hg2⟩
  have L2 := Lib.hid (L1.out.grown hg2 (fun e => by have := Option.some.inj e; omega))
  have HG2 := Lib.hid (grown_more HG1.out hg2 (fun q e => .inl (Option.some.inj e).symm))
  have HS2 := Lib.hid hs2
  obtain ⟨k1, k2, k3, f2, lP, lB⟩ := hs2.uses
  have hsz := HG2.out.size
  have lr := L2.out.use.2.2
  have hPn : ¬ w.heap.size = P := by omega
  clear hs2 hg2 HB1 L1 HG1
  have hcv : IntKind.i64.wrap ((cc : Nat) : Int) = (cc : Int) := IntWalk.i64_in _ (by omega)
  have hdl := dN_bd (t : Int)
  have H31 := Lib.hid fun (w : World) => (show Calls Tryz.prog 31 #[.int .i64 (t : Int)] w fun e w' => e = .returned (.int .i64 (dN (t : Int) : Int)) ∧ w = w' from (c31 (t : Int) w).mono fun e w' h => ⟨by rw [h.1, dN_eq], h.2⟩)
  have L8 := Lib.hid (Lb.new w2 #[.int .i64 2, .int .i64 (t : Int), .slice none 0 0, .slice none 0 0] 25)
  have HG3 := Lib.hid (gr_alloc HG2.out (.cells #[.int .i64 2, .int .i64 (t : Int), .slice none 0 0, .slice none 0 0] 25))
  have L3 := Lib.hid (L2.out.alloc (.cells #[.int .i64 2, .int .i64 (t : Int), .slice none 0 0, .slice none 0 0] 25))
  have H118 := Lib.hid (c118 P B big true false great body _ (HS2.out.al (.cells #[.int .i64 2, .int .i64 (t : Int), .slice none 0 0, .slice none 0 0] 25)).dr)
  generalize hD : dN (t : Int) = D at *
  have HD := Lib.hid hD
  clear hD
  go_wp2_with fail
  clear k1 k2 k3 f2 HS2 L2 HG2
  go_region_held3 (fun w' => w'.cell? ⟨w2.heap.size, 1, none⟩ = some (.int .i64 (t : Int))) (first | (go_keep; done) | (go_simp; done)) (first
    | (go_at_call 31; refine (H31.out _).mono ?_; rintro _ _ ⟨rfl, rfl⟩)
    | (go_at_call 118; refine H118.out.mono ?_; rintro _ w4 ⟨nv, bad4, great4, r4, ⟨rfl, hs4, hg4⟩, hv4, hr4, hc4⟩
       have L8b := Lib.hid (L8.out.grown (gr_dr' hg4) (fun e => by have := Option.some.inj e; omega))
       obtain ⟨k9, f9, l9⟩ := L8b.out.use
       obtain ⟨N, hN⟩ : ∃ N, Hid (N = nv * D) := ⟨_, Lib.hid rfl⟩
       have hNb : N ≤ 100000 := by rw [hN.out]; exact Nat.le_trans (Nat.mul_le_mul hv4 hdl.2) (by omega)
       have hmul : IntKind.i64.wrap ((nv : Int) * (D : Int)) = (N : Int) := by rw [← Int.natCast_mul, ← hN.out]; exact IntWalk.i64_in _ (by omega)
       have HC4 := Lib.hid (And.intro hv4 (And.intro hr4 hc4))
       have HS4 := Lib.hid hs4; have HG4 := Lib.hid hg4
       have H117 := Lib.hid (c117 P B N big true bad4 great4 r4 w4 (by omega) hs4)
       clear hs4 hg4 hv4 hr4 hc4)
    | (go_at_call 117; refine H117.out.mono ?_; rintro _ w5 ⟨xs, r, bad5, v5, rfl, hF, hS, hG, i1, i2, i3, i4, i5, i6⟩
       obtain ⟨av, cv, rfl⟩ := hF.shape
       have L8c := Lib.hid (L8b.out.grown hG (fun e => by have := Option.some.inj e; omega))
       obtain ⟨k10, f10, l10⟩ := L8c.out.use
       have HI := Lib.hid (And.intro i1 (And.intro i3 (And.intro i4 i6)))
       have HF5 := Lib.hid hF; have HS5 := Lib.hid hS; have HG5 := Lib.hid hG
       clear i1 i2 i3 i4 i5 i6 hF hS hG k9 f9))
  all_goals (
    have hs24 := HG4.out.size
    have hs25 := HG5.out.size
    simp only [World.size_alloc, World.drew] at hs24
    have L5 := Lib.hid ((L3.out.grown (gr_dr' HG4.out) (fun e => by have := Option.some.inj e; omega)).grown HG5.out (fun e => by have := Option.some.inj e; omega))
    have HG6 := Lib.hid (grown_more (grown_more HG3.out (gr_dr' HG4.out) (fun q e => .inl (Option.some.inj e).symm)) HG5.out (fun q e => .inl (Option.some.inj e).symm))
    obtain ⟨i1, i3, i4, i6⟩ := HI.out
    have HX := Lib.hid (HF5.out.gd 2 (t : Int) (by omega))
    have HQ := Lib.hid (ln_q (body := body) (r4 := r4) (by simpa using HC4.out) i1 i3 i6 HD.out hN.out)
    obtain ⟨k0, f0, l0⟩ := L5.out.use
    clear i1 i3 i4 i6
    go_wp2_with fail
    refine bodyPost_ret (v := .agg #[.int .i64 2, .int .i64 (t : Int), .slice av xs.length cv, .slice none 0 0]) ?_ rfl ⟨.mk 2 (t : Int) xs [], .slice av xs.length cv, .slice none 0 0, r, bad5, great4, rfl, ?_, ?_, ?_, xs, rfl, HQ.out⟩
    · simp [results, Tryz.results50, go_sem, L5.out.use.1]
    · refine Gd.mono (S := (w4.heap.size ≤ ·)) ?_ (fun b _ hb => by omega)
      repeat (with_reducible first | exact HX.out | refine Gd.far ?_ (by simp <;> omega) _ _ | refine Gd.dr ?_)
    · repeat (with_reducible first | exact HS5.out | refine St.far ?_ (by omega) (by omega) _ _ | refine St.dr ?_)
    · repeat (with_reducible first | exact HG6.out | refine gr_set ?_ (by first | exact Or.inl rfl | (right; omega)) _ _ | refine gr_dr ?_))
end Go.Proofs.YtahnhhkbdgaidaaGreatDoor
