/-
  The reference's reader of binary forms: points and lines.
-/
import Derived.Test.YtahnhhkbdgaidaaGreatDoorKbb
import Derived.Test.YtahnhhkbdgaidaaGreatDoorHf
namespace Go.Proofs.YtahnhhkbdgaidaaGreatDoor
open Go.RowKit
set_option maxRecDepth 100000
theorem Gd.far {S : Nat → Prop} {w : World} {g : G} {vn vk : Value} (h : Gd S w g vn vk) {q : Nat} (hq : ¬ S q) (o : Nat) (x : Value) : Gd S (w.setCell ⟨q, o, none⟩ x) g vn vk :=
  Gd.step (fun b _ hS => ⟨Below.heap_setCell w _ _ b (fun (e : b = q) => hq (e ▸ hS)), hS⟩) (by simp [World.setCell]) g vn vk h
theorem Gd.dr {S : Nat → Prop} {w : World} {g : G} {vn vk : Value} (h : Gd S w g vn vk) : Gd S w.drew g vn vk := Gd.step (w := w) (w' := w.drew) (fun _ _ hS => ⟨rfl, hS⟩) (Nat.le_of_eq rfl) g vn vk h
theorem St.dr {P B : Nat} {any bad great : Bool} {l : List UInt8} {w : World} (h : St P B any bad great l w) : St P B any bad great l w.drew := by
  obtain ⟨a, c, hL, hc, hm, hB, hj⟩ := h
  exact ⟨a, c, hL, hc, hm, hB, hj⟩
theorem gr_dr {w w' : World} {r : Option Nat} (h : w.grownBy w' r) : w.grownBy w'.drew r := ⟨h.os, h.tape, h.output, h.size, h.block⟩
theorem gr_dr' {w w' : World} {r : Option Nat} (h : w.drew.grownBy w' r) : w.grownBy w' r := ⟨h.os, h.tape, h.output, h.size, h.block⟩
theorem leaf_nil (S : Nat → Prop) (w : World) (k d : Int) : Gd S w (.mk k d [] []) (.slice none 0 0) (.slice none 0 0) := by
  simp only [Gd]
  exact ⟨⟨.nil _ _, none, 0, rfl, by simp, fun _ => rfl⟩, none, 0, rfl, by simp, fun h => by simp at h⟩
theorem Fl.cells {B0 : Nat} {w : World} {v : Value} {xs : List Nat} (h : Fl B0 w v xs) (h0 : 0 < xs.length) : ∃ g cap, v = .slice (some ⟨g, 0, none⟩) xs.length cap ∧ B0 ≤ g ∧ g < w.heap.size ∧ ∀ i (hi : i < xs.length), w.cell? ⟨g, i, none⟩ = some (.float .f64 xs[i]) := by
  rcases h.own.2 with ⟨rfl, h1⟩ | ⟨g, cap, cur, rfl, hB, hg, hn, _, hs, ht⟩
  · omega
  · refine ⟨g, cap, rfl, hB, (Array.getElem?_eq_some_iff.1 hg).1, fun i hi => ?_⟩
    have e : (cur.toList.take (xs.length * 1))[i]? = (xs.map (Value.float .f64))[i]? := by rw [ht]
    rw [List.getElem?_take, if_pos (by omega)] at e
    rw [(cells_of hg).1]
    simpa [hi] using e
set_option maxHeartbeats 8000000 in
theorem c50_pt_1 (P B : Nat) (any great : Bool) (kind : Int) (x : UInt8) (l4 body : List UInt8) (cc t : Nat) (w : World) (h4 : l4.length = 4) (hc : decB (x == 0) l4 = cc) (hx : x.toNat ≤ 1) (hq : kind < 0)(ht : t ≤ 3) (hkk : (cc : Int) % 1000 = 1) (htt : (cc : Int) / 1000 = (t : Int)) (h : St P B any false great (x :: (l4 ++ body)) w) :
    Calls Tryz.prog 50 #[.pointer (some ⟨P, 0, none⟩), .int .i64 kind] w (GeomQ P B any great w (fun g r bad' => (bad' = true ∧ g = zeroG) ∨ ∃ xs : List Nat, (∀ n ∈ xs, n < 18446744073709551616) ∧ xs.length = dN (t : Int) ∧ (∃ a, body = a ++ r ∧ N8 (x == 0) xs a) ∧
      ((nanB (xs.getD 0 0) = true ∧ nanB (xs.getD 1 0) = true ∧ g = .mk 1 (t : Int) [] [] ∧ bad' = false) ∨ (g = .mk 1 (t : Int) xs [] ∧ (bad' = false → any = true ∨ (nanB (xs.getD 0 0) = false ∧ nanB (xs.getD 1 0) = false)))))) := by
  have hP := h.lt
  have hB := h.uses.2.2.2.2.2
  have HA := Lib.hid (one_byte x ▸ c116_ok P B 1 false any great [x] (l4 ++ body) _ rfl (by omega) (by omega) (h.al (.cells #[.int .i64 0, .int .i64 0, .slice none 0 0, .slice none 0 0] 25)) : _)
  have HB := Lib.hid fun (w1 : World) hs => (hc ▸ c116_ok P B 4 (x == 0) any great l4 body w1 h4 (by omega) (by omega) hs : _)
  have L0 := Lib.hid (Lb.new w #[.int .i64 0, .int .i64 0, .slice none 0 0, .slice none 0 0] 25)
  have hx0 := order_big x
  have hcl := decB_lt (x == 0) l4
  rw [h4, hc] at hcl
  have hb1 : decide ((1 : Int) < (x.toNat : Int)) = false := decide_eq_false (by omega)
  have hb4 : decide (3 < (t : Int)) = false := decide_eq_false (by omega)
  have hq0 : decide (0 ≤ kind) = false := decide_eq_false (by omega)
  clear h hx h4 hc
  generalize (x == 0) = big at *
  go_enter Tryz.func50, Tryz.ntmps50
  go_wp2_with fail
  refine HA.out.mono ?_
  rintro _ w1 ⟨rfl, hs1, hg1⟩
  have HB1 := Lib.hid (HB.out w1 hs1)
  have L1 := Lib.hid (L0.out.grown hg1 (fun e => by have := Option.some.inj e; omega))
  have HG1 := Lib.hid (grown_more (gr_alloc (gr_refl w P) (.cells #[.int .i64 0, .int .i64 0, .slice none 0 0, .slice none 0 0] 25)) hg1 (fun q e => .inl (Option.some.inj e).symm))
  clear hs1 hg1 L0 HA HB
  go_wp2_with fail
  refine HB1.out.mono ?_
  rintro _ w2 ⟨rfl, hs2, hg2⟩
  have L2 := Lib.hid (L1.out.grown hg2 (fun e => by have := Option.some.inj e; omega))
  have HG2 := Lib.hid (grown_more HG1.out hg2 (fun q e => .inl (Option.some.inj e).symm))
  have HS2 := Lib.hid hs2
  obtain ⟨k1, k2, k3, f2, lP, lB⟩ := hs2.uses
  have hsz := HG2.out.size
  have lr := L2.out.use.2.2
  have hPn : ¬ w.heap.size = P := by omega
  clear hs2 hg2 HB1 L1 HG1
  have hcv : IntKind.i64.wrap ((cc : Nat) : Int) = (cc : Int) := IntWalk.i64_in _ (by omega)
  have hdl := dN_bd (t : Int)
  have H31 := Lib.hid fun (w : World) => (show Calls Tryz.prog 31 #[.int .i64 (t : Int)] w fun e w' => e = .returned (.int .i64 (dN (t : Int) : Int)) ∧ w = w' from (c31 (t : Int) w).mono fun e w' h => ⟨by rw [h.1, dN_eq], h.2⟩)
  have H117 := Lib.hid (c117 P B (dN (t : Int)) big any false great body _ (by omega) (HS2.out.al (.cells #[.int .i64 1, .int .i64 (t : Int), .slice none 0 0, .slice none 0 0] 25)))
  have L8 := Lib.hid (Lb.new w2 #[.int .i64 1, .int .i64 (t : Int), .slice none 0 0, .slice none 0 0] 25)
  have HG3 := Lib.hid (gr_alloc HG2.out (.cells #[.int .i64 1, .int .i64 (t : Int), .slice none 0 0, .slice none 0 0] 25))
  have L3 := Lib.hid (L2.out.alloc (.cells #[.int .i64 1, .int .i64 (t : Int), .slice none 0 0, .slice none 0 0] 25))
  generalize hD : dN (t : Int) = D at *
  have HD := Lib.hid hD
  clear hD
  go_wp2_with fail
  refine (H31.out _).mono ?_
  rintro _ _ ⟨rfl, rfl⟩
  clear k1 k2 k3 f2 HS2 L2 HG2
  go_wp2_with fail
  refine H117.out.mono ?_
  rintro _ w4 ⟨xs, r, bad', v, rfl, hF, hS, hG, i1, i2, i3, i4, i5, i6⟩
  have hs4 := hG.size
  rw [World.size_alloc] at hs4
  have L4 := Lib.hid (L3.out.grown hG (fun e => by have := Option.some.inj e; omega))
  have L9 := Lib.hid (L8.out.grown hG (fun e => by have := Option.some.inj e; omega))
  have HG4 := Lib.hid (grown_more HG3.out hG (fun q e => .inl (Option.some.inj e).symm))
  have HS4 := Lib.hid hS; have HF4 := Lib.hid hF; have HI := Lib.hid (And.intro i1 (And.intro i3 i6))
  obtain ⟨k9, f9, l9⟩ := L9.out.use
  obtain ⟨q1, q2, q3, f2, lP4, lB4⟩ := hS.uses
  obtain ⟨av, cv, rfl⟩ := hF.shape
  clear H117 hF hS hG i1 i2 i3 i5 i6 L3 L8 HG3
  cases bad'
  · have hE := Lib.hid (HI.out.2.2 rfl)
    obtain ⟨_, hxl, a, hba, hN⟩ := hE.out
    obtain ⟨gq, cap, ev, hgB, hgl, hat⟩ := HF4.out.cells (by omega)
    obtain ⟨rfl, _, rfl⟩ := Value.slice.inj ev
    rw [World.size_alloc] at hgB
    rw [hxl, World.size_alloc] at HF4
    have c0 := hat 0 (by omega)
    have c1 := hat 1 (by omega)
    have y0 : xs.getD 0 0 = xs[0] := by simp [List.getD, show 0 < xs.length by omega]
    have y1 : xs.getD 1 0 = xs[1] := by simp [List.getD, show 1 < xs.length by omega]
    have Y0 := Lib.hid y0; have Y1 := Lib.hid y1
    generalize xs[0] = n0 at *
    generalize xs[1] = n1 at *
    rw [hxl]
    have hgne : gq ≠ w2.heap.size := by omega
    have D2 : (0 : Int) < (D : Int) := by omega
    have D3 : (1 : Int) < (D : Int) := by omega
    have D4 : 0 < D := by omega
    have D5 : 1 < D := by omega

    clear y0 y1 hat hE
    go_wp2_with fail
    go_region_held3 (fun w' => w'.cell? ⟨w2.heap.size, 2, none⟩ = some (.slice (some ⟨gq, 0, none⟩) D cv) ∧ w'.cell? ⟨gq, 0, none⟩ = some (.float .f64 n0) ∧ w'.cell? ⟨gq, 1, none⟩ = some (.float .f64 n1)) (first | (go_keep; done) | (go_simp; done)) (fail)
    have HQ := Lib.hid (And.intro HI.out.1 (And.intro hxl (And.intro (⟨a, hba, hN⟩ : ∃ a, body = a ++ r ∧ N8 big xs a) (And.intro Y0.out Y1.out))))
    obtain ⟨k0, f0, l0⟩ := L4.out.use
    have HGX := Lib.hid (HF4.out.gd 1 (t : Int) (by omega))
    have HGE : Hid (∀ W, Gd (w2.heap.size + 1 ≤ ·) W (.mk 1 (t : Int) [] []) (.slice none 0 0) (.slice none 0 0)) := Lib.hid fun W => leaf_nil _ W 1 (t : Int)
    clear hba hN hxl HI
    by_cases o0 : FloatKind.f64.format.order n0 n0 = some Ordering.eq <;> by_cases o1 : FloatKind.f64.format.order n1 n1 = some Ordering.eq
    · have b0 : nanB n0 = false := by simp [nanB, o0]
      have p0 : (FloatKind.f64.format.order n0 n0 != some Ordering.eq) = false := by simp [o0]
      have b1 : nanB n1 = false := by simp [nanB, o1]
      have p1 : (FloatKind.f64.format.order n1 n1 != some Ordering.eq) = false := by simp [o1]
      go_wp2_with fail
      refine bodyPost_ret (v := .agg #[.int .i64 1, .int .i64 (t : Int), (.slice (some ⟨gq, 0, none⟩) D cv), .slice none 0 0]) ?_ rfl ⟨(.mk 1 (t : Int) xs []), (.slice (some ⟨gq, 0, none⟩) D cv), .slice none 0 0, r, false, great, rfl, ?_, ?_, ?_, ?_⟩
      · simp [results, Tryz.results50, go_sem, L4.out.use.1]
      · refine Gd.mono (S := (w2.heap.size + 1 ≤ ·)) ?_ (fun b _ hb => by omega)
        repeat (with_reducible first | exact HGX.out | refine Gd.far ?_ (by simp <;> omega) _ _ | refine Gd.dr ?_)
      · repeat (with_reducible first | exact HS4.out | exact HS4.out.mark | refine St.far ?_ (by omega) (by omega) _ _ | refine St.dr ?_ | fail)
      · repeat (with_reducible first | exact HG4.out | refine gr_set ?_ (by first | exact Or.inl rfl | (right; omega)) _ _ | refine gr_dr ?_)
      · first | exact .inr ⟨xs, HQ.out.1, by rw [HD.out]; exact HQ.out.2.1, HQ.out.2.2.1, .inr ⟨rfl, fun _ => .inr ⟨by rw [HQ.out.2.2.2.1, b0], by rw [HQ.out.2.2.2.2, b1]⟩⟩⟩ | exact .inr ⟨xs, HQ.out.1, by rw [HD.out]; exact HQ.out.2.1, HQ.out.2.2.1, .inr rfl⟩
    · have b0 : nanB n0 = false := by simp [nanB, o0]
      have p0 : (FloatKind.f64.format.order n0 n0 != some Ordering.eq) = false := by simp [o0]
      have b1 : nanB n1 = true := by simp [nanB, o1]
      have p1 : (FloatKind.f64.format.order n1 n1 != some Ordering.eq) = true := by simpa using o1
      cases any
      · go_wp2_with fail
        refine bodyPost_ret (v := .agg #[.int .i64 1, .int .i64 (t : Int), (.slice (some ⟨gq, 0, none⟩) D cv), .slice none 0 0]) ?_ rfl ⟨(.mk 1 (t : Int) xs []), (.slice (some ⟨gq, 0, none⟩) D cv), .slice none 0 0, r, true, great, rfl, ?_, ?_, ?_, ?_⟩
        · simp [results, Tryz.results50, go_sem, L4.out.use.1]
        · refine Gd.mono (S := (w2.heap.size + 1 ≤ ·)) ?_ (fun b _ hb => by omega)
          repeat (with_reducible first | exact HGX.out | refine Gd.far ?_ (by simp <;> omega) _ _ | refine Gd.dr ?_)
        · repeat (with_reducible first | exact HS4.out | exact HS4.out.mark | refine St.far ?_ (by omega) (by omega) _ _ | refine St.dr ?_ | refine St.mark (bad := false) ?_)
        · repeat (with_reducible first | exact HG4.out | refine gr_set ?_ (by first | exact Or.inl rfl | (right; omega)) _ _ | refine gr_dr ?_)
        · first | exact .inr ⟨xs, HQ.out.1, by rw [HD.out]; exact HQ.out.2.1, HQ.out.2.2.1, .inr ⟨rfl, fun e => by cases e⟩⟩ | exact .inr ⟨xs, HQ.out.1, by rw [HD.out]; exact HQ.out.2.1, HQ.out.2.2.1, .inr rfl⟩
      · go_wp2_with fail
        refine bodyPost_ret (v := .agg #[.int .i64 1, .int .i64 (t : Int), (.slice (some ⟨gq, 0, none⟩) D cv), .slice none 0 0]) ?_ rfl ⟨(.mk 1 (t : Int) xs []), (.slice (some ⟨gq, 0, none⟩) D cv), .slice none 0 0, r, false, great, rfl, ?_, ?_, ?_, ?_⟩
        · simp [results, Tryz.results50, go_sem, L4.out.use.1]
        · refine Gd.mono (S := (w2.heap.size + 1 ≤ ·)) ?_ (fun b _ hb => by omega)
          repeat (with_reducible first | exact HGX.out | refine Gd.far ?_ (by simp <;> omega) _ _ | refine Gd.dr ?_)
        · repeat (with_reducible first | exact HS4.out | exact HS4.out.mark | refine St.far ?_ (by omega) (by omega) _ _ | refine St.dr ?_ | fail)
        · repeat (with_reducible first | exact HG4.out | refine gr_set ?_ (by first | exact Or.inl rfl | (right; omega)) _ _ | refine gr_dr ?_)
        · first | exact .inr ⟨xs, HQ.out.1, by rw [HD.out]; exact HQ.out.2.1, HQ.out.2.2.1, .inr ⟨rfl, fun _ => .inl (by first | rfl | trivial)⟩⟩ | exact .inr ⟨xs, HQ.out.1, by rw [HD.out]; exact HQ.out.2.1, HQ.out.2.2.1, .inr rfl⟩
    · have b0 : nanB n0 = true := by simp [nanB, o0]
      have p0 : (FloatKind.f64.format.order n0 n0 != some Ordering.eq) = true := by simpa using o0
      have b1 : nanB n1 = false := by simp [nanB, o1]
      have p1 : (FloatKind.f64.format.order n1 n1 != some Ordering.eq) = false := by simp [o1]
      cases any
      · go_wp2_with fail
        refine bodyPost_ret (v := .agg #[.int .i64 1, .int .i64 (t : Int), (.slice (some ⟨gq, 0, none⟩) D cv), .slice none 0 0]) ?_ rfl ⟨(.mk 1 (t : Int) xs []), (.slice (some ⟨gq, 0, none⟩) D cv), .slice none 0 0, r, true, great, rfl, ?_, ?_, ?_, ?_⟩
        · simp [results, Tryz.results50, go_sem, L4.out.use.1]
        · refine Gd.mono (S := (w2.heap.size + 1 ≤ ·)) ?_ (fun b _ hb => by omega)
          repeat (with_reducible first | exact HGX.out | refine Gd.far ?_ (by simp <;> omega) _ _ | refine Gd.dr ?_)
        · repeat (with_reducible first | exact HS4.out | exact HS4.out.mark | refine St.far ?_ (by omega) (by omega) _ _ | refine St.dr ?_ | refine St.mark (bad := false) ?_)
        · repeat (with_reducible first | exact HG4.out | refine gr_set ?_ (by first | exact Or.inl rfl | (right; omega)) _ _ | refine gr_dr ?_)
        · first | exact .inr ⟨xs, HQ.out.1, by rw [HD.out]; exact HQ.out.2.1, HQ.out.2.2.1, .inr ⟨rfl, fun e => by cases e⟩⟩ | exact .inr ⟨xs, HQ.out.1, by rw [HD.out]; exact HQ.out.2.1, HQ.out.2.2.1, .inr rfl⟩
      · go_wp2_with fail
        refine bodyPost_ret (v := .agg #[.int .i64 1, .int .i64 (t : Int), (.slice (some ⟨gq, 0, none⟩) D cv), .slice none 0 0]) ?_ rfl ⟨(.mk 1 (t : Int) xs []), (.slice (some ⟨gq, 0, none⟩) D cv), .slice none 0 0, r, false, great, rfl, ?_, ?_, ?_, ?_⟩
        · simp [results, Tryz.results50, go_sem, L4.out.use.1]
        · refine Gd.mono (S := (w2.heap.size + 1 ≤ ·)) ?_ (fun b _ hb => by omega)
          repeat (with_reducible first | exact HGX.out | refine Gd.far ?_ (by simp <;> omega) _ _ | refine Gd.dr ?_)
        · repeat (with_reducible first | exact HS4.out | exact HS4.out.mark | refine St.far ?_ (by omega) (by omega) _ _ | refine St.dr ?_ | fail)
        · repeat (with_reducible first | exact HG4.out | refine gr_set ?_ (by first | exact Or.inl rfl | (right; omega)) _ _ | refine gr_dr ?_)
        · first | exact .inr ⟨xs, HQ.out.1, by rw [HD.out]; exact HQ.out.2.1, HQ.out.2.2.1, .inr ⟨rfl, fun _ => .inl (by first | rfl | trivial)⟩⟩ | exact .inr ⟨xs, HQ.out.1, by rw [HD.out]; exact HQ.out.2.1, HQ.out.2.2.1, .inr rfl⟩
    · have b0 : nanB n0 = true := by simp [nanB, o0]
      have p0 : (FloatKind.f64.format.order n0 n0 != some Ordering.eq) = true := by simpa using o0
      have b1 : nanB n1 = true := by simp [nanB, o1]
      have p1 : (FloatKind.f64.format.order n1 n1 != some Ordering.eq) = true := by simpa using o1
      go_wp2_with fail
      refine bodyPost_ret (v := .agg #[.int .i64 1, .int .i64 (t : Int), (.slice none 0 0), .slice none 0 0]) ?_ rfl ⟨(.mk 1 (t : Int) [] []), (.slice none 0 0), .slice none 0 0, r, false, great, rfl, ?_, ?_, ?_, ?_⟩
      · simp [results, Tryz.results50, go_sem, L4.out.use.1]
      · refine Gd.mono (S := (w2.heap.size + 1 ≤ ·)) ?_ (fun b _ hb => by omega)
        repeat (with_reducible first | exact HGE.out _ | refine Gd.far ?_ (by simp <;> omega) _ _ | refine Gd.dr ?_)
      · repeat (with_reducible first | exact HS4.out | exact HS4.out.mark | refine St.far ?_ (by omega) (by omega) _ _ | refine St.dr ?_ | fail)
      · repeat (with_reducible first | exact HG4.out | refine gr_set ?_ (by first | exact Or.inl rfl | (right; omega)) _ _ | refine gr_dr ?_)
      · exact .inr ⟨xs, HQ.out.1, by rw [HD.out]; exact HQ.out.2.1, HQ.out.2.2.1, .inl ⟨by rw [HQ.out.2.2.2.1, b0], by rw [HQ.out.2.2.2.2, b1], rfl, rfl⟩⟩
  · obtain ⟨k0, f0, l0⟩ := L4.out.use
    go_wp2_with fail
    refine bodyPost_ret (v := .agg #[.int .i64 0, .int .i64 0, (.slice none 0 0), .slice none 0 0]) ?_ rfl ⟨zeroG, (.slice none 0 0), .slice none 0 0, r, true, great, rfl, ?_, ?_, ?_, ?_⟩
    · simp [results, Tryz.results50, go_sem, L4.out.use.1]
    · refine Gd.mono (S := (w2.heap.size + 1 ≤ ·)) ?_ (fun b _ hb => by omega)
      repeat (with_reducible first | exact zeroG_gd _ _ | refine Gd.far ?_ (by simp <;> omega) _ _ | refine Gd.dr ?_)
    · repeat (with_reducible first | exact HS4.out | exact HS4.out.mark | refine St.far ?_ (by omega) (by omega) _ _ | refine St.dr ?_ | fail)
    · repeat (with_reducible first | exact HG4.out | refine gr_set ?_ (by first | exact Or.inl rfl | (right; omega)) _ _ | refine gr_dr ?_)
    · exact .inl ⟨rfl, rfl⟩
set_option maxHeartbeats 8000000 in
theorem c50_pt_2 (P B : Nat) (any great : Bool) (x : UInt8) (l4 body : List UInt8) (cc t : Nat) (w : World) (h4 : l4.length = 4) (hc : decB (x == 0) l4 = cc) (hx : x.toNat ≤ 1) (ht : t ≤ 3) (hkk : (cc : Int) % 1000 = 1) (htt : (cc : Int) / 1000 = (t : Int)) (h : St P B any false great (x :: (l4 ++ body)) w) :
    Calls Tryz.prog 50 #[.pointer (some ⟨P, 0, none⟩), .int .i64 1] w (GeomQ P B any great w (fun g r bad' => (bad' = true ∧ g = zeroG) ∨ ∃ xs : List Nat, (∀ n ∈ xs, n < 18446744073709551616) ∧ xs.length = dN (t : Int) ∧ (∃ a, body = a ++ r ∧ N8 (x == 0) xs a) ∧
      ((nanB (xs.getD 0 0) = true ∧ nanB (xs.getD 1 0) = true ∧ g = .mk 1 (t : Int) [] [] ∧ bad' = false) ∨ (g = .mk 1 (t : Int) xs [] ∧ (bad' = false → any = true ∨ (nanB (xs.getD 0 0) = false ∧ nanB (xs.getD 1 0) = false)))))) := by
  have hP := h.lt
  have hB := h.uses.2.2.2.2.2
  have HA := Lib.hid (one_byte x ▸ c116_ok P B 1 false any great [x] (l4 ++ body) _ rfl (by omega) (by omega) (h.al (.cells #[.int .i64 0, .int .i64 0, .slice none 0 0, .slice none 0 0] 25)) : _)
  have HB := Lib.hid fun (w1 : World) hs => (hc ▸ c116_ok P B 4 (x == 0) any great l4 body w1 h4 (by omega) (by omega) hs : _)
  have L0 := Lib.hid (Lb.new w #[.int .i64 0, .int .i64 0, .slice none 0 0, .slice none 0 0] 25)
  have hx0 := order_big x
  have hcl := decB_lt (x == 0) l4
  rw [h4, hc] at hcl
  have hb1 : decide ((1 : Int) < (x.toNat : Int)) = false := decide_eq_false (by omega)
  have hb4 : decide (3 < (t : Int)) = false := decide_eq_false (by omega)
  clear h hx h4 hc
  generalize (x == 0) = big at *
  go_enter Tryz.func50, Tryz.ntmps50
  go_wp2_with fail
  refine HA.out.mono ?_
  rintro _ w1 ⟨rfl, hs1, hg1⟩
  have HB1 := Lib.hid (HB.out w1 hs1)
  have L1 := Lib.hid (L0.out.grown hg1 (fun e => by have := Option.some.inj e; omega))
  have HG1 := Lib.hid (grown_more (gr_alloc (gr_refl w P) (.cells #[.int .i64 0, .int .i64 0, .slice none 0 0, .slice none 0 0] 25)) hg1 (fun q e => .inl (Option.some.inj e).symm))
  clear hs1 hg1 L0 HA HB
  go_wp2_with fail
  refine HB1.out.mono ?_
  rintro _ w2 ⟨rfl, hs2, hg2⟩
  have L2 := Lib.hid (L1.out.grown hg2 (fun e => by have := Option.some.inj e; omega))
  have HG2 := Lib.hid (grown_more HG1.out hg2 (fun q e => .inl (Option.some.inj e).symm))
  have HS2 := Lib.hid hs2
  obtain ⟨k1, k2, k3, f2, lP, lB⟩ := hs2.uses
  have hsz := HG2.out.size
  have lr := L2.out.use.2.2
  have hPn : ¬ w.heap.size = P := by omega
  clear hs2 hg2 HB1 L1 HG1
  have hcv : IntKind.i64.wrap ((cc : Nat) : Int) = (cc : Int) := IntWalk.i64_in _ (by omega)
  have hdl := dN_bd (t : Int)
  have H31 := Lib.hid fun (w : World) => (show Calls Tryz.prog 31 #[.int .i64 (t : Int)] w fun e w' => e = .returned (.int .i64 (dN (t : Int) : Int)) ∧ w = w' from (c31 (t : Int) w).mono fun e w' h => ⟨by rw [h.1, dN_eq], h.2⟩)
  have H117 := Lib.hid (c117 P B (dN (t : Int)) big any false great body _ (by omega) (HS2.out.al (.cells #[.int .i64 1, .int .i64 (t : Int), .slice none 0 0, .slice none 0 0] 25)))
  have L8 := Lib.hid (Lb.new w2 #[.int .i64 1, .int .i64 (t : Int), .slice none 0 0, .slice none 0 0] 25)
  have HG3 := Lib.hid (gr_alloc HG2.out (.cells #[.int .i64 1, .int .i64 (t : Int), .slice none 0 0, .slice none 0 0] 25))
  have L3 := Lib.hid (L2.out.alloc (.cells #[.int .i64 1, .int .i64 (t : Int), .slice none 0 0, .slice none 0 0] 25))
  generalize hD : dN (t : Int) = D at *
  have HD := Lib.hid hD
  clear hD
  go_wp2_with fail
  refine (H31.out _).mono ?_
  rintro _ _ ⟨rfl, rfl⟩
  clear k1 k2 k3 f2 HS2 L2 HG2
  go_wp2_with fail
  refine H117.out.mono ?_
  rintro _ w4 ⟨xs, r, bad', v, rfl, hF, hS, hG, i1, i2, i3, i4, i5, i6⟩
  have hs4 := hG.size
  rw [World.size_alloc] at hs4
  have L4 := Lib.hid (L3.out.grown hG (fun e => by have := Option.some.inj e; omega))
  have L9 := Lib.hid (L8.out.grown hG (fun e => by have := Option.some.inj e; omega))
  have HG4 := Lib.hid (grown_more HG3.out hG (fun q e => .inl (Option.some.inj e).symm))
  have HS4 := Lib.hid hS; have HF4 := Lib.hid hF; have HI := Lib.hid (And.intro i1 (And.intro i3 i6))
  obtain ⟨k9, f9, l9⟩ := L9.out.use
  obtain ⟨q1, q2, q3, f2, lP4, lB4⟩ := hS.uses
  obtain ⟨av, cv, rfl⟩ := hF.shape
  clear H117 hF hS hG i1 i2 i3 i5 i6 L3 L8 HG3
  cases bad'
  · have hE := Lib.hid (HI.out.2.2 rfl)
    obtain ⟨_, hxl, a, hba, hN⟩ := hE.out
    obtain ⟨gq, cap, ev, hgB, hgl, hat⟩ := HF4.out.cells (by omega)
    obtain ⟨rfl, _, rfl⟩ := Value.slice.inj ev
    rw [World.size_alloc] at hgB
    rw [hxl, World.size_alloc] at HF4
    have c0 := hat 0 (by omega)
    have c1 := hat 1 (by omega)
    have y0 : xs.getD 0 0 = xs[0] := by simp [List.getD, show 0 < xs.length by omega]
    have y1 : xs.getD 1 0 = xs[1] := by simp [List.getD, show 1 < xs.length by omega]
    have Y0 := Lib.hid y0; have Y1 := Lib.hid y1
    generalize xs[0] = n0 at *
    generalize xs[1] = n1 at *
    rw [hxl]
    have hgne : gq ≠ w2.heap.size := by omega
    have D2 : (0 : Int) < (D : Int) := by omega
    have D3 : (1 : Int) < (D : Int) := by omega
    have D4 : 0 < D := by omega
    have D5 : 1 < D := by omega

    clear y0 y1 hat hE
    go_wp2_with fail
    go_region_held3 (fun w' => w'.cell? ⟨w2.heap.size, 2, none⟩ = some (.slice (some ⟨gq, 0, none⟩) D cv) ∧ w'.cell? ⟨gq, 0, none⟩ = some (.float .f64 n0) ∧ w'.cell? ⟨gq, 1, none⟩ = some (.float .f64 n1)) (first | (go_keep; done) | (go_simp; done)) (fail)
    have HQ := Lib.hid (And.intro HI.out.1 (And.intro hxl (And.intro (⟨a, hba, hN⟩ : ∃ a, body = a ++ r ∧ N8 big xs a) (And.intro Y0.out Y1.out))))
    obtain ⟨k0, f0, l0⟩ := L4.out.use
    have HGX := Lib.hid (HF4.out.gd 1 (t : Int) (by omega))
    have HGE : Hid (∀ W, Gd (w2.heap.size + 1 ≤ ·) W (.mk 1 (t : Int) [] []) (.slice none 0 0) (.slice none 0 0)) := Lib.hid fun W => leaf_nil _ W 1 (t : Int)
    clear hba hN hxl HI
    by_cases o0 : FloatKind.f64.format.order n0 n0 = some Ordering.eq <;> by_cases o1 : FloatKind.f64.format.order n1 n1 = some Ordering.eq
    · have b0 : nanB n0 = false := by simp [nanB, o0]
      have p0 : (FloatKind.f64.format.order n0 n0 != some Ordering.eq) = false := by simp [o0]
      have b1 : nanB n1 = false := by simp [nanB, o1]
      have p1 : (FloatKind.f64.format.order n1 n1 != some Ordering.eq) = false := by simp [o1]
      go_wp2_with fail
      refine bodyPost_ret (v := .agg #[.int .i64 1, .int .i64 (t : Int), (.slice (some ⟨gq, 0, none⟩) D cv), .slice none 0 0]) ?_ rfl ⟨(.mk 1 (t : Int) xs []), (.slice (some ⟨gq, 0, none⟩) D cv), .slice none 0 0, r, false, great, rfl, ?_, ?_, ?_, ?_⟩
      · simp [results, Tryz.results50, go_sem, L4.out.use.1]
      · refine Gd.mono (S := (w2.heap.size + 1 ≤ ·)) ?_ (fun b _ hb => by omega)
        repeat (with_reducible first | exact HGX.out | refine Gd.far ?_ (by simp <;> omega) _ _ | refine Gd.dr ?_)
      · repeat (with_reducible first | exact HS4.out | exact HS4.out.mark | refine St.far ?_ (by omega) (by omega) _ _ | refine St.dr ?_ | fail)
      · repeat (with_reducible first | exact HG4.out | refine gr_set ?_ (by first | exact Or.inl rfl | (right; omega)) _ _ | refine gr_dr ?_)
      · first | exact .inr ⟨xs, HQ.out.1, by rw [HD.out]; exact HQ.out.2.1, HQ.out.2.2.1, .inr ⟨rfl, fun _ => .inr ⟨by rw [HQ.out.2.2.2.1, b0], by rw [HQ.out.2.2.2.2, b1]⟩⟩⟩ | exact .inr ⟨xs, HQ.out.1, by rw [HD.out]; exact HQ.out.2.1, HQ.out.2.2.1, .inr rfl⟩
    · have b0 : nanB n0 = false := by simp [nanB, o0]
      have p0 : (FloatKind.f64.format.order n0 n0 != some Ordering.eq) = false := by simp [o0]
      have b1 : nanB n1 = true := by simp [nanB, o1]
      have p1 : (FloatKind.f64.format.order n1 n1 != some Ordering.eq) = true := by simpa using o1
      cases any
      · go_wp2_with fail
        refine bodyPost_ret (v := .agg #[.int .i64 1, .int .i64 (t : Int), (.slice (some ⟨gq, 0, none⟩) D cv), .slice none 0 0]) ?_ rfl ⟨(.mk 1 (t : Int) xs []), (.slice (some ⟨gq, 0, none⟩) D cv), .slice none 0 0, r, true, great, rfl, ?_, ?_, ?_, ?_⟩
        · simp [results, Tryz.results50, go_sem, L4.out.use.1]
        · refine Gd.mono (S := (w2.heap.size + 1 ≤ ·)) ?_ (fun b _ hb => by omega)
          repeat (with_reducible first | exact HGX.out | refine Gd.far ?_ (by simp <;> omega) _ _ | refine Gd.dr ?_)
        · repeat (with_reducible first | exact HS4.out | exact HS4.out.mark | refine St.far ?_ (by omega) (by omega) _ _ | refine St.dr ?_ | refine St.mark (bad := false) ?_)
        · repeat (with_reducible first | exact HG4.out | refine gr_set ?_ (by first | exact Or.inl rfl | (right; omega)) _ _ | refine gr_dr ?_)
        · first | exact .inr ⟨xs, HQ.out.1, by rw [HD.out]; exact HQ.out.2.1, HQ.out.2.2.1, .inr ⟨rfl, fun e => by cases e⟩⟩ | exact .inr ⟨xs, HQ.out.1, by rw [HD.out]; exact HQ.out.2.1, HQ.out.2.2.1, .inr rfl⟩
      · go_wp2_with fail
        refine bodyPost_ret (v := .agg #[.int .i64 1, .int .i64 (t : Int), (.slice (some ⟨gq, 0, none⟩) D cv), .slice none 0 0]) ?_ rfl ⟨(.mk 1 (t : Int) xs []), (.slice (some ⟨gq, 0, none⟩) D cv), .slice none 0 0, r, false, great, rfl, ?_, ?_, ?_, ?_⟩
        · simp [results, Tryz.results50, go_sem, L4.out.use.1]
        · refine Gd.mono (S := (w2.heap.size + 1 ≤ ·)) ?_ (fun b _ hb => by omega)
          repeat (with_reducible first | exact HGX.out | refine Gd.far ?_ (by simp <;> omega) _ _ | refine Gd.dr ?_)
        · repeat (with_reducible first | exact HS4.out | exact HS4.out.mark | refine St.far ?_ (by omega) (by omega) _ _ | refine St.dr ?_ | fail)
        · repeat (with_reducible first | exact HG4.out | refine gr_set ?_ (by first | exact Or.inl rfl | (right; omega)) _ _ | refine gr_dr ?_)
        · first | exact .inr ⟨xs, HQ.out.1, by rw [HD.out]; exact HQ.out.2.1, HQ.out.2.2.1, .inr ⟨rfl, fun _ => .inl (by first | rfl | trivial)⟩⟩ | exact .inr ⟨xs, HQ.out.1, by rw [HD.out]; exact HQ.out.2.1, HQ.out.2.2.1, .inr rfl⟩
    · have b0 : nanB n0 = true := by simp [nanB, o0]
      have p0 : (FloatKind.f64.format.order n0 n0 != some Ordering.eq) = true := by simpa using o0
      have b1 : nanB n1 = false := by simp [nanB, o1]
      have p1 : (FloatKind.f64.format.order n1 n1 != some Ordering.eq) = false := by simp [o1]
      cases any
      · go_wp2_with fail
        refine bodyPost_ret (v := .agg #[.int .i64 1, .int .i64 (t : Int), (.slice (some ⟨gq, 0, none⟩) D cv), .slice none 0 0]) ?_ rfl ⟨(.mk 1 (t : Int) xs []), (.slice (some ⟨gq, 0, none⟩) D cv), .slice none 0 0, r, true, great, rfl, ?_, ?_, ?_, ?_⟩
        · simp [results, Tryz.results50, go_sem, L4.out.use.1]
        · refine Gd.mono (S := (w2.heap.size + 1 ≤ ·)) ?_ (fun b _ hb => by omega)
          repeat (with_reducible first | exact HGX.out | refine Gd.far ?_ (by simp <;> omega) _ _ | refine Gd.dr ?_)
        · repeat (with_reducible first | exact HS4.out | exact HS4.out.mark | refine St.far ?_ (by omega) (by omega) _ _ | refine St.dr ?_ | refine St.mark (bad := false) ?_)
        · repeat (with_reducible first | exact HG4.out | refine gr_set ?_ (by first | exact Or.inl rfl | (right; omega)) _ _ | refine gr_dr ?_)
        · first | exact .inr ⟨xs, HQ.out.1, by rw [HD.out]; exact HQ.out.2.1, HQ.out.2.2.1, .inr ⟨rfl, fun e => by cases e⟩⟩ | exact .inr ⟨xs, HQ.out.1, by rw [HD.out]; exact HQ.out.2.1, HQ.out.2.2.1, .inr rfl⟩
      · go_wp2_with fail
        refine bodyPost_ret (v := .agg #[.int .i64 1, .int .i64 (t : Int), (.slice (some ⟨gq, 0, none⟩) D cv), .slice none 0 0]) ?_ rfl ⟨(.mk 1 (t : Int) xs []), (.slice (some ⟨gq, 0, none⟩) D cv), .slice none 0 0, r, false, great, rfl, ?_, ?_, ?_, ?_⟩
        · simp [results, Tryz.results50, go_sem, L4.out.use.1]
        · refine Gd.mono (S := (w2.heap.size + 1 ≤ ·)) ?_ (fun b _ hb => by omega)
          repeat (with_reducible first | exact HGX.out | refine Gd.far ?_ (by simp <;> omega) _ _ | refine Gd.dr ?_)
        · repeat (with_reducible first | exact HS4.out | exact HS4.out.mark | refine St.far ?_ (by omega) (by omega) _ _ | refine St.dr ?_ | fail)
        · repeat (with_reducible first | exact HG4.out | refine gr_set ?_ (by first | exact Or.inl rfl | (right; omega)) _ _ | refine gr_dr ?_)
        · first | exact .inr ⟨xs, HQ.out.1, by rw [HD.out]; exact HQ.out.2.1, HQ.out.2.2.1, .inr ⟨rfl, fun _ => .inl (by first | rfl | trivial)⟩⟩ | exact .inr ⟨xs, HQ.out.1, by rw [HD.out]; exact HQ.out.2.1, HQ.out.2.2.1, .inr rfl⟩
    · have b0 : nanB n0 = true := by simp [nanB, o0]
      have p0 : (FloatKind.f64.format.order n0 n0 != some Ordering.eq) = true := by simpa using o0
      have b1 : nanB n1 = true := by simp [nanB, o1]
      have p1 : (FloatKind.f64.format.order n1 n1 != some Ordering.eq) = true := by simpa using o1
      go_wp2_with fail
      refine bodyPost_ret (v := .agg #[.int .i64 1, .int .i64 (t : Int), (.slice none 0 0), .slice none 0 0]) ?_ rfl ⟨(.mk 1 (t : Int) [] []), (.slice none 0 0), .slice none 0 0, r, false, great, rfl, ?_, ?_, ?_, ?_⟩
      · simp [results, Tryz.results50, go_sem, L4.out.use.1]
      · refine Gd.mono (S := (w2.heap.size + 1 ≤ ·)) ?_ (fun b _ hb => by omega)
        repeat (with_reducible first | exact HGE.out _ | refine Gd.far ?_ (by simp <;> omega) _ _ | refine Gd.dr ?_)
      · repeat (with_reducible first | exact HS4.out | exact HS4.out.mark | refine St.far ?_ (by omega) (by omega) _ _ | refine St.dr ?_ | fail)
      · repeat (with_reducible first | exact HG4.out | refine gr_set ?_ (by first | exact Or.inl rfl | (right; omega)) _ _ | refine gr_dr ?_)
      · exact .inr ⟨xs, HQ.out.1, by rw [HD.out]; exact HQ.out.2.1, HQ.out.2.2.1, .inl ⟨by rw [HQ.out.2.2.2.1, b0], by rw [HQ.out.2.2.2.2, b1], rfl, rfl⟩⟩
  · obtain ⟨k0, f0, l0⟩ := L4.out.use
    go_wp2_with fail
    refine bodyPost_ret (v := .agg #[.int .i64 0, .int .i64 0, (.slice none 0 0), .slice none 0 0]) ?_ rfl ⟨zeroG, (.slice none 0 0), .slice none 0 0, r, true, great, rfl, ?_, ?_, ?_, ?_⟩
    · simp [results, Tryz.results50, go_sem, L4.out.use.1]
    · refine Gd.mono (S := (w2.heap.size + 1 ≤ ·)) ?_ (fun b _ hb => by omega)
      repeat (with_reducible first | exact zeroG_gd _ _ | refine Gd.far ?_ (by simp <;> omega) _ _ | refine Gd.dr ?_)
    · repeat (with_reducible first | exact HS4.out | exact HS4.out.mark | refine St.far ?_ (by omega) (by omega) _ _ | refine St.dr ?_ | fail)
    · repeat (with_reducible first | exact HG4.out | refine gr_set ?_ (by first | exact Or.inl rfl | (right; omega)) _ _ | refine gr_dr ?_)
    · exact .inl ⟨rfl, rfl⟩
set_option maxHeartbeats 8000000 in
theorem c50_pt_3 (P B : Nat) (great : Bool) (kind : Int) (x : UInt8) (l4 body : List UInt8) (cc t : Nat) (w : World) (h4 : l4.length = 4) (hc : decB (x == 0) l4 = cc) (hx : x.toNat ≤ 1) (hq : 0 ≤ kind) (hne : kind ≠ 1)(ht : t ≤ 3) (hkk : (cc : Int) % 1000 = 1) (htt : (cc : Int) / 1000 = (t : Int)) (h : St P B true false great (x :: (l4 ++ body)) w) :
    Calls Tryz.prog 50 #[.pointer (some ⟨P, 0, none⟩), .int .i64 kind] w (GeomQ P B true great w (fun g r bad' => (bad' = true ∧ g = zeroG) ∨ ∃ xs : List Nat, (∀ n ∈ xs, n < 18446744073709551616) ∧ xs.length = dN (t : Int) ∧ (∃ a, body = a ++ r ∧ N8 (x == 0) xs a) ∧
      ((nanB (xs.getD 0 0) = true ∧ nanB (xs.getD 1 0) = true ∧ g = .mk 1 (t : Int) [] [] ∧ bad' = false) ∨ (g = .mk 1 (t : Int) xs [] ∧ (bad' = false → true = true ∨ (nanB (xs.getD 0 0) = false ∧ nanB (xs.getD 1 0) = false)))))) := by
  have hP := h.lt
  have hB := h.uses.2.2.2.2.2
  have HA := Lib.hid (one_byte x ▸ c116_ok P B 1 false true great [x] (l4 ++ body) _ rfl (by omega) (by omega) (h.al (.cells #[.int .i64 0, .int .i64 0, .slice none 0 0, .slice none 0 0] 25)) : _)
  have HB := Lib.hid fun (w1 : World) hs => (hc ▸ c116_ok P B 4 (x == 0) true great l4 body w1 h4 (by omega) (by omega) hs : _)
  have L0 := Lib.hid (Lb.new w #[.int .i64 0, .int .i64 0, .slice none 0 0, .slice none 0 0] 25)
  have hx0 := order_big x
  have hcl := decB_lt (x == 0) l4
  rw [h4, hc] at hcl
  have hb1 : decide ((1 : Int) < (x.toNat : Int)) = false := decide_eq_false (by omega)
  have hb4 : decide (3 < (t : Int)) = false := decide_eq_false (by omega)
  have hq0 : decide (0 ≤ kind) = true := decide_eq_true hq
  have hq1 : ((1 : Int) != kind) = true := by simpa using fun e => hne e.symm
  clear h hx h4 hc
  generalize (x == 0) = big at *
  go_enter Tryz.func50, Tryz.ntmps50
  go_wp2_with fail
  refine HA.out.mono ?_
  rintro _ w1 ⟨rfl, hs1, hg1⟩
  have HB1 := Lib.hid (HB.out w1 hs1)
  have L1 := Lib.hid (L0.out.grown hg1 (fun e => by have := Option.some.inj e; omega))
  have HG1 := Lib.hid (grown_more (gr_alloc (gr_refl w P) (.cells #[.int .i64 0, .int .i64 0, .slice none 0 0, .slice none 0 0] 25)) hg1 (fun q e => .inl (Option.some.inj e).symm))
  clear hs1 hg1 L0 HA HB
  go_wp2_with fail
  refine HB1.out.mono ?_
  rintro _ w2 ⟨rfl, hs2, hg2⟩
  have L2 := Lib.hid (L1.out.grown hg2 (fun e => by have := Option.some.inj e; omega))
  have HG2 := Lib.hid (grown_more HG1.out hg2 (fun q e => .inl (Option.some.inj e).symm))
  have HS2 := Lib.hid hs2
  obtain ⟨k1, k2, k3, f2, lP, lB⟩ := hs2.uses
  have hsz := HG2.out.size
  have lr := L2.out.use.2.2
  have hPn : ¬ w.heap.size = P := by omega
  clear hs2 hg2 HB1 L1 HG1
  have hcv : IntKind.i64.wrap ((cc : Nat) : Int) = (cc : Int) := IntWalk.i64_in _ (by omega)
  have hdl := dN_bd (t : Int)
  have H31 := Lib.hid fun (w : World) => (show Calls Tryz.prog 31 #[.int .i64 (t : Int)] w fun e w' => e = .returned (.int .i64 (dN (t : Int) : Int)) ∧ w = w' from (c31 (t : Int) w).mono fun e w' h => ⟨by rw [h.1, dN_eq], h.2⟩)
  have H117 := Lib.hid (c117 P B (dN (t : Int)) big true false great body _ (by omega) (HS2.out.al (.cells #[.int .i64 1, .int .i64 (t : Int), .slice none 0 0, .slice none 0 0] 25)))
  have L8 := Lib.hid (Lb.new w2 #[.int .i64 1, .int .i64 (t : Int), .slice none 0 0, .slice none 0 0] 25)
  have HG3 := Lib.hid (gr_alloc HG2.out (.cells #[.int .i64 1, .int .i64 (t : Int), .slice none 0 0, .slice none 0 0] 25))
  have L3 := Lib.hid (L2.out.alloc (.cells #[.int .i64 1, .int .i64 (t : Int), .slice none 0 0, .slice none 0 0] 25))
  generalize hD : dN (t : Int) = D at *
  have HD := Lib.hid hD
  clear hD
  go_wp2_with fail
  refine (H31.out _).mono ?_
  rintro _ _ ⟨rfl, rfl⟩
  clear k1 k2 k3 f2 HS2 L2 HG2
  go_wp2_with fail
  refine H117.out.mono ?_
  rintro _ w4 ⟨xs, r, bad', v, rfl, hF, hS, hG, i1, i2, i3, i4, i5, i6⟩
  have hs4 := hG.size
  rw [World.size_alloc] at hs4
  have L4 := Lib.hid (L3.out.grown hG (fun e => by have := Option.some.inj e; omega))
  have L9 := Lib.hid (L8.out.grown hG (fun e => by have := Option.some.inj e; omega))
  have HG4 := Lib.hid (grown_more HG3.out hG (fun q e => .inl (Option.some.inj e).symm))
  have HS4 := Lib.hid hS; have HF4 := Lib.hid hF; have HI := Lib.hid (And.intro i1 (And.intro i3 i6))
  obtain ⟨k9, f9, l9⟩ := L9.out.use
  obtain ⟨q1, q2, q3, f2, lP4, lB4⟩ := hS.uses
  obtain ⟨av, cv, rfl⟩ := hF.shape
  clear H117 hF hS hG i1 i2 i3 i5 i6 L3 L8 HG3
  cases bad'
  · have hE := Lib.hid (HI.out.2.2 rfl)
    obtain ⟨_, hxl, a, hba, hN⟩ := hE.out
    obtain ⟨gq, cap, ev, hgB, hgl, hat⟩ := HF4.out.cells (by omega)
    obtain ⟨rfl, _, rfl⟩ := Value.slice.inj ev
    rw [World.size_alloc] at hgB
    rw [hxl, World.size_alloc] at HF4
    have c0 := hat 0 (by omega)
    have c1 := hat 1 (by omega)
    have y0 : xs.getD 0 0 = xs[0] := by simp [List.getD, show 0 < xs.length by omega]
    have y1 : xs.getD 1 0 = xs[1] := by simp [List.getD, show 1 < xs.length by omega]
    have Y0 := Lib.hid y0; have Y1 := Lib.hid y1
    generalize xs[0] = n0 at *
    generalize xs[1] = n1 at *
    rw [hxl]
    have hgne : gq ≠ w2.heap.size := by omega
    have D2 : (0 : Int) < (D : Int) := by omega
    have D3 : (1 : Int) < (D : Int) := by omega
    have D4 : 0 < D := by omega
    have D5 : 1 < D := by omega

    clear y0 y1 hat hE
    go_wp2_with fail
    go_region_held3 (fun w' => w'.cell? ⟨w2.heap.size, 2, none⟩ = some (.slice (some ⟨gq, 0, none⟩) D cv) ∧ w'.cell? ⟨gq, 0, none⟩ = some (.float .f64 n0) ∧ w'.cell? ⟨gq, 1, none⟩ = some (.float .f64 n1)) (first | (go_keep; done) | (go_simp; done)) (fail)
    have HQ := Lib.hid (And.intro HI.out.1 (And.intro hxl (And.intro (⟨a, hba, hN⟩ : ∃ a, body = a ++ r ∧ N8 big xs a) (And.intro Y0.out Y1.out))))
    obtain ⟨k0, f0, l0⟩ := L4.out.use
    have HGX := Lib.hid (HF4.out.gd 1 (t : Int) (by omega))
    have HGE : Hid (∀ W, Gd (w2.heap.size + 1 ≤ ·) W (.mk 1 (t : Int) [] []) (.slice none 0 0) (.slice none 0 0)) := Lib.hid fun W => leaf_nil _ W 1 (t : Int)
    clear hba hN hxl HI
    by_cases o0 : FloatKind.f64.format.order n0 n0 = some Ordering.eq <;> by_cases o1 : FloatKind.f64.format.order n1 n1 = some Ordering.eq
    · have b0 : nanB n0 = false := by simp [nanB, o0]
      have p0 : (FloatKind.f64.format.order n0 n0 != some Ordering.eq) = false := by simp [o0]
      have b1 : nanB n1 = false := by simp [nanB, o1]
      have p1 : (FloatKind.f64.format.order n1 n1 != some Ordering.eq) = false := by simp [o1]
      go_wp2_with fail
      refine bodyPost_ret (v := .agg #[.int .i64 1, .int .i64 (t : Int), (.slice (some ⟨gq, 0, none⟩) D cv), .slice none 0 0]) ?_ rfl ⟨(.mk 1 (t : Int) xs []), (.slice (some ⟨gq, 0, none⟩) D cv), .slice none 0 0, r, false, great, rfl, ?_, ?_, ?_, ?_⟩
      · simp [results, Tryz.results50, go_sem, L4.out.use.1]
      · refine Gd.mono (S := (w2.heap.size + 1 ≤ ·)) ?_ (fun b _ hb => by omega)
        repeat (with_reducible first | exact HGX.out | refine Gd.far ?_ (by simp <;> omega) _ _ | refine Gd.dr ?_)
      · repeat (with_reducible first | exact HS4.out | exact HS4.out.mark | refine St.far ?_ (by omega) (by omega) _ _ | refine St.dr ?_ | fail)
      · repeat (with_reducible first | exact HG4.out | refine gr_set ?_ (by first | exact Or.inl rfl | (right; omega)) _ _ | refine gr_dr ?_)
      · first | exact .inr ⟨xs, HQ.out.1, by rw [HD.out]; exact HQ.out.2.1, HQ.out.2.2.1, .inr ⟨rfl, fun _ => .inr ⟨by rw [HQ.out.2.2.2.1, b0], by rw [HQ.out.2.2.2.2, b1]⟩⟩⟩ | exact .inr ⟨xs, HQ.out.1, by rw [HD.out]; exact HQ.out.2.1, HQ.out.2.2.1, .inr rfl⟩
    · have b0 : nanB n0 = false := by simp [nanB, o0]
      have p0 : (FloatKind.f64.format.order n0 n0 != some Ordering.eq) = false := by simp [o0]
      have b1 : nanB n1 = true := by simp [nanB, o1]
      have p1 : (FloatKind.f64.format.order n1 n1 != some Ordering.eq) = true := by simpa using o1
      go_wp2_with fail
      refine bodyPost_ret (v := .agg #[.int .i64 1, .int .i64 (t : Int), (.slice (some ⟨gq, 0, none⟩) D cv), .slice none 0 0]) ?_ rfl ⟨(.mk 1 (t : Int) xs []), (.slice (some ⟨gq, 0, none⟩) D cv), .slice none 0 0, r, false, great, rfl, ?_, ?_, ?_, ?_⟩
      · simp [results, Tryz.results50, go_sem, L4.out.use.1]
      · refine Gd.mono (S := (w2.heap.size + 1 ≤ ·)) ?_ (fun b _ hb => by omega)
        repeat (with_reducible first | exact HGX.out | refine Gd.far ?_ (by simp <;> omega) _ _ | refine Gd.dr ?_)
      · repeat (with_reducible first | exact HS4.out | exact HS4.out.mark | refine St.far ?_ (by omega) (by omega) _ _ | refine St.dr ?_ | fail)
      · repeat (with_reducible first | exact HG4.out | refine gr_set ?_ (by first | exact Or.inl rfl | (right; omega)) _ _ | refine gr_dr ?_)
      · first | exact .inr ⟨xs, HQ.out.1, by rw [HD.out]; exact HQ.out.2.1, HQ.out.2.2.1, .inr ⟨rfl, fun _ => .inl (by first | rfl | trivial)⟩⟩ | exact .inr ⟨xs, HQ.out.1, by rw [HD.out]; exact HQ.out.2.1, HQ.out.2.2.1, .inr rfl⟩
    · have b0 : nanB n0 = true := by simp [nanB, o0]
      have p0 : (FloatKind.f64.format.order n0 n0 != some Ordering.eq) = true := by simpa using o0
      have b1 : nanB n1 = false := by simp [nanB, o1]
      have p1 : (FloatKind.f64.format.order n1 n1 != some Ordering.eq) = false := by simp [o1]
      go_wp2_with fail
      refine bodyPost_ret (v := .agg #[.int .i64 1, .int .i64 (t : Int), (.slice (some ⟨gq, 0, none⟩) D cv), .slice none 0 0]) ?_ rfl ⟨(.mk 1 (t : Int) xs []), (.slice (some ⟨gq, 0, none⟩) D cv), .slice none 0 0, r, false, great, rfl, ?_, ?_, ?_, ?_⟩
      · simp [results, Tryz.results50, go_sem, L4.out.use.1]
      · refine Gd.mono (S := (w2.heap.size + 1 ≤ ·)) ?_ (fun b _ hb => by omega)
        repeat (with_reducible first | exact HGX.out | refine Gd.far ?_ (by simp <;> omega) _ _ | refine Gd.dr ?_)
      · repeat (with_reducible first | exact HS4.out | exact HS4.out.mark | refine St.far ?_ (by omega) (by omega) _ _ | refine St.dr ?_ | fail)
      · repeat (with_reducible first | exact HG4.out | refine gr_set ?_ (by first | exact Or.inl rfl | (right; omega)) _ _ | refine gr_dr ?_)
      · first | exact .inr ⟨xs, HQ.out.1, by rw [HD.out]; exact HQ.out.2.1, HQ.out.2.2.1, .inr ⟨rfl, fun _ => .inl (by first | rfl | trivial)⟩⟩ | exact .inr ⟨xs, HQ.out.1, by rw [HD.out]; exact HQ.out.2.1, HQ.out.2.2.1, .inr rfl⟩
    · have b0 : nanB n0 = true := by simp [nanB, o0]
      have p0 : (FloatKind.f64.format.order n0 n0 != some Ordering.eq) = true := by simpa using o0
      have b1 : nanB n1 = true := by simp [nanB, o1]
      have p1 : (FloatKind.f64.format.order n1 n1 != some Ordering.eq) = true := by simpa using o1
      go_wp2_with fail
      refine bodyPost_ret (v := .agg #[.int .i64 1, .int .i64 (t : Int), (.slice none 0 0), .slice none 0 0]) ?_ rfl ⟨(.mk 1 (t : Int) [] []), (.slice none 0 0), .slice none 0 0, r, false, great, rfl, ?_, ?_, ?_, ?_⟩
      · simp [results, Tryz.results50, go_sem, L4.out.use.1]
      · refine Gd.mono (S := (w2.heap.size + 1 ≤ ·)) ?_ (fun b _ hb => by omega)
        repeat (with_reducible first | exact HGE.out _ | refine Gd.far ?_ (by simp <;> omega) _ _ | refine Gd.dr ?_)
      · repeat (with_reducible first | exact HS4.out | exact HS4.out.mark | refine St.far ?_ (by omega) (by omega) _ _ | refine St.dr ?_ | fail)
      · repeat (with_reducible first | exact HG4.out | refine gr_set ?_ (by first | exact Or.inl rfl | (right; omega)) _ _ | refine gr_dr ?_)
      · exact .inr ⟨xs, HQ.out.1, by rw [HD.out]; exact HQ.out.2.1, HQ.out.2.2.1, .inl ⟨by rw [HQ.out.2.2.2.1, b0], by rw [HQ.out.2.2.2.2, b1], rfl, rfl⟩⟩
  · obtain ⟨k0, f0, l0⟩ := L4.out.use
    go_wp2_with fail
    refine bodyPost_ret (v := .agg #[.int .i64 0, .int .i64 0, (.slice none 0 0), .slice none 0 0]) ?_ rfl ⟨zeroG, (.slice none 0 0), .slice none 0 0, r, true, great, rfl, ?_, ?_, ?_, ?_⟩
    · simp [results, Tryz.results50, go_sem, L4.out.use.1]
    · refine Gd.mono (S := (w2.heap.size + 1 ≤ ·)) ?_ (fun b _ hb => by omega)
      repeat (with_reducible first | exact zeroG_gd _ _ | refine Gd.far ?_ (by simp <;> omega) _ _ | refine Gd.dr ?_)
    · repeat (with_reducible first | exact HS4.out | exact HS4.out.mark | refine St.far ?_ (by omega) (by omega) _ _ | refine St.dr ?_ | fail)
    · repeat (with_reducible first | exact HG4.out | refine gr_set ?_ (by first | exact Or.inl rfl | (right; omega)) _ _ | refine gr_dr ?_)
    · exact .inl ⟨rfl, rfl⟩
end Go.Proofs.YtahnhhkbdgaidaaGreatDoor
