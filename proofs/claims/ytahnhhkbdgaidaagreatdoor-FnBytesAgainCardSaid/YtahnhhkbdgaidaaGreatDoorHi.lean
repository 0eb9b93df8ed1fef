/-
  The reference's reader of binary forms: parts.
-/
import Derived.Test.YtahnhhkbdgaidaaGreatDoorKbj
import Derived.Test.YtahnhhkbdgaidaaGreatDoorHh
import Derived.Test.YtahnhhkbdgaidaaGreatDoorHl
namespace Go.Proofs.YtahnhhkbdgaidaaGreatDoor
open Go.RowKit
set_option maxRecDepth 100000
/-- A number of eight bytes. -/
def eightQ (n : Nat) : Prop := n < 18446744073709551616
theorem eightQ_zero : eightQ 0 := by unfold eightQ; omega
mutual
theorem small_of_every : ∀ g : G, g.every eightQ → g.small
  | .mk k d ns ks, h => by
    simp only [G.every] at h
    simp only [G.small]
    exact ⟨h.1, smallL_of_every ks h.2⟩
theorem smallL_of_every : ∀ l : List G, G.everyL eightQ l → G.smallL l
  | [], _ => by simp [G.smallL]
  | g :: r, h => by
    simp only [G.everyL] at h
    simp only [G.smallL]
    exact ⟨small_of_every g h.1, smallL_of_every r h.2⟩
end
theorem again_law (m : G) (hw : m.wt ≤ 3000) (hs : m.every eightQ) (hn : numB (newG m) = true) :
    m.ok ∧ (newG m).ok ∧ (newG m).fit ∧ (wkB (geoOf (newG m))).length ≤ 300000 ∧ Enc (· = 1) (newG m) (wkB (geoOf (newG m))) ∧ (geoOf (newG m)).toG = newG m ∧ (geoOf m).toG = newG m := by
  have hok := wt_ok m (by omega)
  have hp := newG_pw m
  have hg := newG_good m
  have hok2 := good_ok _ hg (by omega)
  have hev := every_of _ (small_of_every _ (newG_every eightQ_zero m hs)) hn
  have hback : (geoOf (newG m)).toG = newG m := by rw [← newG_geo _ hok2, newG_of_good _ hg]
  have ew : wkG (newG m) = wkB (geoOf (newG m)) := by
    have := wkG_geo _ (geoOf_ok _ hok2)
    rw [hback] at this; exact this
  have hl := wkG_len (newG m)
  exact ⟨hok, hok2, fit_of _ hok2 hev, by rw [← ew]; omega, by rw [← ew]; exact enc_wk _ hg hok2 hev, hback, (newG_geo m hok).symm⟩
/-- What is known of what is read. -/
def GQ (any : Bool) (kind : Int) (l : List UInt8) (g : G) (r : List UInt8) (bad' : Bool) : Prop := g.every eightQ ∧ (bad' = true → g.wt ≤ l.length + 1) ∧ (bad' = false → g.wt + r.length ≤ l.length ∧ (any = false → ∃ a, l = a ++ r ∧ Enc (fun x => x = 0 ∨ x = 1) g a ∧ (kind < 0 ∨ g.kind = kind)))
/-- What is known of the parts that have been read: F tells what the bytes of the parts are. -/
def KQ (any : Bool) (F : List G → List UInt8 → Prop) (l : List UInt8) (ks : List G) (r : List UInt8) (bad' : Bool) : Prop := (∀ g ∈ ks, g.every eightQ) ∧ (bad' = true → G.wtL ks ≤ l.length + 1) ∧ (bad' = false → G.wtL ks + r.length ≤ l.length ∧ (any = false → ∃ a, l = a ++ r ∧ F ks a))
theorem wtL_snoc : ∀ (ks : List G) (g : G), G.wtL (ks ++ [g]) = G.wtL ks + g.wt
  | [], g => by simp [G.wtL]
  | x :: r, g => by simp only [List.cons_append, G.wtL, wtL_snoc r g]; omega
theorem KQ.nil (any : Bool) (F : List G → List UInt8 → Prop) (l : List UInt8) (b : Bool) (h : F [] []) : KQ any F l [] l b := ⟨by simp, fun _ => by simp [G.wtL], fun _ => ⟨by simp [G.wtL], fun _ => ⟨[], rfl, h⟩⟩⟩
/-- One part more. -/
theorem KQ.snoc {any : Bool} {F : List G → List UInt8 → Prop} {l r r' : List UInt8} {ks : List G} {g : G} {bad' : Bool} (h : KQ any F l ks r false) (h1 : g.every eightQ) (h2 : bad' = true → g.wt ≤ r.length + 1) (h3 : bad' = false → g.wt + r'.length ≤ r.length)
    (h4 : bad' = false → any = false → ∀ a, F ks a → ∃ b, r = b ++ r' ∧ F (ks ++ [g]) (a ++ b)) : KQ any F l (ks ++ [g]) r' bad' := by
  obtain ⟨i1, _, i3⟩ := h
  obtain ⟨i4, i5⟩ := i3 rfl
  refine ⟨fun x hx => ?_, fun e => ?_, fun e => ⟨?_, fun ea => ?_⟩⟩
  · rcases List.mem_append.1 hx with hx | hx
    · exact i1 x hx
    · rw [List.mem_singleton.1 hx]; exact h1
  · rw [wtL_snoc]; have := h2 e; omega
  · rw [wtL_snoc]; have := h3 e; omega
  · obtain ⟨a, rfl, hF⟩ := i5 ea
    obtain ⟨b, rfl, hF2⟩ := h4 e ea a hF
    exact ⟨a ++ b, by rw [List.append_assoc], hF2⟩
theorem GQ.part {any : Bool} {kind : Int} {F : List G → List UInt8 → Prop} {l r r' : List UInt8} {ks : List G} {g : G} {bad' : Bool} (h : KQ any F l ks r false) (hg : GQ any kind r g r' bad') (hF : ∀ a b, F ks a → Enc (fun x => x = 0 ∨ x = 1) g b → (kind < 0 ∨ g.kind = kind) → F (ks ++ [g]) (a ++ b)) : KQ any F l (ks ++ [g]) r' bad' :=
  h.snoc hg.1 hg.2.1 (fun e => (hg.2.2 e).1) fun e ea a ha => by
    obtain ⟨b, e1, e2, e3⟩ := (hg.2.2 e).2 ea
    exact ⟨b, e1, hF a b ha e2 e3⟩
/-- The bytes of parts of a kind. -/
def FK (kd : Int) (ks : List G) (a : List UInt8) : Prop := EncL (fun x => x = 0 ∨ x = 1) ks a ∧ ∀ g ∈ ks, kd < 0 ∨ g.kind = kd
theorem EncL_snoc (A : UInt8 → Prop) : ∀ (ks : List G) (a b : List UInt8) (g : G), EncL A ks a → Enc A g b → EncL A (ks ++ [g]) (a ++ b)
  | [], a, b, g, h, hg => by
    simp only [EncL] at h
    subst h
    simp only [List.nil_append, EncL]
    exact ⟨b, [], by simp, hg, rfl⟩
  | x :: r, a, b, g, h, hg => by
    simp only [EncL] at h
    obtain ⟨a1, a2, rfl, h1, h2⟩ := h
    simp only [List.cons_append, EncL]
    exact ⟨a1, a2 ++ b, by rw [List.append_assoc], h1, EncL_snoc A r a2 b g h2 hg⟩
theorem FK.snoc {kd : Int} {ks : List G} {a b : List UInt8} {g : G} (h : FK kd ks a) (hg : Enc (fun x => x = 0 ∨ x = 1) g b) (hk : kd < 0 ∨ g.kind = kd) : FK kd (ks ++ [g]) (a ++ b) :=
  ⟨EncL_snoc _ ks a b g h.1 hg, fun x hx => by
    rcases List.mem_append.1 hx with hx | hx
    · exact h.2 x hx
    · rw [List.mem_singleton.1 hx]; exact hk⟩
theorem FK.nil (kd : Int) : FK kd [] [] := ⟨by simp [EncL], by simp⟩
/-- A count's bytes, then the parts'. -/
def PQ (any big : Bool) (F : List G → List UInt8 → Prop) (body : List UInt8) (k' t : Int) (g : G) (r : List UInt8) (bad' : Bool) : Prop := ∃ ks : List G, g = .mk k' t [] ks ∧ (∀ g ∈ ks, g.every eightQ) ∧ (bad' = true → G.wtL ks ≤ body.length + 1) ∧
  (bad' = false → G.wtL ks + r.length + 4 ≤ body.length ∧ (any = false → ∃ c4 a : List UInt8, body = c4 ++ (a ++ r) ∧ c4.length = 4 ∧ decB big c4 = ks.length ∧ F ks a))
theorem PQ.of {any big : Bool} {F : List G → List UInt8 → Prop} {body r1 r : List UInt8} {k' t : Int} {ks : List G} {n : Nat} {bad1 bad' : Bool} (hn : r1.length ≤ body.length ∧ ((bad1 = true ∧ n = 0) ∨ (bad1 = false ∧ ∃ a, body = a ++ r1 ∧ a.length = 4 ∧ n = decB big a)))
    (h : KQ any F r1 ks r bad') (hb : bad' = false → bad1 = false) (he : bad' = false → ks.length = n) : PQ any big F body k' t (.mk k' t [] ks) r bad' := by
  obtain ⟨h1, h2⟩ := hn
  obtain ⟨i1, i2, i3⟩ := h
  refine ⟨ks, rfl, i1, fun e => by have := i2 e; omega, fun e => ?_⟩
  have e1 := hb e
  have e2 := he e
  obtain ⟨i4, i5⟩ := i3 e
  rcases h2 with ⟨h3, _⟩ | ⟨_, c4, rfl, hc, hd⟩
  · rw [e1] at h3; cases h3
  · refine ⟨by rw [List.length_append]; omega, fun ea => ?_⟩
    obtain ⟨a, rfl, hF⟩ := i5 ea
    exact ⟨c4, a, rfl, hc, by rw [← hd, e2], hF⟩
/-- The order of bytes as a number. -/
def ordI (big : Bool) : Int := if big then 0 else 1
theorem dec_ord (big : Bool) (l : List UInt8) : dec (ordI big) l = decB big l := by cases big <;> simp [ordI, dec, decB]
theorem N8.f8 {big : Bool} {xs : List Nat} {l : List UInt8} (h : N8 big xs l) : F8 (ordI big) xs l := ⟨h.1, fun i hi => by rw [dec_ord]; exact h.2 i hi⟩
theorem RingsE_snoc (bo t : Int) : ∀ (ks : List G) (a b : List UInt8) (g : G), RingsE bo t ks a → g.kind = 2 ∧ g.dim = t ∧ g.kids = [] ∧ SeqE bo t g.nums b → RingsE bo t (ks ++ [g]) (a ++ b)
  | [], a, b, g, h, hg => by
    simp only [RingsE] at h
    subst h
    simp only [List.nil_append, RingsE]
    exact ⟨b, [], by simp, hg, rfl⟩
  | x :: r, a, b, g, h, hg => by
    simp only [RingsE] at h
    obtain ⟨a1, a2, rfl, h1, h2⟩ := h
    simp only [List.cons_append, RingsE]
    exact ⟨a1, a2 ++ b, by rw [List.append_assoc], h1, RingsE_snoc bo t r a2 b g h2 hg⟩
theorem ring_q {any big : Bool} {t nv N D : Nat} {l r r6 r7 : List UInt8} {ks : List G} {xs : List Nat} {bad6 bad7 : Bool} (h : KQ any (RingsE (ordI big) (t : Int)) l ks r false)
    (hc : nv ≤ 4096 ∧ r6.length ≤ r.length ∧ ((bad6 = true ∧ nv = 0) ∨ (bad6 = false ∧ ∃ a, r = a ++ r6 ∧ a.length = 4 ∧ nv = decB big a)))
    (i1 : ∀ x ∈ xs, x < 18446744073709551616) (i3 : 8 * xs.length + r7.length ≤ r6.length + 8) (i5 : bad6 = true → bad7 = true ∧ xs = []) (i6 : bad7 = false → bad6 = false ∧ xs.length = N ∧ ∃ a, r6 = a ++ r7 ∧ N8 big xs a) (hD : dN (t : Int) = D) (hN : N = nv * D) :
    KQ any (RingsE (ordI big) (t : Int)) l (ks ++ [.mk 2 (t : Int) xs []]) r7 bad7 := by
  obtain ⟨h1, h2, h3⟩ := hc
  have hw : (G.mk 2 (t : Int) xs []).wt = 1 + xs.length := by simp [G.wt, G.wtL]
  refine h.snoc (by simp only [G.every, G.everyL, and_true]; exact i1) (fun e => ?_) (fun e => ?_) fun e ea a ha => ?_
  · rw [hw]
    rcases h3 with ⟨h3, _⟩ | ⟨_, a, rfl, ha, _⟩
    · rw [(i5 h3).2]; simp
    · simp [ha]; omega
  · obtain ⟨h6, h7, f, rfl, hf⟩ := i6 e
    rw [hw]
    rcases h3 with ⟨h3, _⟩ | ⟨_, a, rfl, ha, _⟩
    · rw [h6] at h3; cases h3
    · have := hf.1; simp [ha]; omega
  · obtain ⟨h6, h7, f, rfl, hf⟩ := i6 e
    rcases h3 with ⟨h3, _⟩ | ⟨_, c4, rfl, hc, hd⟩
    · rw [h6] at h3; cases h3
    · exact ⟨c4 ++ f, by rw [List.append_assoc], RingsE_snoc _ _ _ _ _ _ ha ⟨rfl, rfl, rfl, c4, f, nv, rfl, hc, by rw [dec_ord]; exact hd.symm, by show nv * dN (t : Int) = xs.length; rw [hD, h7, hN], hf.f8⟩⟩
set_option maxHeartbeats 8000000 in
theorem c50_mu (P B : Nat) (any great : Bool) (kind : Int) (x : UInt8) (l4 body : List UInt8) (cc t : Nat) (w : World) (kk : Int) (hk4 : 4 ≤ kk) (hk6 : kk ≤ 6) (HIH : ∀ (r : List UInt8) (great : Bool) (w : World), r.length ≤ body.length → St P B any false great r w → Calls Tryz.prog 50 #[.pointer (some ⟨P, 0, none⟩), .int .i64 (kidOf kk)] w (GeomQ P B any great w (GQ any (kidOf kk) r))) (h4 : l4.length = 4) (hc : decB (x == 0) l4 = cc) (hx : x.toNat ≤ 1) (hv : kind < 0 ∨ kind = kk ∨ (0 ≤ kind ∧ kind ≠ kk ∧ any = true))(ht : t ≤ 3) (hkk : (cc : Int) % 1000 = kk) (htt : (cc : Int) / 1000 = (t : Int)) (h : St P B any false great (x :: (l4 ++ body)) w) :
    Calls Tryz.prog 50 #[.pointer (some ⟨P, 0, none⟩), .int .i64 kind] w (GeomQ P B any great w (PQ any (x == 0) (FK (kidOf kk)) body kk (t : Int))) := by
  have hP := h.lt
  have hB := h.uses.2.2.2.2.2
  have HA := Lib.hid (one_byte x ▸ c116_ok P B 1 false any great [x] (l4 ++ body) _ rfl (by omega) (by omega) (h.al (.cells #[.int .i64 0, .int .i64 0, .slice none 0 0, .slice none 0 0] 25)) : _)
  have HB := Lib.hid fun (w1 : World) hs => (hc ▸ c116_ok P B 4 (x == 0) any great l4 body w1 h4 (by omega) (by omega) hs : _)
  have L0 := Lib.hid (Lb.new w #[.int .i64 0, .int .i64 0, .slice none 0 0, .slice none 0 0] 25)
  have hx0 := order_big x
  have hcl := decB_lt (x == 0) l4
  rw [h4, hc] at hcl
  have hb1 : decide ((1 : Int) < (x.toNat : Int)) = false := decide_eq_false (by omega)
  have hb4 : decide (3 < (t : Int)) = false := decide_eq_false (by omega)
  suffices H : ∀ b0 b1 : Bool, decide (0 ≤ kind) = b0 → ((kk : Int) != kind) = b1 → (b0 && b1 && !any) = false → Calls Tryz.prog 50 #[.pointer (some ⟨P, 0, none⟩), .int .i64 kind] w (GeomQ P B any great w (PQ any (x == 0) (FK (kidOf kk)) body kk (t : Int))) by
    refine H _ _ rfl rfl ?_
    rcases hv with hv | hv | ⟨_, _, hv⟩
    · simp [show ¬ 0 ≤ kind by omega]
    · simp [hv]
    · simp [hv]
  intro b0 b1 hq0 hq1 hz
  rcases (show b0 = false ∨ (b0 = true ∧ b1 = false) ∨ (b0 = true ∧ b1 = true ∧ (!any) = false) from by cases b0 <;> cases b1 <;> simp_all) with rfl | ⟨rfl, rfl⟩ | ⟨rfl, rfl, hna⟩
  all_goals (
    clear hz hv
    clear h hx h4 hc
    generalize (x == 0) = big at *
    go_enter Tryz.func50, Tryz.ntmps50
    go_wp2_with fail
    refine HA.out.mono ?_
    rintro _ w1 ⟨rfl, hs1, hg1⟩
    have HB1 := Lib.hid (HB.out w1 hs1)
    have L1 := Lib.hid (L0.out.grown hg1 (fun e => by have := Option.some.inj e; omega))
    have HG1 := Lib.hid (grown_more (gr_alloc (gr_refl w P) (.cells #[.int .i64 0, .int .i64 0, .slice none 0 0, .slice none 0 0] 25)) hg1 (fun q e => .inl (Option.some.inj e).symm))
    clear hs1 hg1 L0 HA HB
    go_wp2_with fail
    refine HB1.out.mono ?_
    rintro _ w2 ⟨rfl, hs2, hg2⟩
    have L2 := Lib.hid (L1.out.grown hg2 (fun e => by have := Option.some.inj e; omega))
    have HG2 := Lib.hid (grown_more HG1.out hg2 (fun q e => .inl (Option.some.inj e).symm))
    have HS2 := Lib.hid hs2
    obtain ⟨k1, k2, k3, f2, lP, lB⟩ := hs2.uses
    have hsz := HG2.out.size
    have lr := L2.out.use.2.2
    have hPn : ¬ w.heap.size = P := by omega
    clear hs2 hg2 HB1 L1 HG1
    have hcv : IntKind.i64.wrap ((cc : Nat) : Int) = (cc : Int) := IntWalk.i64_in _ (by omega)
    have hb2 : decide (kk < 1) = false := decide_eq_false (by omega)
    have hb3 : decide (7 < kk) = false := decide_eq_false (by omega)
    have hb7 : (kk == 7) = false := beq_false_of_ne (by omega)
    have hb10 : (kk == 1) = false := beq_false_of_ne (by omega)
    have hb11 : (kk == 2) = false := beq_false_of_ne (by omega)
    have hb12 : (kk == 3) = false := beq_false_of_ne (by omega)
    obtain ⟨kid, hkid⟩ : ∃ kid, kidOf kk = kid := ⟨_, rfl⟩
    rw [hkid] at HIH
    have HIH := Lib.hid HIH
    have HG3 := Lib.hid (gr_alloc HG2.out (.cells #[.int .i64 kk, .int .i64 (t : Int), .slice none 0 0, .slice none 0 0] 25))
    have L3 := Lib.hid (L2.out.alloc (.cells #[.int .i64 kk, .int .i64 (t : Int), .slice none 0 0, .slice none 0 0] 25))
    have HS3 := Lib.hid (HS2.out.al (.cells #[.int .i64 kk, .int .i64 (t : Int), .slice none 0 0, .slice none 0 0] 25))
    have L8 := Lib.hid (Lb.new w2 #[.int .i64 kk, .int .i64 (t : Int), .slice none 0 0, .slice none 0 0] 25)
    have H118 := Lib.hid fun W hs => c118 P B big any false great body W hs
    go_wp2_with fail
    clear k1 k2 k3 f2
    refine (H118.out _ HS3.out).mono ?_
    rintro _ w4 ⟨n, bad4, great4, r4, ⟨rfl, hs4, hg4⟩, hv4, hr4, hc4⟩
    have hs24 := hg4.size
    simp only [World.size_alloc] at hs24
    have HC4 : Hid (r4.length ≤ body.length ∧ ((bad4 = true ∧ n = 0) ∨ (bad4 = false ∧ ∃ a, body = a ++ r4 ∧ a.length = 4 ∧ n = decB big a))) := Lib.hid ⟨hr4, by simpa using hc4⟩
    have L8a := Lib.hid (L8.out.grown hg4 (fun e => by have := Option.some.inj e; omega))
    have L4a := Lib.hid (L3.out.grown hg4 (fun e => by have := Option.some.inj e; omega))
    have HG4 := Lib.hid (grown_more HG3.out hg4 (fun q e => .inl (Option.some.inj e).symm))
    have HS4 := Lib.hid hs4
    clear hs4 hg4 hr4 hc4 H118 L2 HG2 HS2
    go_wp2_with fail
    go_loopw [12] (fun i wr => ∃ (j : Nat) (ks : List G) (v : Value) (r : List UInt8) (bad5 great5 : Bool), j ≤ n ∧ i = .int .i64 j ∧ ks.length = j ∧ w2.heap.size + 1 ≤ wr.heap.size ∧ Hid (KRow (w2.heap.size + 1) wr v ks) ∧ Hid (Lb wr w2.heap.size #[.int .i64 kk, .int .i64 (t : Int), .slice none 0 0, v] 25) ∧
      Hid (Lb wr w.heap.size #[.int .i64 0, .int .i64 0, .slice none 0 0, .slice none 0 0] 25) ∧ Hid (St P B any bad5 great5 r wr) ∧ Hid (w.grownBy wr (some P)) ∧ Hid (KQ any (FK (kidOf kk)) r4 ks r bad5) ∧ Hid (bad5 = false → bad4 = false)) (fun i _ => n - (intOf i).toNat)
    case atStart => exact ⟨0, [], .slice none 0 0, r4, bad4, great4, Nat.zero_le _, rfl, rfl, by omega, Lib.hid (KRow.nil _ _), L8a, L4a, HS4, HG4, Lib.hid (KQ.nil _ _ _ _ (FK.nil _)), Lib.hid id⟩
    case round =>
      obtain ⟨j, ks, v, r, bad5, great5, hjn, rfl, hkl, hsw, hK, hL8, hL0, hS, hG, hQ, hbb⟩ := hrel
      obtain ⟨av, cv, rfl⟩ := hK.out.shape
      rw [hkl] at hL8 hK
      have HKL : Hid (ks.length = j) := Lib.hid hkl
      obtain ⟨k9, f9, l9⟩ := hL8.out.use
      obtain ⟨q1, q2, q3, f2, lP4, lB4⟩ := hS.out.uses
      clear HS4 HG4 L8a L4a hkl
      by_cases hlt : j < n
      · cases bad5
        rotate_left
        · have HE : Hid (PQ any big (FK (kidOf kk)) body kk (t : Int) (.mk kk (t : Int) [] ks) r true) := Lib.hid (PQ.of HC4.out hQ.out hbb.out (fun e => by cases e))
          have HX := Lib.hid (hK.out.gd kk (t : Int) (by rw [HKL.out]; omega))
          obtain ⟨k0, f0, l0⟩ := hL0.out.use
          go_wp2_with fail
          refine bodyPost_ret (v := .agg #[.int .i64 kk, .int .i64 (t : Int), .slice none 0 0, .slice av j cv]) ?_ rfl ⟨.mk kk (t : Int) [] ks, .slice none 0 0, .slice av j cv, r, true, great5, rfl, ?_, ?_, ?_, HE.out⟩
          · simp [results, Tryz.results50, go_sem, hL0.out.use.1]
          · refine Gd.mono (S := (w2.heap.size + 1 ≤ ·)) ?_ (fun b _ hb => by omega)
            repeat (with_reducible first | exact HX.out | refine Gd.far ?_ (by simp <;> omega) _ _ | refine Gd.dr ?_)
          · repeat (with_reducible first | exact hS.out | refine St.far ?_ (by omega) (by omega) _ _ | refine St.dr ?_)
          · repeat (with_reducible first | exact hG.out | refine gr_set ?_ (by first | exact Or.inl rfl | (right; omega)) _ _ | refine gr_dr ?_)
        · have hrl : r.length ≤ body.length := by
            have q := (hQ.out.2.2 (by trivial)).1
            have := HC4.out.1; omega
          have H50 := Lib.hid fun W hs => HIH.out r great5 W hrl hs
          have H32 := Lib.hid fun (w : World) => (show Calls Tryz.prog 32 #[.int .i64 kk] w fun e w' => e = .returned (.int .i64 kid) ∧ w = w' from (c32 kk w).mono fun e w' h => ⟨by rw [h.1, hkid], h.2⟩)
          have hown : Hid (∀ k, (Value.slice av j cv).ownBlock = some k → w2.heap.size + 1 ≤ k ∧ k < wr.heap.size) := Lib.hid fun k hk => by have := hK.out.lt; rw [← HKL.out] at hk; exact this k (by rw [← HKL.out]; exact hk)
          go_wp2_with fail
          go_region_law (first
            | (refine step_append_eq rfl _ _ 23 rfl rfl rfl rfl Hap.out ?_)
            | (go_simp; go_at_call 32; refine (H32.out _).mono ?_; rintro _ _ ⟨rfl, rfl⟩)
            | (go_simp; go_at_call 50; refine (H50.out _ (hS.out.dr)).mono ?_; rintro _ w5 ⟨g, vn, vk, r5, bad6, great6, rfl, hgd, hs5, hg5, hq5⟩
               obtain ⟨an, cn, ak, ck, rfl, rfl⟩ := hgd.shape
               have hz5 := hg5.size
               have K5 := (KRow.grown (w := wr) hK.out (gr_dr' hg5) (by omega))
               obtain ⟨v6, w6, hap, K6, hg6⟩ := K5.app g _ _ (hgd.mono (fun b _ hb => ⟨by have : wr.heap.size ≤ b := hb; omega, fun e => by have := (hown.out b e.symm).2; have : wr.heap.size ≤ b := hb; omega⟩)) rfl rfl (by rw [HKL.out]; omega) (by have : wr.heap.size ≤ w5.heap.size := hz5; omega)
               obtain ⟨a6, c6, rfl⟩ := K6.shape
               have e6 : (ks ++ [g]).length = j + 1 := by rw [List.length_append, HKL.out]; rfl
               rw [e6] at hap K6
               have Hap := Lib.hid hap
               have hz6 := hg6.size
               have hz56 : Hid (w2.heap.size + 1 ≤ w6.heap.size) := Lib.hid (by have : wr.heap.size ≤ w5.heap.size := hz5; omega)
               have L85 := hL8.out.grown (gr_dr' hg5) (fun e => by have := Option.some.inj e; omega)
               have L86 := L85.grown hg6 (fun e => by have := (hown.out _ e.symm).1; omega)
               obtain ⟨k10, f10, l10⟩ := L85.use
               obtain ⟨k11, f11, l11⟩ := L86.use
               have HL86 := Lib.hid L86
               have HL06 := Lib.hid ((hL0.out.grown (gr_dr' hg5) (fun e => by have := Option.some.inj e; omega)).grown hg6 (fun e => by have := (hown.out _ e.symm).1; omega))
               have HK6 := Lib.hid K6
               have HS6 := Lib.hid (hs5.grown hg6 (fun e => by have := (hown.out _ e.symm).1; omega) (fun q e => by have := (hown.out _ e).1; omega))
               have HG6 := Lib.hid (grown_more (grown_more hG.out (gr_dr' hg5) (fun q e => .inl (Option.some.inj e).symm)) hg6 (fun q e => .inr (by have := (hown.out _ e).1; omega)))
               have HQ6 := Lib.hid (GQ.part hQ.out hq5 (fun a b h1 h2 h3 => h1.snoc h2 (by rw [hkid]; exact h3)))
               clear hap K5 K6 L85 L86 hgd hs5 hg5 hg6 hq5 hz5 hz6 k9 f9))
          all_goals (
            go_wp2_with fail
            go_roundw
            case rel => exact ⟨j + 1, ks ++ [g], .slice a6 (j + 1) c6, r5, bad6, great6, by omega, by go_num, e6, by rw [size_set]; exact hz56.out, Lib.hid (HK6.out.far (by omega) _ _), Lib.hid (by simpa using HL86.out.set 3 (.slice a6 (j + 1) c6)), Lib.hid (HL06.out.far (by simp <;> omega) _), Lib.hid (HS6.out.far (by omega) (by omega) _ _), Lib.hid (gr_set HG6.out (.inr (by omega)) _ _), HQ6, Lib.hid (fun _ => hbb.out (by trivial))⟩
            case measure => simp [intOf]; omega)
      · have HE : Hid (PQ any big (FK (kidOf kk)) body kk (t : Int) (.mk kk (t : Int) [] ks) r bad5) := Lib.hid (PQ.of HC4.out hQ.out hbb.out (fun _ => by rw [HKL.out]; omega))
        have HX := Lib.hid (hK.out.gd kk (t : Int) (by rw [HKL.out]; omega))
        obtain ⟨k0, f0, l0⟩ := hL0.out.use
        have hdl : decide ((j : Int) < (n : Int)) = false := decide_eq_false (by omega)
        go_wp2_with fail
        refine bodyPost_ret (v := .agg #[.int .i64 kk, .int .i64 (t : Int), .slice none 0 0, .slice av j cv]) ?_ rfl ⟨.mk kk (t : Int) [] ks, .slice none 0 0, .slice av j cv, r, bad5, great5, rfl, ?_, ?_, ?_, HE.out⟩
        · simp [results, Tryz.results50, go_sem, hL0.out.use.1]
        · refine Gd.mono (S := (w2.heap.size + 1 ≤ ·)) ?_ (fun b _ hb => by omega)
          repeat (with_reducible first | exact HX.out | refine Gd.far ?_ (by simp <;> omega) _ _ | refine Gd.dr ?_)
        · repeat (with_reducible first | exact hS.out | refine St.far ?_ (by omega) (by omega) _ _ | refine St.dr ?_)
        · repeat (with_reducible first | exact hG.out | refine gr_set ?_ (by first | exact Or.inl rfl | (right; omega)) _ _ | refine gr_dr ?_))
set_option maxHeartbeats 8000000 in
theorem c50_gc (P B : Nat) (any great : Bool) (kind : Int) (x : UInt8) (l4 body : List UInt8) (cc t : Nat) (w : World) (HIH : ∀ (r : List UInt8) (great : Bool) (w : World), r.length ≤ body.length → St P B any false great r w → Calls Tryz.prog 50 #[.pointer (some ⟨P, 0, none⟩), .int .i64 (kidOf 0)] w (GeomQ P B any great w (GQ any (kidOf 0) r))) (h4 : l4.length = 4) (hc : decB (x == 0) l4 = cc) (hx : x.toNat ≤ 1) (hv : kind < 0 ∨ kind = 0 ∨ (0 ≤ kind ∧ kind ≠ 0 ∧ any = true))(ht : t ≤ 3) (hkk : (cc : Int) % 1000 = 7) (htt : (cc : Int) / 1000 = (t : Int)) (h : St P B any false great (x :: (l4 ++ body)) w) :
    Calls Tryz.prog 50 #[.pointer (some ⟨P, 0, none⟩), .int .i64 kind] w (GeomQ P B any great w (PQ any (x == 0) (FK (kidOf 0)) body 0 (t : Int))) := by
  have hP := h.lt
  have hB := h.uses.2.2.2.2.2
  have HA := Lib.hid (one_byte x ▸ c116_ok P B 1 false any great [x] (l4 ++ body) _ rfl (by omega) (by omega) (h.al (.cells #[.int .i64 0, .int .i64 0, .slice none 0 0, .slice none 0 0] 25)) : _)
  have HB := Lib.hid fun (w1 : World) hs => (hc ▸ c116_ok P B 4 (x == 0) any great l4 body w1 h4 (by omega) (by omega) hs : _)
  have L0 := Lib.hid (Lb.new w #[.int .i64 0, .int .i64 0, .slice none 0 0, .slice none 0 0] 25)
  have hx0 := order_big x
  have hcl := decB_lt (x == 0) l4
  rw [h4, hc] at hcl
  have hb1 : decide ((1 : Int) < (x.toNat : Int)) = false := decide_eq_false (by omega)
  have hb4 : decide (3 < (t : Int)) = false := decide_eq_false (by omega)
  suffices H : ∀ b0 b1 : Bool, decide (0 ≤ kind) = b0 → ((0 : Int) != kind) = b1 → (b0 && b1 && !any) = false → Calls Tryz.prog 50 #[.pointer (some ⟨P, 0, none⟩), .int .i64 kind] w (GeomQ P B any great w (PQ any (x == 0) (FK (kidOf 0)) body 0 (t : Int))) by
    refine H _ _ rfl rfl ?_
    rcases hv with hv | hv | ⟨_, _, hv⟩
    · simp [show ¬ 0 ≤ kind by omega]
    · simp [hv]
    · simp [hv]
  intro b0 b1 hq0 hq1 hz
  rcases (show b0 = false ∨ (b0 = true ∧ b1 = false) ∨ (b0 = true ∧ b1 = true ∧ (!any) = false) from by cases b0 <;> cases b1 <;> simp_all) with rfl | ⟨rfl, rfl⟩ | ⟨rfl, rfl, hna⟩
  all_goals (
    clear hz hv
    clear h hx h4 hc
    generalize (x == 0) = big at *
    go_enter Tryz.func50, Tryz.ntmps50
    go_wp2_with fail
    refine HA.out.mono ?_
    rintro _ w1 ⟨rfl, hs1, hg1⟩
    have HB1 := Lib.hid (HB.out w1 hs1)
    have L1 := Lib.hid (L0.out.grown hg1 (fun e => by have := Option.some.inj e; omega))
    have HG1 := Lib.hid (grown_more (gr_alloc (gr_refl w P) (.cells #[.int .i64 0, .int .i64 0, .slice none 0 0, .slice none 0 0] 25)) hg1 (fun q e => .inl (Option.some.inj e).symm))
    clear hs1 hg1 L0 HA HB
    go_wp2_with fail
    refine HB1.out.mono ?_
    rintro _ w2 ⟨rfl, hs2, hg2⟩
    have L2 := Lib.hid (L1.out.grown hg2 (fun e => by have := Option.some.inj e; omega))
    have HG2 := Lib.hid (grown_more HG1.out hg2 (fun q e => .inl (Option.some.inj e).symm))
    have HS2 := Lib.hid hs2
    obtain ⟨k1, k2, k3, f2, lP, lB⟩ := hs2.uses
    have hsz := HG2.out.size
    have lr := L2.out.use.2.2
    have hPn : ¬ w.heap.size = P := by omega
    clear hs2 hg2 HB1 L1 HG1
    have hcv : IntKind.i64.wrap ((cc : Nat) : Int) = (cc : Int) := IntWalk.i64_in _ (by omega)
    obtain ⟨kid, hkid⟩ : ∃ kid, kidOf 0 = kid := ⟨_, rfl⟩
    rw [hkid] at HIH
    have HIH := Lib.hid HIH
    have HG3 := Lib.hid (gr_alloc HG2.out (.cells #[.int .i64 0, .int .i64 (t : Int), .slice none 0 0, .slice none 0 0] 25))
    have L3 := Lib.hid (L2.out.alloc (.cells #[.int .i64 0, .int .i64 (t : Int), .slice none 0 0, .slice none 0 0] 25))
    have HS3 := Lib.hid (HS2.out.al (.cells #[.int .i64 0, .int .i64 (t : Int), .slice none 0 0, .slice none 0 0] 25))
    have L8 := Lib.hid (Lb.new w2 #[.int .i64 0, .int .i64 (t : Int), .slice none 0 0, .slice none 0 0] 25)
    have H118 := Lib.hid fun W hs => c118 P B big any false great body W hs
    go_wp2_with fail
    clear k1 k2 k3 f2
    refine (H118.out _ HS3.out).mono ?_
    rintro _ w4 ⟨n, bad4, great4, r4, ⟨rfl, hs4, hg4⟩, hv4, hr4, hc4⟩
    have hs24 := hg4.size
    simp only [World.size_alloc] at hs24
    have HC4 : Hid (r4.length ≤ body.length ∧ ((bad4 = true ∧ n = 0) ∨ (bad4 = false ∧ ∃ a, body = a ++ r4 ∧ a.length = 4 ∧ n = decB big a))) := Lib.hid ⟨hr4, by simpa using hc4⟩
    have L8a := Lib.hid (L8.out.grown hg4 (fun e => by have := Option.some.inj e; omega))
    have L4a := Lib.hid (L3.out.grown hg4 (fun e => by have := Option.some.inj e; omega))
    have HG4 := Lib.hid (grown_more HG3.out hg4 (fun q e => .inl (Option.some.inj e).symm))
    have HS4 := Lib.hid hs4
    clear hs4 hg4 hr4 hc4 H118 L2 HG2 HS2
    go_wp2_with fail
    go_loopw [12] (fun i wr => ∃ (j : Nat) (ks : List G) (v : Value) (r : List UInt8) (bad5 great5 : Bool), j ≤ n ∧ i = .int .i64 j ∧ ks.length = j ∧ w2.heap.size + 1 ≤ wr.heap.size ∧ Hid (KRow (w2.heap.size + 1) wr v ks) ∧ Hid (Lb wr w2.heap.size #[.int .i64 0, .int .i64 (t : Int), .slice none 0 0, v] 25) ∧
      Hid (Lb wr w.heap.size #[.int .i64 0, .int .i64 0, .slice none 0 0, .slice none 0 0] 25) ∧ Hid (St P B any bad5 great5 r wr) ∧ Hid (w.grownBy wr (some P)) ∧ Hid (KQ any (FK (kidOf 0)) r4 ks r bad5) ∧ Hid (bad5 = false → bad4 = false)) (fun i _ => n - (intOf i).toNat)
    case atStart => exact ⟨0, [], .slice none 0 0, r4, bad4, great4, Nat.zero_le _, rfl, rfl, by omega, Lib.hid (KRow.nil _ _), L8a, L4a, HS4, HG4, Lib.hid (KQ.nil _ _ _ _ (FK.nil _)), Lib.hid id⟩
    case round =>
      obtain ⟨j, ks, v, r, bad5, great5, hjn, rfl, hkl, hsw, hK, hL8, hL0, hS, hG, hQ, hbb⟩ := hrel
      obtain ⟨av, cv, rfl⟩ := hK.out.shape
      rw [hkl] at hL8 hK
      have HKL : Hid (ks.length = j) := Lib.hid hkl
      obtain ⟨k9, f9, l9⟩ := hL8.out.use
      obtain ⟨q1, q2, q3, f2, lP4, lB4⟩ := hS.out.uses
      clear HS4 HG4 L8a L4a hkl
      by_cases hlt : j < n
      · cases bad5
        rotate_left
        · have HE : Hid (PQ any big (FK (kidOf 0)) body 0 (t : Int) (.mk 0 (t : Int) [] ks) r true) := Lib.hid (PQ.of HC4.out hQ.out hbb.out (fun e => by cases e))
          have HX := Lib.hid (hK.out.gd 0 (t : Int) (by rw [HKL.out]; omega))
          obtain ⟨k0, f0, l0⟩ := hL0.out.use
          go_wp2_with fail
          refine bodyPost_ret (v := .agg #[.int .i64 0, .int .i64 (t : Int), .slice none 0 0, .slice av j cv]) ?_ rfl ⟨.mk 0 (t : Int) [] ks, .slice none 0 0, .slice av j cv, r, true, great5, rfl, ?_, ?_, ?_, HE.out⟩
          · simp [results, Tryz.results50, go_sem, hL0.out.use.1]
          · refine Gd.mono (S := (w2.heap.size + 1 ≤ ·)) ?_ (fun b _ hb => by omega)
            repeat (with_reducible first | exact HX.out | refine Gd.far ?_ (by simp <;> omega) _ _ | refine Gd.dr ?_)
          · repeat (with_reducible first | exact hS.out | refine St.far ?_ (by omega) (by omega) _ _ | refine St.dr ?_)
          · repeat (with_reducible first | exact hG.out | refine gr_set ?_ (by first | exact Or.inl rfl | (right; omega)) _ _ | refine gr_dr ?_)
        · have hrl : r.length ≤ body.length := by
            have q := (hQ.out.2.2 (by trivial)).1
            have := HC4.out.1; omega
          have H50 := Lib.hid fun W hs => HIH.out r great5 W hrl hs
          have H32 := Lib.hid fun (w : World) => (show Calls Tryz.prog 32 #[.int .i64 0] w fun e w' => e = .returned (.int .i64 kid) ∧ w = w' from (c32 0 w).mono fun e w' h => ⟨by rw [h.1, hkid], h.2⟩)
          have hown : Hid (∀ k, (Value.slice av j cv).ownBlock = some k → w2.heap.size + 1 ≤ k ∧ k < wr.heap.size) := Lib.hid fun k hk => by have := hK.out.lt; rw [← HKL.out] at hk; exact this k (by rw [← HKL.out]; exact hk)
          go_wp2_with fail
          go_region_law (first
            | (refine step_append_eq rfl _ _ 23 rfl rfl rfl rfl Hap.out ?_)
            | (go_simp; go_at_call 32; refine (H32.out _).mono ?_; rintro _ _ ⟨rfl, rfl⟩)
            | (go_simp; go_at_call 50; refine (H50.out _ (hS.out.dr)).mono ?_; rintro _ w5 ⟨g, vn, vk, r5, bad6, great6, rfl, hgd, hs5, hg5, hq5⟩
               obtain ⟨an, cn, ak, ck, rfl, rfl⟩ := hgd.shape
               have hz5 := hg5.size
               have K5 := (KRow.grown (w := wr) hK.out (gr_dr' hg5) (by omega))
               obtain ⟨v6, w6, hap, K6, hg6⟩ := K5.app g _ _ (hgd.mono (fun b _ hb => ⟨by have : wr.heap.size ≤ b := hb; omega, fun e => by have := (hown.out b e.symm).2; have : wr.heap.size ≤ b := hb; omega⟩)) rfl rfl (by rw [HKL.out]; omega) (by have : wr.heap.size ≤ w5.heap.size := hz5; omega)
               obtain ⟨a6, c6, rfl⟩ := K6.shape
               have e6 : (ks ++ [g]).length = j + 1 := by rw [List.length_append, HKL.out]; rfl
               rw [e6] at hap K6
               have Hap := Lib.hid hap
               have hz6 := hg6.size
               have hz56 : Hid (w2.heap.size + 1 ≤ w6.heap.size) := Lib.hid (by have : wr.heap.size ≤ w5.heap.size := hz5; omega)
               have L85 := hL8.out.grown (gr_dr' hg5) (fun e => by have := Option.some.inj e; omega)
               have L86 := L85.grown hg6 (fun e => by have := (hown.out _ e.symm).1; omega)
               obtain ⟨k10, f10, l10⟩ := L85.use
               obtain ⟨k11, f11, l11⟩ := L86.use
               have HL86 := Lib.hid L86
               have HL06 := Lib.hid ((hL0.out.grown (gr_dr' hg5) (fun e => by have := Option.some.inj e; omega)).grown hg6 (fun e => by have := (hown.out _ e.symm).1; omega))
               have HK6 := Lib.hid K6
               have HS6 := Lib.hid (hs5.grown hg6 (fun e => by have := (hown.out _ e.symm).1; omega) (fun q e => by have := (hown.out _ e).1; omega))
               have HG6 := Lib.hid (grown_more (grown_more hG.out (gr_dr' hg5) (fun q e => .inl (Option.some.inj e).symm)) hg6 (fun q e => .inr (by have := (hown.out _ e).1; omega)))
               have HQ6 := Lib.hid (GQ.part hQ.out hq5 (fun a b h1 h2 h3 => h1.snoc h2 (by rw [hkid]; exact h3)))
               clear hap K5 K6 L85 L86 hgd hs5 hg5 hg6 hq5 hz5 hz6 k9 f9))
          all_goals (
            go_wp2_with fail
            go_roundw
            case rel => exact ⟨j + 1, ks ++ [g], .slice a6 (j + 1) c6, r5, bad6, great6, by omega, by go_num, e6, by rw [size_set]; exact hz56.out, Lib.hid (HK6.out.far (by omega) _ _), Lib.hid (by simpa using HL86.out.set 3 (.slice a6 (j + 1) c6)), Lib.hid (HL06.out.far (by simp <;> omega) _), Lib.hid (HS6.out.far (by omega) (by omega) _ _), Lib.hid (gr_set HG6.out (.inr (by omega)) _ _), HQ6, Lib.hid (fun _ => hbb.out (by trivial))⟩
            case measure => simp [intOf]; omega)
      · have HE : Hid (PQ any big (FK (kidOf 0)) body 0 (t : Int) (.mk 0 (t : Int) [] ks) r bad5) := Lib.hid (PQ.of HC4.out hQ.out hbb.out (fun _ => by rw [HKL.out]; omega))
        have HX := Lib.hid (hK.out.gd 0 (t : Int) (by rw [HKL.out]; omega))
        obtain ⟨k0, f0, l0⟩ := hL0.out.use
        have hdl : decide ((j : Int) < (n : Int)) = false := decide_eq_false (by omega)
        go_wp2_with fail
        refine bodyPost_ret (v := .agg #[.int .i64 0, .int .i64 (t : Int), .slice none 0 0, .slice av j cv]) ?_ rfl ⟨.mk 0 (t : Int) [] ks, .slice none 0 0, .slice av j cv, r, bad5, great5, rfl, ?_, ?_, ?_, HE.out⟩
        · simp [results, Tryz.results50, go_sem, hL0.out.use.1]
        · refine Gd.mono (S := (w2.heap.size + 1 ≤ ·)) ?_ (fun b _ hb => by omega)
          repeat (with_reducible first | exact HX.out | refine Gd.far ?_ (by simp <;> omega) _ _ | refine Gd.dr ?_)
        · repeat (with_reducible first | exact hS.out | refine St.far ?_ (by omega) (by omega) _ _ | refine St.dr ?_)
        · repeat (with_reducible first | exact hG.out | refine gr_set ?_ (by first | exact Or.inl rfl | (right; omega)) _ _ | refine gr_dr ?_))
set_option maxHeartbeats 8000000 in
theorem c50_pg (P B : Nat) (any great : Bool) (kind : Int) (x : UInt8) (l4 body : List UInt8) (cc t : Nat) (w : World) (h4 : l4.length = 4) (hc : decB (x == 0) l4 = cc) (hx : x.toNat ≤ 1) (hv : kind < 0 ∨ kind = 3 ∨ (0 ≤ kind ∧ kind ≠ 3 ∧ any = true))(ht : t ≤ 3) (hkk : (cc : Int) % 1000 = 3) (htt : (cc : Int) / 1000 = (t : Int)) (h : St P B any false great (x :: (l4 ++ body)) w) :
    Calls Tryz.prog 50 #[.pointer (some ⟨P, 0, none⟩), .int .i64 kind] w (GeomQ P B any great w (PQ any (x == 0) (RingsE (ordI (x == 0)) (t : Int)) body 3 (t : Int))) := by
  have hP := h.lt
  have hB := h.uses.2.2.2.2.2
  have HA := Lib.hid (one_byte x ▸ c116_ok P B 1 false any great [x] (l4 ++ body) _ rfl (by omega) (by omega) (h.al (.cells #[.int .i64 0, .int .i64 0, .slice none 0 0, .slice none 0 0] 25)) : _)
  have HB := Lib.hid fun (w1 : World) hs => (hc ▸ c116_ok P B 4 (x == 0) any great l4 body w1 h4 (by omega) (by omega) hs : _)
  have L0 := Lib.hid (Lb.new w #[.int .i64 0, .int .i64 0, .slice none 0 0, .slice none 0 0] 25)
  have hx0 := order_big x
  have hcl := decB_lt (x == 0) l4
  rw [h4, hc] at hcl
  have hb1 : decide ((1 : Int) < (x.toNat : Int)) = false := decide_eq_false (by omega)
  have hb4 : decide (3 < (t : Int)) = false := decide_eq_false (by omega)
  suffices H : ∀ b0 b1 : Bool, decide (0 ≤ kind) = b0 → ((3 : Int) != kind) = b1 → (b0 && b1 && !any) = false → Calls Tryz.prog 50 #[.pointer (some ⟨P, 0, none⟩), .int .i64 kind] w (GeomQ P B any great w (PQ any (x == 0) (RingsE (ordI (x == 0)) (t : Int)) body 3 (t : Int))) by
    refine H _ _ rfl rfl ?_
    rcases hv with hv | hv | ⟨_, _, hv⟩
    · simp [show ¬ 0 ≤ kind by omega]
    · simp [hv]
    · simp [hv]
  intro b0 b1 hq0 hq1 hz
  rcases (show b0 = false ∨ (b0 = true ∧ b1 = false) ∨ (b0 = true ∧ b1 = true ∧ (!any) = false) from by cases b0 <;> cases b1 <;> simp_all) with rfl | ⟨rfl, rfl⟩ | ⟨rfl, rfl, hna⟩
  all_goals (
    clear hz hv
    clear h hx h4 hc
    generalize (x == 0) = big at *
    go_enter Tryz.func50, Tryz.ntmps50
    go_wp2_with fail
    refine HA.out.mono ?_
    rintro _ w1 ⟨rfl, hs1, hg1⟩
    have HB1 := Lib.hid (HB.out w1 hs1)
    have L1 := Lib.hid (L0.out.grown hg1 (fun e => by have := Option.some.inj e; omega))
    have HG1 := Lib.hid (grown_more (gr_alloc (gr_refl w P) (.cells #[.int .i64 0, .int .i64 0, .slice none 0 0, .slice none 0 0] 25)) hg1 (fun q e => .inl (Option.some.inj e).symm))
    clear hs1 hg1 L0 HA HB
    go_wp2_with fail
    refine HB1.out.mono ?_
    rintro _ w2 ⟨rfl, hs2, hg2⟩
    have L2 := Lib.hid (L1.out.grown hg2 (fun e => by have := Option.some.inj e; omega))
    have HG2 := Lib.hid (grown_more HG1.out hg2 (fun q e => .inl (Option.some.inj e).symm))
    have HS2 := Lib.hid hs2
    obtain ⟨k1, k2, k3, f2, lP, lB⟩ := hs2.uses
    have hsz := HG2.out.size
    have lr := L2.out.use.2.2
    have hPn : ¬ w.heap.size = P := by omega
    clear hs2 hg2 HB1 L1 HG1
    have hcv : IntKind.i64.wrap ((cc : Nat) : Int) = (cc : Int) := IntWalk.i64_in _ (by omega)
    have hdl := dN_bd (t : Int)
    have H31 := Lib.hid fun (w : World) => (show Calls Tryz.prog 31 #[.int .i64 (t : Int)] w fun e w' => e = .returned (.int .i64 (dN (t : Int) : Int)) ∧ w = w' from (c31 (t : Int) w).mono fun e w' h => ⟨by rw [h.1, dN_eq], h.2⟩)
    generalize hD : dN (t : Int) = D at *
    have HD := Lib.hid hD
    clear hD
    have HG3 := Lib.hid (gr_alloc HG2.out (.cells #[.int .i64 3, .int .i64 (t : Int), .slice none 0 0, .slice none 0 0] 25))
    have L3 := Lib.hid (L2.out.alloc (.cells #[.int .i64 3, .int .i64 (t : Int), .slice none 0 0, .slice none 0 0] 25))
    have HS3 := Lib.hid (HS2.out.al (.cells #[.int .i64 3, .int .i64 (t : Int), .slice none 0 0, .slice none 0 0] 25))
    have L8 := Lib.hid (Lb.new w2 #[.int .i64 3, .int .i64 (t : Int), .slice none 0 0, .slice none 0 0] 25)
    have H118 := Lib.hid fun W hs => c118 P B big any false great body W hs
    go_wp2_with fail
    clear k1 k2 k3 f2
    refine (H118.out _ HS3.out).mono ?_
    rintro _ w4 ⟨n, bad4, great4, r4, ⟨rfl, hs4, hg4⟩, hv4, hr4, hc4⟩
    have hs24 := hg4.size
    simp only [World.size_alloc] at hs24
    have HC4 : Hid (r4.length ≤ body.length ∧ ((bad4 = true ∧ n = 0) ∨ (bad4 = false ∧ ∃ a, body = a ++ r4 ∧ a.length = 4 ∧ n = decB big a))) := Lib.hid ⟨hr4, by simpa using hc4⟩
    have L8a := Lib.hid (L8.out.grown hg4 (fun e => by have := Option.some.inj e; omega))
    have L4a := Lib.hid (L3.out.grown hg4 (fun e => by have := Option.some.inj e; omega))
    have HG4 := Lib.hid (grown_more HG3.out hg4 (fun q e => .inl (Option.some.inj e).symm))
    have HS4 := Lib.hid hs4
    clear hs4 hg4 hr4 hc4 H118 L2 HG2 HS2
    go_wp2_with fail
    go_loopw [12] (fun i wr => ∃ (j : Nat) (ks : List G) (v : Value) (r : List UInt8) (bad5 great5 : Bool), j ≤ n ∧ i = .int .i64 j ∧ ks.length = j ∧ w2.heap.size + 1 ≤ wr.heap.size ∧ Hid (KRow (w2.heap.size + 1) wr v ks) ∧ Hid (Lb wr w2.heap.size #[.int .i64 3, .int .i64 (t : Int), .slice none 0 0, v] 25) ∧
      Hid (Lb wr w.heap.size #[.int .i64 0, .int .i64 0, .slice none 0 0, .slice none 0 0] 25) ∧ Hid (St P B any bad5 great5 r wr) ∧ Hid (w.grownBy wr (some P)) ∧ Hid (KQ any (RingsE (ordI big) (t : Int)) r4 ks r bad5) ∧ Hid (bad5 = false → bad4 = false)) (fun i _ => n - (intOf i).toNat)
    case atStart => exact ⟨0, [], .slice none 0 0, r4, bad4, great4, Nat.zero_le _, rfl, rfl, by omega, Lib.hid (KRow.nil _ _), L8a, L4a, HS4, HG4, Lib.hid (KQ.nil _ _ _ _ (by simp [RingsE])), Lib.hid id⟩
    case round =>
      obtain ⟨j, ks, v, r, bad5, great5, hjn, rfl, hkl, hsw, hK, hL8, hL0, hS, hG, hQ, hbb⟩ := hrel
      obtain ⟨av, cv, rfl⟩ := hK.out.shape
      rw [hkl] at hL8 hK
      have HKL : Hid (ks.length = j) := Lib.hid hkl
      obtain ⟨k9, f9, l9⟩ := hL8.out.use
      obtain ⟨q1, q2, q3, f2, lP4, lB4⟩ := hS.out.uses
      clear HS4 HG4 L8a L4a hkl
      by_cases hlt : j < n
      · cases bad5
        rotate_left
        · have HE : Hid (PQ any big (RingsE (ordI big) (t : Int)) body 3 (t : Int) (.mk 3 (t : Int) [] ks) r true) := Lib.hid (PQ.of HC4.out hQ.out hbb.out (fun e => by cases e))
          have HX := Lib.hid (hK.out.gd 3 (t : Int) (by rw [HKL.out]; omega))
          obtain ⟨k0, f0, l0⟩ := hL0.out.use
          go_wp2_with fail
          refine bodyPost_ret (v := .agg #[.int .i64 3, .int .i64 (t : Int), .slice none 0 0, .slice av j cv]) ?_ rfl ⟨.mk 3 (t : Int) [] ks, .slice none 0 0, .slice av j cv, r, true, great5, rfl, ?_, ?_, ?_, HE.out⟩
          · simp [results, Tryz.results50, go_sem, hL0.out.use.1]
          · refine Gd.mono (S := (w2.heap.size + 1 ≤ ·)) ?_ (fun b _ hb => by omega)
            repeat (with_reducible first | exact HX.out | refine Gd.far ?_ (by simp <;> omega) _ _ | refine Gd.dr ?_)
          · repeat (with_reducible first | exact hS.out | refine St.far ?_ (by omega) (by omega) _ _ | refine St.dr ?_)
          · repeat (with_reducible first | exact hG.out | refine gr_set ?_ (by first | exact Or.inl rfl | (right; omega)) _ _ | refine gr_dr ?_)
        · have hrl : r.length ≤ body.length := by
            have q := (hQ.out.2.2 (by trivial)).1
            have := HC4.out.1; omega
          have H118b := Lib.hid fun W hs => c118 P B big any false great5 r W hs
          have hown : Hid (∀ k, (Value.slice av j cv).ownBlock = some k → w2.heap.size + 1 ≤ k ∧ k < wr.heap.size) := Lib.hid fun k hk => by have := hK.out.lt; rw [← HKL.out] at hk; exact this k (by rw [← HKL.out]; exact hk)
          go_wp2_with fail
          refine wp_region_L (fun w' => w'.cell? ⟨w2.heap.size, 3, none⟩ = some (.slice av j cv) ∧ w'.cell? ⟨w2.heap.size, 1, none⟩ = some (.int .i64 (t : Int))) 18 (by kernel_rfl) ?_
          have hS0 : wr.drew.cell? ⟨w2.heap.size, 3, none⟩ = some (.slice av j cv) ∧ wr.drew.cell? ⟨w2.heap.size, 1, none⟩ = some (.int .i64 (t : Int)) := ⟨by rw [show wr.drew.cell? ⟨w2.heap.size, 3, none⟩ = wr.cell? ⟨w2.heap.size, 3, none⟩ from rfl, k9]; rfl, by rw [show wr.drew.cell? ⟨w2.heap.size, 1, none⟩ = wr.cell? ⟨w2.heap.size, 1, none⟩ from rfl, k9]; rfl⟩
          refine wpAnyL_take (i := 0) (v := ?_) rfl (by kernel_rfl) (by kernel_rfl) (by kernel_rfl) (by kernel_rfl) (by kernel_rfl) (fun _ _ _ h => h) (Or.inl ⟨by rfl, ?_⟩) hS0 ?_
          rotate_left
          · (intro w hSw; obtain ⟨hSa, hSb⟩ := hSw; go_simp <;> with_reducible rfl)
          try simp only [Act.put, List.setIfInBounds_toArray]
          refine wpAnyL_take (i := 1) (v := ?_) rfl (by kernel_rfl) (by kernel_rfl) (by kernel_rfl) (by kernel_rfl) (by kernel_rfl) (fun _ _ _ h => h) (Or.inl ⟨by rfl, ?_⟩) hS0 ?_
          rotate_left
          · (intro w hSw; obtain ⟨hSa, hSb⟩ := hSw; go_simp <;> with_reducible rfl)
          try simp only [Act.put]
          refine wpAnyL_take (i := 2) (v := ?_) rfl (by kernel_rfl) (by kernel_rfl) (by kernel_rfl) (by kernel_rfl) (by kernel_rfl) (fun _ _ _ h => h) (Or.inl ⟨by rfl, ?_⟩) hS0 ?_
          rotate_left
          · (intro w hSw; obtain ⟨hSa, hSb⟩ := hSw; go_simp <;> with_reducible rfl)
          try simp only [Act.put]
          refine wpAnyL_take (i := 3) (v := ?_) rfl (by kernel_rfl) (by kernel_rfl) (by kernel_rfl) (by kernel_rfl) (by kernel_rfl) (fun _ _ _ h => h) (Or.inl ⟨by rfl, ?_⟩) hS0 ?_
          rotate_left
          · (intro w hSw; obtain ⟨hSa, hSb⟩ := hSw; go_simp <;> with_reducible rfl)
          try simp only [Act.put]
          refine wpAnyL_take (i := 4) (v := ?_) rfl (by kernel_rfl) (by kernel_rfl) (by kernel_rfl) (by kernel_rfl) (by kernel_rfl) (fun _ _ _ h => h) (Or.inl ⟨by rfl, ?_⟩) hS0 ?_
          rotate_left
          · (intro w hSw; obtain ⟨hSa, hSb⟩ := hSw; go_simp <;> with_reducible rfl)
          try simp only [Act.put]
          refine wpAnyL_take (i := 5) (v := ?_) rfl (by kernel_rfl) (by kernel_rfl) (by kernel_rfl) (by kernel_rfl) (by kernel_rfl) (fun _ _ _ h => h) (Or.inl ⟨by rfl, ?_⟩) hS0 ?_
          rotate_left
          · (intro w hSw; obtain ⟨hSa, hSb⟩ := hSw; go_simp <;> with_reducible rfl)
          try simp only [Act.put]
          refine wpAnyL_take (i := 6) (v := ?_) rfl (by kernel_rfl) (by kernel_rfl) (by kernel_rfl) (by kernel_rfl) (by kernel_rfl) (fun _ _ _ h => h) (Or.inl ⟨by rfl, ?_⟩) hS0 ?_
          rotate_left
          · (intro w hSw; obtain ⟨hSa, hSb⟩ := hSw; go_simp <;> with_reducible rfl)
          try simp only [Act.put]
          refine wpAnyL_take (i := 8) (v := ?_) rfl (by kernel_rfl) (by kernel_rfl) (by kernel_rfl) (by kernel_rfl) (by kernel_rfl) (fun _ _ _ h => h) (Or.inl ⟨by rfl, ?_⟩) hS0 ?_
          rotate_left
          · (intro w hSw; obtain ⟨hSa, hSb⟩ := hSw; go_simp <;> with_reducible rfl)
          try simp only [Act.put]
          refine wpAnyL_take (i := 9) (v := ?_) rfl (by kernel_rfl) (by kernel_rfl) (by kernel_rfl) (by kernel_rfl) (by kernel_rfl) (fun _ _ _ h => h) (Or.inl ⟨by rfl, ?_⟩) hS0 ?_
          rotate_left
          · (intro w hSw; obtain ⟨hSa, hSb⟩ := hSw; go_simp <;> with_reducible rfl)
          try simp only [Act.put]
          refine wpAnyL_take (i := 12) (v := ?_) rfl (by kernel_rfl) (by kernel_rfl) (by kernel_rfl) (by kernel_rfl) (by kernel_rfl) (fun _ _ _ h => h) (Or.inl ⟨by rfl, ?_⟩) hS0 ?_
          rotate_left
          · (intro w hSw; obtain ⟨hSa, hSb⟩ := hSw; go_simp <;> with_reducible rfl)
          try simp only [Act.put]
          refine wpAnyL_ready (rs := [7]) (by kernel_rfl) (by simp) ?_
          refine AllReadyL.cons rfl (fun K hKx => ?_) AllReadyL.nil
          go_simp
          go_at_call 118
          refine (H118b.out _ (hS.out.dr)).mono ?_
          rintro _ w5 ⟨nv, bad6, great6, r6, ⟨rfl, hs5, hg5⟩, hv5, hr5, hc5⟩
          have hz5 : wr.heap.size ≤ w5.heap.size := hg5.size
          have L85 := Lib.hid (hL8.out.grown (gr_dr' hg5) (fun e => by have := Option.some.inj e; omega))
          have L05 := Lib.hid (hL0.out.grown (gr_dr' hg5) (fun e => by have := Option.some.inj e; omega))
          have K5 := Lib.hid (KRow.grown (w := wr) hK.out (gr_dr' hg5) (by omega))
          have HG5 := Lib.hid (grown_more hG.out (gr_dr' hg5) (fun q e => .inl (Option.some.inj e).symm))
          obtain ⟨k10, f10, l10⟩ := L85.out.use
          obtain ⟨N, hN⟩ : ∃ N, Hid (N = nv * D) := ⟨_, Lib.hid rfl⟩
          have hNb : N ≤ 100000 := by rw [hN.out]; exact Nat.le_trans (Nat.mul_le_mul hv5 hdl.2) (by omega)
          have hmul : IntKind.i64.wrap ((nv : Int) * (D : Int)) = (N : Int) := by rw [← Int.natCast_mul, ← hN.out]; exact IntWalk.i64_in _ (by omega)
          have HC5 : Hid (nv ≤ 4096 ∧ r6.length ≤ r.length ∧ ((bad6 = true ∧ nv = 0) ∨ (bad6 = false ∧ ∃ a, r = a ++ r6 ∧ a.length = 4 ∧ nv = decB big a))) := Lib.hid ⟨hv5, hr5, by simpa using hc5⟩
          have H117b := Lib.hid (c117 P B N big any bad6 great6 r6 w5 (by omega) hs5)
          clear hs5 hg5 hv5 hr5 hc5 k9 f9
          go_wp2_with fail
          have hS1 : w5.cell? ⟨w2.heap.size, 3, none⟩ = some (.slice av j cv) ∧ w5.cell? ⟨w2.heap.size, 1, none⟩ = some (.int .i64 (t : Int)) := ⟨by rw [k10]; rfl, by rw [k10]; rfl⟩
          refine hKx.out _ _ (fun _ => hS1) ?_
          clear hKx K hS0
          try simp only [Act.put, List.setIfInBounds_toArray, List.set_cons_zero, List.set_cons_succ]
          refine wpAnyL_ready (rs := [10]) (by kernel_rfl) (by simp) ?_
          refine AllReadyL.cons rfl (fun K hKx => ?_) AllReadyL.nil
          go_simp
          go_at_call 31
          refine (H31.out _).mono ?_
          rintro _ _ ⟨rfl, rfl⟩
          go_wp2_with fail
          refine hKx.out _ _ (fun _ => hS1) ?_
          clear hKx K
          try simp only [Act.put, List.setIfInBounds_toArray, List.set_cons_zero, List.set_cons_succ]
          refine wpAnyL_take (i := 11) (v := ?_) rfl (by kernel_rfl) (by kernel_rfl) (by kernel_rfl) (by kernel_rfl) (by kernel_rfl) (fun _ _ _ h => h) (Or.inl ⟨by rfl, ?_⟩) hS1 ?_
          rotate_left
          · (intro w hSw; obtain ⟨hSa, hSb⟩ := hSw; go_simp <;> with_reducible rfl)
          try simp only [Act.put, List.setIfInBounds_toArray]
          refine wpAnyL_ready (rs := [13]) (by kernel_rfl) (by simp) ?_
          refine AllReadyL.cons rfl (fun K hKx => ?_) AllReadyL.nil
          go_simp
          go_at_call 117
          refine H117b.out.mono ?_
          rintro _ w7 ⟨xs, r7, bad7, v7, rfl, hF, hS7, hG7, i1, i2, i3, i4, i5, i6⟩
          obtain ⟨an, cn, rfl⟩ := hF.shape
          have hz7 : w5.heap.size ≤ w7.heap.size := hG7.size
          have K7 := (KRow.grown (w := w5) K5.out hG7 (by omega))
          obtain ⟨v8, w8, hap, K8, hg8⟩ := K7.app (.mk 2 (t : Int) xs []) (.slice an xs.length cn) (.slice none 0 0) ((hF.gd 2 (t : Int) (by omega)).mono (fun b _ hb => ⟨by have : w5.heap.size ≤ b := hb; omega, fun e => by have := (hown.out b e.symm).2; have : w5.heap.size ≤ b := hb; omega⟩)) rfl rfl (by rw [HKL.out]; omega) (by omega)
          obtain ⟨a8, c8, rfl⟩ := K8.shape
          have e8 : (ks ++ [G.mk 2 (t : Int) xs []]).length = j + 1 := by rw [List.length_append, HKL.out]; rfl
          rw [e8] at hap K8
          have Hap := Lib.hid hap
          have hz8 := hg8.size
          have hz58 : Hid (w2.heap.size + 1 ≤ w8.heap.size) := Lib.hid (by omega)
          have L87 := L85.out.grown hG7 (fun e => by have := Option.some.inj e; omega)
          have L88 := L87.grown hg8 (fun e => by have := (hown.out _ e.symm).1; omega)
          obtain ⟨k11, f11, l11⟩ := L87.use
          obtain ⟨k12, f12, l12⟩ := L88.use
          have HL88 := Lib.hid L88
          have HL08 := Lib.hid ((L05.out.grown hG7 (fun e => by have := Option.some.inj e; omega)).grown hg8 (fun e => by have := (hown.out _ e.symm).1; omega))
          have HK8 := Lib.hid K8
          have HS8 := Lib.hid (hS7.grown hg8 (fun e => by have := (hown.out _ e.symm).1; omega) (fun q e => by have := (hown.out _ e).1; omega))
          have HG8 := Lib.hid (grown_more (grown_more HG5.out hG7 (fun q e => .inl (Option.some.inj e).symm)) hg8 (fun q e => .inr (by have := (hown.out _ e).1; omega)))
          have HQ8 := Lib.hid (ring_q (t := t) hQ.out HC5.out i1 i3 i5 i6 HD.out hN.out)
          clear hap K7 K8 L87 L88 hF hS7 hG7 hg8 i1 i2 i3 i4 i5 i6 k10 f10
          go_wp2_with fail
          have hS2 : w7.cell? ⟨w2.heap.size, 3, none⟩ = some (.slice av j cv) ∧ w7.cell? ⟨w2.heap.size, 1, none⟩ = some (.int .i64 (t : Int)) := ⟨by rw [k11]; rfl, by rw [k11]; rfl⟩
          refine hKx.out _ _ (fun _ => hS2) ?_
          clear hKx K hS1
          try simp only [Act.put, List.setIfInBounds_toArray, List.set_cons_zero, List.set_cons_succ]
          refine wpAnyL_take (i := 14) (v := ?_) rfl (by kernel_rfl) (by kernel_rfl) (by kernel_rfl) (by kernel_rfl) (by kernel_rfl) (fun _ _ _ h => h) (Or.inl ⟨by rfl, ?_⟩) hS2 ?_
          rotate_left
          · (intro w hSw; obtain ⟨hSa, hSb⟩ := hSw; go_simp <;> with_reducible rfl)
          try simp only [Act.put, List.setIfInBounds_toArray]
          refine wpAnyL_ready (rs := [15]) (by kernel_rfl) (by simp) ?_
          refine AllReadyL.cons rfl (fun K hKx => ?_) AllReadyL.nil
          go_simp
          refine hKx.out _ _ (fun _ => ⟨by rw [cell_al _ l11]; exact hS2.1, by rw [cell_al _ l11]; exact hS2.2⟩) ?_
          clear hKx K
          try simp only [Act.put, List.setIfInBounds_toArray, List.set_cons_zero, List.set_cons_succ]
          refine wpAnyL_ready (rs := [16]) (by kernel_rfl) (by simp) ?_
          refine AllReadyL.cons rfl (fun K hKx => ?_) AllReadyL.nil
          refine step_append_eq rfl _ _ 23 rfl rfl rfl rfl Hap.out ?_
          have hS3 : w8.cell? ⟨w2.heap.size, 3, none⟩ = some (.slice av j cv) ∧ w8.cell? ⟨w2.heap.size, 1, none⟩ = some (.int .i64 (t : Int)) := ⟨by rw [k12]; rfl, by rw [k12]; rfl⟩
          refine hKx.out _ _ (fun _ => hS3) ?_
          clear hKx K hS2
          try simp only [Act.put, List.setIfInBounds_toArray]
          refine wpAnyL_take (i := 17) (v := ?_) rfl (by kernel_rfl) (by kernel_rfl) (by kernel_rfl) (by kernel_rfl) (by kernel_rfl) (fun _ _ _ h => h) (Or.inl ⟨by rfl, ?_⟩) hS3 ?_
          rotate_left
          · (intro w hSw; obtain ⟨hSa, hSb⟩ := hSw; go_simp <;> with_reducible rfl)
          try simp only [Act.put]
          refine wpAnyL_ready (rs := [18]) (by kernel_rfl) (by simp) ?_
          refine AllReadyL.cons rfl (fun K hKx => ?_) AllReadyL.nil
          go_simp
          refine hKx.out _ _ (fun h => absurd rfl h) ?_
          clear hKx K hS3
          refine wpAnyL_done (by kernel_rfl) ?_ _
          try simp only [Act.put, List.setIfInBounds_toArray, List.set_cons_zero, List.set_cons_succ]
          go_wp2_with fail
          go_roundw
          case rel => exact ⟨j + 1, ks ++ [G.mk 2 (t : Int) xs []], .slice a8 (j + 1) c8, r7, bad7, great6, by omega, by go_num, e8, by rw [size_set]; exact hz58.out, Lib.hid (HK8.out.far (by omega) _ _), Lib.hid (by simpa using HL88.out.set 3 (.slice a8 (j + 1) c8)), Lib.hid (HL08.out.far (by simp <;> omega) _), Lib.hid (HS8.out.far (by omega) (by omega) _ _), Lib.hid (gr_set HG8.out (.inr (by omega)) _ _), HQ8, Lib.hid (fun _ => hbb.out (by trivial))⟩
          case measure => simp [intOf]; omega
      · have HE : Hid (PQ any big (RingsE (ordI big) (t : Int)) body 3 (t : Int) (.mk 3 (t : Int) [] ks) r bad5) := Lib.hid (PQ.of HC4.out hQ.out hbb.out (fun _ => by rw [HKL.out]; omega))
        have HX := Lib.hid (hK.out.gd 3 (t : Int) (by rw [HKL.out]; omega))
        obtain ⟨k0, f0, l0⟩ := hL0.out.use
        have hdl : decide ((j : Int) < (n : Int)) = false := decide_eq_false (by omega)
        go_wp2_with fail
        refine bodyPost_ret (v := .agg #[.int .i64 3, .int .i64 (t : Int), .slice none 0 0, .slice av j cv]) ?_ rfl ⟨.mk 3 (t : Int) [] ks, .slice none 0 0, .slice av j cv, r, bad5, great5, rfl, ?_, ?_, ?_, HE.out⟩
        · simp [results, Tryz.results50, go_sem, hL0.out.use.1]
        · refine Gd.mono (S := (w2.heap.size + 1 ≤ ·)) ?_ (fun b _ hb => by omega)
          repeat (with_reducible first | exact HX.out | refine Gd.far ?_ (by simp <;> omega) _ _ | refine Gd.dr ?_)
        · repeat (with_reducible first | exact hS.out | refine St.far ?_ (by omega) (by omega) _ _ | refine St.dr ?_)
        · repeat (with_reducible first | exact hG.out | refine gr_set ?_ (by first | exact Or.inl rfl | (right; omega)) _ _ | refine gr_dr ?_))
end Go.Proofs.YtahnhhkbdgaidaaGreatDoor
