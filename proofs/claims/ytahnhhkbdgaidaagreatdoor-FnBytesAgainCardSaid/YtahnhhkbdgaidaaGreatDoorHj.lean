/-
  The reference's reader of binary forms: a geometry.
-/
import Derived.Test.YtahnhhkbdgaidaaGreatDoorHi
namespace Go.Proofs.YtahnhhkbdgaidaaGreatDoor
open Go.RowKit
set_option maxRecDepth 100000
set_option maxHeartbeats 4000000 in
theorem c50_kindN (P B : Nat) (great : Bool) (kind : Int) (x : UInt8) (l4 body : List UInt8) (cc : Nat) (w : World) (h4 : l4.length = 4) (hc : decB (x == 0) l4 = cc) (hx : x.toNat ≤ 1) (hk0 : 1 ≤ cc % 1000) (hk : cc % 1000 < 7) (ht : cc / 1000 ≤ 3) (hq : 0 ≤ kind) (hne : kind ≠ ((cc % 1000 : Nat) : Int)) (h : St P B false false great (x :: (l4 ++ body)) w) :
    Calls Tryz.prog 50 #[.pointer (some ⟨P, 0, none⟩), .int .i64 kind] w (GeomQ P B false great w fun g _ bad' => g = zeroG ∧ bad' = true) := by
  have hP := h.lt
  have hB := h.uses.2.2.2.2.2
  have HA := Lib.hid ((one_byte x ▸ c116_ok P B 1 false false great [x] (l4 ++ body) _ rfl (by omega) (by omega) (h.al (.cells #[.int .i64 0, .int .i64 0, .slice none 0 0, .slice none 0 0] 25)) : _))
  have HB := Lib.hid fun (w1 : World) hs => (hc ▸ c116_ok P B 4 (x == 0) false great l4 body w1 h4 (by omega) (by omega) hs : _)
  have L0 := Lib.hid (Lb.new w #[.int .i64 0, .int .i64 0, .slice none 0 0, .slice none 0 0] 25)
  have hx0 := order_big x
  have hcl := decB_lt (x == 0) l4
  rw [h4, hc] at hcl
  have hst := h.al (.cells #[.int .i64 0, .int .i64 0, .slice none 0 0, .slice none 0 0] 25)
  clear h
  go_enter Tryz.func50, Tryz.ntmps50
  go_wp2_with fail
  refine HA.out.mono ?_
  rintro _ w1 ⟨rfl, hs1, hg1⟩
  have HB1 := Lib.hid (HB.out w1 hs1)
  have L1 := Lib.hid (L0.out.grown hg1 (fun e => by have := Option.some.inj e; omega))
  have HG1 := Lib.hid (grown_more (gr_alloc (gr_refl w P) (.cells #[.int .i64 0, .int .i64 0, .slice none 0 0, .slice none 0 0] 25)) hg1 (fun q e => .inl (Option.some.inj e).symm))
  clear hs1 hg1 L0 HA HB hst
  go_wp2_with fail
  refine HB1.out.mono ?_
  rintro _ w2 ⟨rfl, hs2, hg2⟩
  have L2 := Lib.hid (L1.out.grown hg2 (fun e => by have := Option.some.inj e; omega))
  have HG2 := Lib.hid (grown_more HG1.out hg2 (fun q e => .inl (Option.some.inj e).symm))
  obtain ⟨k1, k2, k3, f2, lP, lB⟩ := hs2.uses
  obtain ⟨kr, fr, lr⟩ := L2.out.use
  have hsz := HG2.out.size
  have hPn : ¬ w.heap.size = P := by omega
  clear hg2 HB1 L1 HG1
  have hcv : IntKind.i64.wrap ((cc : Nat) : Int) = (cc : Int) := IntWalk.i64_in _ (by omega)
  have hb1 : decide ((1 : Int) < (x.toNat : Int)) = false := decide_eq_false (by omega)
  have hb2 : decide ((cc : Int) % 1000 < 1) = false := decide_eq_false (by omega)
  have hb3 : decide (7 < (cc : Int) % 1000) = false := decide_eq_false (by omega)
  have hb4 : decide (3 < (cc : Int) / 1000) = false := decide_eq_false (by omega)
  have hq0 : decide (0 ≤ kind) = true := decide_eq_true hq
  have hb7 : ((cc : Int) % 1000 == 7) = false := beq_false_of_ne (by omega)
  have hq1 : ((cc : Int) % 1000 != kind) = true := by simp only [bne_iff_ne, ne_eq]; omega
  go_wp2_with fail
  all_goals (
    refine bodyPost_ret (v := .agg #[.int .i64 0, .int .i64 0, .slice none 0 0, .slice none 0 0]) ?_ rfl ⟨zeroG, .slice none 0 0, .slice none 0 0, body, true, great, rfl, zeroG_gd _ _, ?_, ?_, rfl, rfl⟩
    · simp [results, Tryz.results50, go_sem, cell_al, L2.out.use.1, lr] <;> omega
    · refine St.al ?_ _
      repeat (with_reducible first | exact hs2.mark | exact hs2 | apply St.mark | refine St.far ?_ (by omega) (by omega) _ _)
    · refine gr_alloc ?_ _
      repeat (with_reducible first | exact HG2.out | refine gr_set ?_ (by first | exact Or.inl rfl | (right; omega)) _ _))
set_option maxHeartbeats 4000000 in
theorem c50_kind7 (P B : Nat) (great : Bool) (kind : Int) (x : UInt8) (l4 body : List UInt8) (cc : Nat) (w : World) (h4 : l4.length = 4) (hc : decB (x == 0) l4 = cc) (hx : x.toNat ≤ 1) (hk : cc % 1000 = 7) (ht : cc / 1000 ≤ 3) (hq : 0 ≤ kind) (hne : kind ≠ 0) (h : St P B false false great (x :: (l4 ++ body)) w) :
    Calls Tryz.prog 50 #[.pointer (some ⟨P, 0, none⟩), .int .i64 kind] w (GeomQ P B false great w fun g _ bad' => g = zeroG ∧ bad' = true) := by
  have hP := h.lt
  have hB := h.uses.2.2.2.2.2
  have HA := Lib.hid ((one_byte x ▸ c116_ok P B 1 false false great [x] (l4 ++ body) _ rfl (by omega) (by omega) (h.al (.cells #[.int .i64 0, .int .i64 0, .slice none 0 0, .slice none 0 0] 25)) : _))
  have HB := Lib.hid fun (w1 : World) hs => (hc ▸ c116_ok P B 4 (x == 0) false great l4 body w1 h4 (by omega) (by omega) hs : _)
  have L0 := Lib.hid (Lb.new w #[.int .i64 0, .int .i64 0, .slice none 0 0, .slice none 0 0] 25)
  have hx0 := order_big x
  have hcl := decB_lt (x == 0) l4
  rw [h4, hc] at hcl
  have hst := h.al (.cells #[.int .i64 0, .int .i64 0, .slice none 0 0, .slice none 0 0] 25)
  clear h
  go_enter Tryz.func50, Tryz.ntmps50
  go_wp2_with fail
  refine HA.out.mono ?_
  rintro _ w1 ⟨rfl, hs1, hg1⟩
  have HB1 := Lib.hid (HB.out w1 hs1)
  have L1 := Lib.hid (L0.out.grown hg1 (fun e => by have := Option.some.inj e; omega))
  have HG1 := Lib.hid (grown_more (gr_alloc (gr_refl w P) (.cells #[.int .i64 0, .int .i64 0, .slice none 0 0, .slice none 0 0] 25)) hg1 (fun q e => .inl (Option.some.inj e).symm))
  clear hs1 hg1 L0 HA HB hst
  go_wp2_with fail
  refine HB1.out.mono ?_
  rintro _ w2 ⟨rfl, hs2, hg2⟩
  have L2 := Lib.hid (L1.out.grown hg2 (fun e => by have := Option.some.inj e; omega))
  have HG2 := Lib.hid (grown_more HG1.out hg2 (fun q e => .inl (Option.some.inj e).symm))
  obtain ⟨k1, k2, k3, f2, lP, lB⟩ := hs2.uses
  obtain ⟨kr, fr, lr⟩ := L2.out.use
  have hsz := HG2.out.size
  have hPn : ¬ w.heap.size = P := by omega
  clear hg2 HB1 L1 HG1
  have hcv : IntKind.i64.wrap ((cc : Nat) : Int) = (cc : Int) := IntWalk.i64_in _ (by omega)
  have hb1 : decide ((1 : Int) < (x.toNat : Int)) = false := decide_eq_false (by omega)
  have hb2 : decide ((cc : Int) % 1000 < 1) = false := decide_eq_false (by omega)
  have hb3 : decide (7 < (cc : Int) % 1000) = false := decide_eq_false (by omega)
  have hb4 : decide (3 < (cc : Int) / 1000) = false := decide_eq_false (by omega)
  have hq0 : decide (0 ≤ kind) = true := decide_eq_true hq
  have hkk : (cc : Int) % 1000 = 7 := by omega
  have hq1 : ((0 : Int) != kind) = true := by simp only [bne_iff_ne, ne_eq]; omega
  go_wp2_with fail
  all_goals (
    refine bodyPost_ret (v := .agg #[.int .i64 0, .int .i64 0, .slice none 0 0, .slice none 0 0]) ?_ rfl ⟨zeroG, .slice none 0 0, .slice none 0 0, body, true, great, rfl, zeroG_gd _ _, ?_, ?_, rfl, rfl⟩
    · simp [results, Tryz.results50, go_sem, cell_al, L2.out.use.1, lr] <;> omega
    · refine St.al ?_ _
      repeat (with_reducible first | exact hs2.mark | exact hs2 | apply St.mark | refine St.far ?_ (by omega) (by omega) _ _)
    · refine gr_alloc ?_ _
      repeat (with_reducible first | exact HG2.out | refine gr_set ?_ (by first | exact Or.inl rfl | (right; omega)) _ _))
theorem GeomQ.mono {P B : Nat} {any great : Bool} {w : World} {Q Q' : G → List UInt8 → Bool → Prop} (h : ∀ g r b, Q g r b → Q' g r b) (e : Ending) (w' : World) (hq : GeomQ P B any great w Q e w') : GeomQ P B any great w Q' e w' := by
  obtain ⟨g, vn, vk, r, bad', great', h1, h2, h3, h4, h5⟩ := hq
  exact ⟨g, vn, vk, r, bad', great', h1, h2, h3, h4, h _ _ _ h5⟩
theorem wtL_ge : ∀ ks : List G, ks.length ≤ G.wtL ks
  | [] => by simp [G.wtL]
  | g :: r => by
    have := wtL_ge r
    have h1 : 1 ≤ g.wt := by cases g; simp only [G.wt]; omega
    simp only [G.wtL, List.length_cons]; omega
/-- What all bytes of a geometry's form have: an order, a code. -/
theorem head_enc {x : UInt8} (hx : x.toNat ≤ 1) : (x = 0 ∨ x = 1) ∧ (x.toNat : Int) = ordI (x == 0) := by
  by_cases h : x = 0
  · subst h; exact ⟨.inl rfl, rfl⟩
  · have h1 : x.toNat = 1 := by
      have : x.toNat ≠ 0 := fun e => h (UInt8.toNat_inj.1 (by simp; omega))
      omega
    have h2 : (x == 0) = false := by simpa using h
    exact ⟨.inr (UInt8.toNat_inj.1 (by simp; omega)), by rw [h2, h1]; rfl⟩
theorem GQ.zero (any : Bool) (kind : Int) (l r : List UInt8) : GQ any kind l zeroG r true := by
  refine ⟨by simp [zeroG, G.every, G.everyL], fun _ => by simp [zeroG, G.wt, G.wtL], fun e => by cases e⟩
theorem code_of {k t cc : Nat} (k' : Int) (h : cc % 1000 = k) (ht : cc / 1000 = t) (hk : k' = if k = 7 then 0 else (k : Int)) (h1 : 1 ≤ k) (h7 : k ≤ 7) : cc = wcode k' (t : Int) := by
  unfold wcode
  subst hk
  have e := Nat.div_add_mod cc 1000
  by_cases h2 : k = 7
  · rw [if_pos h2, if_pos rfl]; simp; omega
  · rw [if_neg h2, if_neg (by omega)]; simp; omega
/-- A geometry's form of its head and its body. -/
theorem enc_of {x : UInt8} {l4 body r : List UInt8} {k t cc : Nat} {k' : Int} (hx : x.toNat ≤ 1) (h4 : l4.length = 4) (hc : decB (x == 0) l4 = cc) (h : cc % 1000 = k) (ht : cc / 1000 = t) (hk : k' = if k = 7 then 0 else (k : Int)) (h1 : 1 ≤ k) (h7 : k ≤ 7) (ht3 : t ≤ 3) {ns : List Nat} {ks : List G} {a : List UInt8} (hb : body = a ++ r)
    (hf : (k' = 1 ∧ ks = [] ∧ PtE (x.toNat : Int) (t : Int) ns a) ∨ (k' = 2 ∧ ks = [] ∧ SeqE (x.toNat : Int) (t : Int) ns a) ∨
      (k' = 3 ∧ ns = [] ∧ ∃ c4 rest, a = c4 ++ rest ∧ c4.length = 4 ∧ dec (x.toNat : Int) c4 = ks.length ∧ RingsE (x.toNat : Int) (t : Int) ks rest) ∨
      ((k' = 0 ∨ 4 ≤ k') ∧ ns = [] ∧ ∃ c4 rest, a = c4 ++ rest ∧ c4.length = 4 ∧ dec (x.toNat : Int) c4 = ks.length ∧ (∀ g ∈ ks, kidOf k' < 0 ∨ g.kind = kidOf k') ∧ EncL (fun x => x = 0 ∨ x = 1) ks rest)) :
    ∃ a', x :: (l4 ++ body) = a' ++ r ∧ Enc (fun x => x = 0 ∨ x = 1) (.mk k' (t : Int) ns ks) a' := by
  obtain ⟨hx1, hx2⟩ := head_enc hx
  refine ⟨x :: (l4 ++ a), by rw [hb]; simp, ?_⟩
  simp only [Enc]
  refine ⟨x, l4, a, rfl, hx1, h4, ?_, ?_, hf⟩
  · rw [hx2, dec_ord, hc]; exact code_of k' h ht hk h1 h7
  · subst hk
    split <;> omega
theorem GQ.pt {any : Bool} {kind : Int} {x : UInt8} {l4 body : List UInt8} {t cc : Nat} (hx : x.toNat ≤ 1) (h4 : l4.length = 4) (hc : decB (x == 0) l4 = cc) (h : cc % 1000 = 1) (ht : cc / 1000 = t) (ht3 : t ≤ 3) (hkind : any = true ∨ kind < 0 ∨ kind = 1) (g : G) (r : List UInt8) (bad' : Bool)
    (hq : (bad' = true ∧ g = zeroG) ∨ ∃ xs : List Nat, (∀ n ∈ xs, n < 18446744073709551616) ∧ xs.length = dN (t : Int) ∧ (∃ a, body = a ++ r ∧ N8 (x == 0) xs a) ∧
      ((nanB (xs.getD 0 0) = true ∧ nanB (xs.getD 1 0) = true ∧ g = .mk 1 (t : Int) [] [] ∧ bad' = false) ∨ (g = .mk 1 (t : Int) xs [] ∧ (bad' = false → any = true ∨ (nanB (xs.getD 0 0) = false ∧ nanB (xs.getD 1 0) = false))))) : GQ any kind (x :: (l4 ++ body)) g r bad' := by
  rcases hq with ⟨rfl, rfl⟩ | ⟨xs, h1, h2, ⟨a, hb, hN⟩, h3⟩
  · exact GQ.zero _ _ _ _
  · have hl : body.length = 8 * xs.length + r.length := by rw [hb, List.length_append, hN.1]
    have hk2 : any = false → kind < 0 ∨ (1 : Int) = kind := fun e => by
      rcases hkind with h | h | h
      · rw [e] at h; cases h
      · exact .inl h
      · exact .inr h.symm
    rcases h3 with ⟨n0, n1, rfl, rfl⟩ | ⟨rfl, h3⟩
    · refine ⟨by simp [G.every, G.everyL], fun e => (by cases e), fun _ => ⟨by simp [G.wt, G.wtL, h4]; omega, fun ea => ?_⟩⟩
      obtain ⟨a', e1, e2⟩ := enc_of (body := body) (k' := 1) (ns := []) (ks := []) hx h4 hc h ht rfl (by omega) (by omega) ht3 hb (.inl ⟨rfl, rfl, xs, by rw [(head_enc hx).2]; exact hN.f8, h2, .inr ⟨rfl, n0, n1⟩⟩)
      exact ⟨a', e1, e2, hk2 ea⟩
    · refine ⟨by simp only [G.every, G.everyL, and_true]; exact h1, fun _ => by simp [G.wt, G.wtL, h4]; omega, fun e => ⟨by simp [G.wt, G.wtL, h4]; omega, fun ea => ?_⟩⟩
      rcases h3 e with h3 | ⟨n0, n1⟩
      · rw [ea] at h3; cases h3
      · obtain ⟨a', e1, e2⟩ := enc_of (body := body) (k' := 1) (ns := xs) (ks := []) hx h4 hc h ht rfl (by omega) (by omega) ht3 hb (.inl ⟨rfl, rfl, xs, by rw [(head_enc hx).2]; exact hN.f8, h2, .inl ⟨rfl, n0, n1⟩⟩)
        exact ⟨a', e1, e2, hk2 ea⟩
theorem GQ.ln {any : Bool} {kind : Int} {x : UInt8} {l4 body : List UInt8} {t cc : Nat} (hx : x.toNat ≤ 1) (h4 : l4.length = 4) (hc : decB (x == 0) l4 = cc) (h : cc % 1000 = 2) (ht : cc / 1000 = t) (ht3 : t ≤ 3) (hkind : any = true ∨ kind < 0 ∨ kind = 2) (g : G) (r : List UInt8) (bad' : Bool)
    (hq : ∃ xs : List Nat, g = .mk 2 (t : Int) xs [] ∧ (∀ n ∈ xs, n < 18446744073709551616) ∧ 8 * xs.length ≤ body.length + 8 ∧ (bad' = false → ∃ (c4 f : List UInt8) (n : Nat), body = c4 ++ (f ++ r) ∧ c4.length = 4 ∧ decB (x == 0) c4 = n ∧ n * dN (t : Int) = xs.length ∧ N8 (x == 0) xs f)) : GQ any kind (x :: (l4 ++ body)) g r bad' := by
  obtain ⟨xs, rfl, h1, h2, h3⟩ := hq
  refine ⟨by simp only [G.every, G.everyL, and_true]; exact h1, fun _ => by simp [G.wt, G.wtL, h4]; omega, fun e => ?_⟩
  obtain ⟨c4, f, n, hb, hc4, hd, hn, hN⟩ := h3 e
  have hl : body.length = 4 + (8 * xs.length + r.length) := by rw [hb, List.length_append, List.length_append, hN.1, hc4]
  refine ⟨by simp [G.wt, G.wtL, h4]; omega, fun ea => ?_⟩
  obtain ⟨a', e1, e2⟩ := enc_of (body := body) (k' := 2) (ns := xs) (ks := []) (a := c4 ++ f) (r := r) hx h4 hc h ht rfl (by omega) (by omega) ht3 (by rw [hb, List.append_assoc]) (.inr (.inl ⟨rfl, rfl, c4, f, n, rfl, hc4, by rw [(head_enc hx).2, dec_ord]; exact hd, hn, by rw [(head_enc hx).2]; exact hN.f8⟩))
  refine ⟨a', e1, e2, ?_⟩
  rcases hkind with h | h | h
  · rw [ea] at h; cases h
  · exact .inl h
  · exact .inr h.symm
theorem GQ.parts {any : Bool} {kind : Int} {x : UInt8} {l4 body : List UInt8} {k t cc : Nat} {k' : Int} {F : List G → List UInt8 → Prop} (hx : x.toNat ≤ 1) (h4 : l4.length = 4) (hc : decB (x == 0) l4 = cc) (h : cc % 1000 = k) (ht : cc / 1000 = t) (hk : k' = if k = 7 then 0 else (k : Int)) (h1 : 3 ≤ k) (h7 : k ≤ 7) (ht3 : t ≤ 3) (hkind : any = true ∨ kind < 0 ∨ kind = k')
    (hF : ∀ ks a, F ks a → (k' = 3 ∧ RingsE (x.toNat : Int) (t : Int) ks a) ∨ ((k' = 0 ∨ 4 ≤ k') ∧ (∀ g ∈ ks, kidOf k' < 0 ∨ g.kind = kidOf k') ∧ EncL (fun x => x = 0 ∨ x = 1) ks a)) (g : G) (r : List UInt8) (bad' : Bool)
    (hq : PQ any (x == 0) F body k' (t : Int) g r bad') : GQ any kind (x :: (l4 ++ body)) g r bad' := by
  obtain ⟨ks, rfl, i1, i2, i3⟩ := hq
  refine ⟨by simp only [G.every, G.everyL_iff]; exact ⟨by simp, i1⟩, fun e => by have := i2 e; simp [G.wt, h4]; omega, fun e => ⟨by have := (i3 e).1; simp [G.wt, h4]; omega, fun ea => ?_⟩⟩
  obtain ⟨c4, a, hb, hc4, hd, hf⟩ := (i3 e).2 ea
  have hd2 : dec (x.toNat : Int) c4 = ks.length := by rw [(head_enc hx).2, dec_ord]; exact hd
  have hk2 : kind < 0 ∨ k' = kind := by
    rcases hkind with h | h | h
    · rw [ea] at h; cases h
    · exact .inl h
    · exact .inr h.symm
  rcases hF ks a hf with ⟨h3, hr⟩ | ⟨h3, hkk, hr⟩
  · obtain ⟨a', e1, e2⟩ := enc_of (body := body) (k' := k') (ns := []) (ks := ks) (a := c4 ++ a) (r := r) hx h4 hc h ht hk (by omega) h7 ht3 (by rw [hb, List.append_assoc]) (.inr (.inr (.inl ⟨h3, rfl, c4, a, rfl, hc4, hd2, hr⟩)))
    exact ⟨a', e1, e2, hk2⟩
  · obtain ⟨a', e1, e2⟩ := enc_of (body := body) (k' := k') (ns := []) (ks := ks) (a := c4 ++ a) (r := r) hx h4 hc h ht hk (by omega) h7 ht3 (by rw [hb, List.append_assoc]) (.inr (.inr (.inr ⟨h3, rfl, c4, a, rfl, hc4, hd2, hkk, hr⟩)))
    exact ⟨a', e1, e2, hk2⟩
theorem kidOf_few (k : Int) : kidOf k < 0 ∨ kidOf k = 1 ∨ kidOf k = 2 ∨ kidOf k = 3 := by
  unfold kidOf
  repeat (first | omega | split)
/-- What the reference reads of bytes. -/
theorem c50 : ∀ (N P B : Nat) (any great : Bool) (kind : Int) (l : List UInt8) (w : World), l.length ≤ N → (kind < 0 ∨ kind = 1 ∨ kind = 2 ∨ kind = 3) → St P B any false great l w →
    Calls Tryz.prog 50 #[.pointer (some ⟨P, 0, none⟩), .int .i64 kind] w (GeomQ P B any great w (GQ any kind l)) := by
  intro N
  induction N with
  | zero =>
    intro P B any great kind l w hl _ h
    obtain rfl : l = [] := List.eq_nil_of_length_eq_zero (by omega)
    exact (c50_none P B any great kind w h).mono (GeomQ.mono fun g r b ⟨h1, h2⟩ => by rw [h1, h2]; exact GQ.zero _ _ _ _)
  | succ N ih =>
    intro P B any great kind l w hl hkd h
    match l, hl, h with
    | [], _, h => exact (c50_none P B any great kind w h).mono (GeomQ.mono fun g r b ⟨h1, h2⟩ => by rw [h1, h2]; exact GQ.zero _ _ _ _)
    | x :: rest, hl, h =>
      rcases Nat.lt_or_ge rest.length 4 with hlt | hge
      · exact (c50_few P B any great kind x rest w hlt h).mono (GeomQ.mono fun g r b ⟨h1, h2⟩ => by rw [h1, h2]; exact GQ.zero _ _ _ _)
      obtain ⟨l4, body, rfl, h4⟩ : ∃ l4 body : List UInt8, rest = l4 ++ body ∧ l4.length = 4 := ⟨rest.take 4, rest.drop 4, (List.take_append_drop 4 rest).symm, by rw [List.length_take]; omega⟩
      have hbl : body.length ≤ N := by simp at hl; omega
      obtain ⟨cc, hc⟩ : ∃ cc, decB (x == 0) l4 = cc := ⟨_, rfl⟩
      by_cases hx : 1 < x.toNat
      · exact (c50_order P B any great kind x l4 body cc w h4 hc hx h).mono (GeomQ.mono fun g r b ⟨h1, h2⟩ => by rw [h1, h2]; exact GQ.zero _ _ _ _)
      replace hx : x.toNat ≤ 1 := by omega
      by_cases hk0 : cc % 1000 = 0
      · exact (c50_low P B any great kind x l4 body cc w h4 hc hx hk0 h).mono (GeomQ.mono fun g r b ⟨h1, h2⟩ => by rw [h1, h2]; exact GQ.zero _ _ _ _)
      by_cases hk8 : 7 < cc % 1000
      · exact (c50_high P B any great kind x l4 body cc w h4 hc hx hk8 h).mono (GeomQ.mono fun g r b ⟨h1, h2⟩ => by rw [h1, h2]; exact GQ.zero _ _ _ _)
      by_cases ht : 3 < cc / 1000
      · exact (c50_dim P B any great kind x l4 body cc w h4 hc hx (by omega) (by omega) ht h).mono (GeomQ.mono fun g r b ⟨h1, h2⟩ => by rw [h1, h2]; exact GQ.zero _ _ _ _)
      obtain ⟨t, hte⟩ : ∃ t, cc / 1000 = t := ⟨_, rfl⟩
      have htt : (cc : Int) / 1000 = (t : Int) := by omega
      obtain ⟨k, hke⟩ : ∃ k, cc % 1000 = k := ⟨_, rfl⟩
      have hkk : (cc : Int) % 1000 = (k : Int) := by omega
      obtain ⟨k', hk'⟩ : ∃ k' : Int, k' = if k = 7 then 0 else (k : Int) := ⟨_, rfl⟩
      by_cases hbad : any = false ∧ 0 ≤ kind ∧ kind ≠ k'
      · obtain ⟨rfl, hq, hne⟩ := hbad
        by_cases h7 : k = 7
        · rw [if_pos h7] at hk'
          exact (c50_kind7 P B great kind x l4 body cc w h4 hc hx (by omega) (by omega) hq (by omega) h).mono (GeomQ.mono fun g r b ⟨h1, h2⟩ => by rw [h1, h2]; exact GQ.zero _ _ _ _)
        · rw [if_neg h7] at hk'
          exact (c50_kindN P B great kind x l4 body cc w h4 hc hx (by omega) (by omega) (by omega) hq (by omega) h).mono (GeomQ.mono fun g r b ⟨h1, h2⟩ => by rw [h1, h2]; exact GQ.zero _ _ _ _)
      have hkind : any = true ∨ kind < 0 ∨ kind = k' := by
        cases any
        · rcases Int.lt_or_le kind 0 with h1 | h1
          · exact .inr (.inl h1)
          · exact .inr (.inr (Classical.byContradiction fun h2 => hbad ⟨rfl, h1, h2⟩))
        · exact .inl rfl
      have hvar : kind < 0 ∨ kind = k' ∨ (0 ≤ kind ∧ kind ≠ k' ∧ any = true) := by
        rcases hkind with h1 | h1 | h1
        · rcases Int.lt_or_le kind 0 with h2 | h2
          · exact .inl h2
          · by_cases h3 : kind = k'
            · exact .inr (.inl h3)
            · exact .inr (.inr ⟨h2, h3, h1⟩)
        · exact .inl h1
        · exact .inr (.inl h1)
      have hk17 : k = 1 ∨ k = 2 ∨ k = 3 ∨ (4 ≤ k ∧ k ≤ 6) ∨ k = 7 := by omega
      have IH : ∀ (kd : Int) (r : List UInt8) (gr : Bool) (w : World), r.length ≤ body.length → St P B any false gr r w → Calls Tryz.prog 50 #[.pointer (some ⟨P, 0, none⟩), .int .i64 (kidOf kd)] w (GeomQ P B any gr w (GQ any (kidOf kd) r)) := fun kd r gr w hr hs => ih P B any gr (kidOf kd) r w (by omega) (kidOf_few kd) hs
      rcases hk17 with h1 | h1 | h1 | h1 | h1
      · subst h1
        have hk1 : k' = 1 := by rw [hk']; rfl
        subst hk1
        have hm := GeomQ.mono (P := P) (B := B) (any := any) (great := great) (w := w) (Q' := GQ any kind (x :: (l4 ++ body))) (GQ.pt (kind := kind) (any := any) hx h4 hc hke hte (by omega) hkind)
        rcases hvar with hv | rfl | ⟨hv, hv2, rfl⟩
        · exact (c50_pt_1 P B any great kind x l4 body cc t w h4 hc hx hv (by omega) hkk htt h).mono hm
        · exact (c50_pt_2 P B any great x l4 body cc t w h4 hc hx (by omega) hkk htt h).mono hm
        · exact (c50_pt_3 P B great kind x l4 body cc t w h4 hc hx hv hv2 (by omega) hkk htt h).mono hm
      · subst h1
        have hk1 : k' = 2 := by rw [hk']; rfl
        subst hk1
        have hm := GeomQ.mono (P := P) (B := B) (any := any) (great := great) (w := w) (Q' := GQ any kind (x :: (l4 ++ body))) (GQ.ln (kind := kind) (any := any) hx h4 hc hke hte (by omega) hkind)
        rcases hvar with hv | rfl | ⟨hv, hv2, rfl⟩
        · exact (c50_ln_1 P B any great kind x l4 body cc t w h4 hc hx hv (by omega) hkk htt h).mono hm
        · exact (c50_ln_2 P B any great x l4 body cc t w h4 hc hx (by omega) hkk htt h).mono hm
        · exact (c50_ln_3 P B great kind x l4 body cc t w h4 hc hx hv hv2 (by omega) hkk htt h).mono hm
      · subst h1
        have hk1 : k' = 3 := by rw [hk']; rfl
        subst hk1
        have hm := GeomQ.mono (P := P) (B := B) (any := any) (great := great) (w := w) (Q' := GQ any kind (x :: (l4 ++ body))) (GQ.parts (kind := kind) (any := any) (F := RingsE (ordI (x == 0)) (t : Int)) hx h4 hc hke hte rfl (by omega) (by omega) (by omega) hkind (fun ks a hF => .inl ⟨rfl, by rw [(head_enc hx).2]; exact hF⟩))
        exact (c50_pg P B any great kind x l4 body cc t w h4 hc hx hvar (by omega) hkk htt h).mono hm
      · obtain ⟨h1, h2⟩ := h1
        have hk1 : k' = (k : Int) := by rw [hk', if_neg (by omega)]
        have hm := GeomQ.mono (P := P) (B := B) (any := any) (great := great) (w := w) (Q' := GQ any kind (x :: (l4 ++ body))) (GQ.parts (kind := kind) (any := any) (F := FK (kidOf k')) hx h4 hc hke hte hk' (by omega) (by omega) (by omega) hkind (fun ks a hF => .inr ⟨by omega, hF.2, hF.1⟩))
        have hkk' : (cc : Int) % 1000 = k' := by omega
        exact (c50_mu P B any great kind x l4 body cc t w k' (by omega) (by omega) (fun r gr w hr hs => IH k' r gr w hr hs) h4 hc hx hvar (by omega) hkk' htt h).mono hm
      · subst h1
        have hk1 : k' = 0 := by rw [hk']; rfl
        subst hk1
        have hm := GeomQ.mono (P := P) (B := B) (any := any) (great := great) (w := w) (Q' := GQ any kind (x :: (l4 ++ body))) (GQ.parts (kind := kind) (any := any) (F := FK (kidOf 0)) hx h4 hc hke hte hk' (by omega) (by omega) (by omega) hkind (fun ks a hF => .inr ⟨.inl rfl, hF.2, hF.1⟩))
        exact (c50_gc P B any great kind x l4 body cc t w (fun r gr w hr hs => IH 0 r gr w hr hs) h4 hc hx hvar (by omega) hkk htt h).mono hm
end Go.Proofs.YtahnhhkbdgaidaaGreatDoor
