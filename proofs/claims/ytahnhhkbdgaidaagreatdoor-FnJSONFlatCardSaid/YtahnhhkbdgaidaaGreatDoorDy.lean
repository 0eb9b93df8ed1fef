/-
  Plain law: how long the GeoJSON is; the law of FnJSONFlat with no program in sight.
-/
import Derived.Test.YtahnhhkbdgaidaaGreatDoorDk
import Derived.Test.YtahnhhkbdgaidaaGreatDoorCh
import Derived.Test.YtahnhhkbdgaidaaGreatDoorCz
namespace Go.Proofs.YtahnhhkbdgaidaaGreatDoor
open Go.RowKit
set_option maxRecDepth 100000

theorem numsOf_length (t : Int) (l : List Crd) (h0 : 0 ≤ t) (h1 : t ≤ 3) : (numsOf t l).length = l.length * dN t := by
  unfold numsOf
  induction l with
  | nil => simp
  | cons c r ih => rw [List.flatMap_cons, List.length_append, ih, crdNums_len t c h0 h1, List.length_cons, Nat.succ_mul, Nat.add_comm]
theorem plsOf_length (t : Int) (xs : List Nat) : (plsOf t xs).length = xs.length / dN t := by simp [plsOf]
theorem crdOf_app (t : Int) (a r : List Nat) (h : a.length = dN t) (i : Nat) : crdOf t (a ++ r) (i + 1) = crdOf t r i := by
  have e : ∀ j, (a ++ r).getD ((i + 1) * dN t + j) 0 = r.getD (i * dN t + j) 0 := fun j => by
    simp only [List.getD]
    rw [Nat.succ_mul, List.getElem?_append_right (by omega), show i * dN t + dN t + j - a.length = i * dN t + j by omega]
  have e0 := e 0
  simp only [Nat.add_zero] at e0
  simp only [crdOf, e, e0]
theorem crdOf_fst (t : Int) (a r : List Nat) (h : a.length = dN t) (h0 : 0 ≤ t) (h1 : t ≤ 3) : crdOf t (a ++ r) 0 = crdOf t a 0 := by
  obtain ⟨d0, d1, d2, d3⟩ := dN_vals
  have e : ∀ j, j < a.length → (a ++ r).getD j 0 = a.getD j 0 := fun j hj => by
    simp only [List.getD]; rw [List.getElem?_append_left hj]
  rcases four t h0 h1 with rfl | rfl | rfl | rfl
  · simp only [crdOf, Nat.zero_mul, Nat.zero_add]; rw [e 0 (by omega), e 1 (by omega)]; simp
  · simp only [crdOf, Nat.zero_mul, Nat.zero_add]; rw [e 0 (by omega), e 1 (by omega), e 2 (by omega)]; simp
  · simp only [crdOf, Nat.zero_mul, Nat.zero_add]; rw [e 0 (by omega), e 1 (by omega), e 2 (by omega)]; simp
  · simp only [crdOf, Nat.zero_mul, Nat.zero_add]; rw [e 0 (by omega), e 1 (by omega), e 2 (by omega), e 3 (by omega)]
/-- The places of the numbers of places. -/
theorem plsOf_nums (t : Int) (l : List Crd) (h0 : 0 ≤ t) (h1 : t ≤ 3) : plsOf t (numsOf t l) = l.map fun c => crdOf t (crdNums t c) 0 := by
  have hb := dN_bd t
  induction l with
  | nil => simp [numsOf, plsOf]
  | cons c r ih =>
    have hl := crdNums_len t c h0 h1
    have en : numsOf t (c :: r) = crdNums t c ++ numsOf t r := by simp [numsOf]
    rw [en, List.map_cons, ← ih]
    have hnl := numsOf_length t r h0 h1
    unfold plsOf
    rw [List.length_append, hl, hnl, Nat.add_comm, ← Nat.succ_mul, Nat.mul_div_cancel _ (by omega), Nat.mul_div_cancel _ (by omega), List.range_succ_eq_map, List.map_cons, List.map_map]
    rw [crdOf_fst t _ _ hl h0 h1]
    congr 1
    refine List.map_congr_left fun i _ => ?_
    exact crdOf_app t _ _ hl i
theorem back_crd (f : Nat → List UInt8) (t : Int) (c : Crd) (h0 : 0 ≤ t) (h1 : t ≤ 3) (hz : hasZ t = hasZ c.t) : jcrdC f (crdOf t (crdNums t c) 0) = jcrdC f c := by
  unfold jcrdC jcrdB
  obtain ⟨x, y, z, m, u⟩ := c
  simp only at hz
  rw [← hz]
  rcases four t h0 h1 with rfl | rfl | rfl | rfl <;> simp [crdOf, crdNums, hasZ, optB]
theorem plsOf_t (t : Int) (xs : List Nat) : ∀ c ∈ plsOf t xs, c.t = t := fun c hc => by
  obtain ⟨i, _, rfl⟩ := List.mem_map.1 hc; rfl

/-- Nothing has to be changed to make a geometry of it. -/
def G.own (k d : Int) (ns : List Nat) (ks : List G) : Prop :=
  0 ≤ k ∧ k ≤ 6 ∧ 0 ≤ d ∧ d ≤ 3 ∧ (k = 1 → ns.length = 0 ∨ ns.length = dN d) ∧ (k = 2 → ns.length % dN d = 0) ∧ (¬ (k = 1 ∨ k = 2) → ns = []) ∧ (k = 1 ∨ k = 2 → ks = [])
mutual
def G.good : G → Prop
  | .mk k d ns ks => G.own k d ns ks ∧ G.goodL k d ks
def G.goodL (k d : Int) : List G → Prop
  | [] => True
  | g :: r => (g.dim = d ∧ (kidOf k < 0 ∨ g.kind = kidOf k) ∧ g.good) ∧ G.goodL k d r
end
theorem G.goodL_iff (k d : Int) : ∀ (l : List G), G.goodL k d l ↔ ∀ g ∈ l, g.dim = d ∧ (kidOf k < 0 ∨ g.kind = kidOf k) ∧ g.good
  | [] => by simp [G.goodL]
  | g :: r => by simp only [G.goodL, G.goodL_iff k d r, List.forall_mem_cons]
theorem G.good_eq (g : G) : g.good ↔ G.own g.kind g.dim g.nums g.kids ∧ ∀ x ∈ g.kids, x.dim = g.dim ∧ (kidOf g.kind < 0 ∨ x.kind = kidOf g.kind) ∧ x.good := by
  cases g; simp only [G.good, G.goodL_iff, G.kind, G.dim, G.nums, G.kids]
theorem own_force {k d : Int} {ns : List Nat} {ks ks' : List G} (h : G.own k d ns ks) (t : Int) (h0 : 0 ≤ t) (h1 : t ≤ 3) (hk : ks = [] → ks' = []) : G.own k t (numsOf t (plsOf d ns)) ks' := by
  obtain ⟨k0, k1, d0, d1, e1, e2, e3, e4⟩ := h
  have hb := dN_bd d
  refine ⟨k0, k1, h0, h1, fun hk1 => ?_, fun hk2 => ?_, fun hn => ?_, fun hl => hk (e4 hl)⟩
  · rw [numsOf_length t _ h0 h1, plsOf_length]
    rcases e1 hk1 with e | e
    · left; rw [e, Nat.zero_div, Nat.zero_mul]
    · right; rw [e, Nat.div_self (by omega), Nat.one_mul]
  · rw [numsOf_length t _ h0 h1]; exact Nat.mul_mod_left _ _
  · rw [e3 hn]; exact nums_none d t
mutual
theorem force_good : ∀ (g : G) (t : Int), g.good → 0 ≤ t → t ≤ 3 → (g.force t).good
  | .mk k d ns ks, t, h, h0, h1 => by
    simp only [G.good] at h
    simp only [G.force, G.good]
    refine ⟨own_force h.1 t h0 h1 (fun e => by subst e; rfl), forceL_good k d ks t h.2 h0 h1⟩
theorem forceL_good : ∀ (k d : Int) (l : List G) (t : Int), G.goodL k d l → 0 ≤ t → t ≤ 3 → G.goodL k t (G.forceL l t)
  | _, _, [], _, _, _, _ => by simp [G.forceL, G.goodL]
  | k, d, g :: r, t, h, h0, h1 => by
    simp only [G.goodL] at h
    simp only [G.forceL, G.goodL]
    refine ⟨⟨by rw [G.force_eq]; rfl, ?_, force_good g t h.1.2.2 h0 h1⟩, forceL_good k d r t h.2 h0 h1⟩
    have e : (g.force t).kind = g.kind := by rw [G.force_eq]; rfl
    rw [e]; exact h.1.2.1
end
mutual
theorem force_self : ∀ (g : G), g.good → g.force g.dim = g
  | .mk k d ns ks, h => by
    simp only [G.good] at h
    obtain ⟨⟨k0, k1, d0, d1, e1, e2, e3, e4⟩, hk⟩ := h
    simp only [G.force, G.dim]
    have hn : numsOf d (plsOf d ns) = ns := nums_back d ns d0 d1 (by
      by_cases h1 : k = 1
      · rcases e1 h1 with e | e
        · rw [e, Nat.zero_mod]
        · rw [e, Nat.mod_self]
      · by_cases h2 : k = 2
        · exact e2 h2
        · rw [e3 (by omega)]; simp)
    rw [hn, forceL_self k d ks hk]
theorem forceL_self : ∀ (k d : Int) (l : List G), G.goodL k d l → G.forceL l d = l
  | _, _, [], _ => by simp [G.forceL]
  | k, d, g :: r, h => by
    simp only [G.goodL] at h
    simp only [G.forceL]
    have := force_self g h.1.2.2
    rw [h.1.1] at this
    rw [this, forceL_self k d r h.2]
end
theorem fold_dims (d : Int) (d0 : 0 ≤ d) (d1 : d ≤ 3) : ∀ (l : List Int) (s : Int), (∀ x ∈ l, x = d) → s = 3 ∨ s = d → l ≠ [] → l.foldl andL s = d
  | [], _, _, _, h => absurd rfl h
  | x :: r, s, hx, hs, _ => by
    obtain rfl := hx x (by simp)
    have e : andL s x = x := by
      rcases hs with rfl | rfl
      · rcases four x d0 d1 with rfl | rfl | rfl | rfl <;> decide
      · rcases four s d0 d1 with rfl | rfl | rfl | rfl <;> decide
    rw [List.foldl_cons, e]
    by_cases hr : r = []
    · subst hr; rfl
    · exact fold_dims x d0 d1 r x (fun y hy => hx y (by simp [hy])) (.inr rfl) hr
mutual
theorem newG_of_good : ∀ (g : G), g.good → newG g = g
  | .mk k d ns ks, h => by
    simp only [G.good] at h
    obtain ⟨⟨k0, k1, d0, d1, e1, e2, e3, e4⟩, hk⟩ := h
    have hb := dN_bd d
    have hkk : kindOf k = k := by unfold kindOf; split <;> omega
    have hdd : d % 4 = d := by omega
    have hL := newGL_of_good k d ks hk
    simp only [newG, hkk, hdd, hL]
    by_cases hl : k = 1 ∨ k = 2
    · rw [if_pos hl, e4 hl]
      have : leafN k d ns = ns := by
        unfold leafN
        rcases hl with rfl | rfl
        · rw [if_pos rfl]
          rcases e1 rfl with e | e
          · rw [List.eq_nil_of_length_eq_zero e]; simp
          · rw [e, Nat.div_self (by omega)]; simp [← e]
        · rw [if_neg (by decide)]
          have := Nat.div_add_mod ns.length (dN d)
          rw [e2 rfl, Nat.mul_comm, Nat.add_zero] at this
          rw [this, List.take_length]
      rw [this]
    · rw [if_neg hl, e3 hl]
      have hf : ks.filter (fitG k) = ks := by
        rw [List.filter_eq_self]
        intro x hx
        have := ((G.goodL_iff k d ks).1 hk x hx).2.1
        unfold fitG
        rcases this with h | h
        · simp [h]
        · simp [h]
      rw [hf]
      unfold gatherG
      by_cases h0 : ks.length = 0
      · rw [if_pos h0, List.eq_nil_of_length_eq_zero h0]
      · rw [if_neg h0]
        have hne : ks ≠ [] := fun e => h0 (by rw [e]; rfl)
        rw [fold_dims d d0 d1 (ks.map G.dim) 3 (fun x hx => by
          obtain ⟨y, hy, rfl⟩ := List.mem_map.1 hx
          exact ((G.goodL_iff k d ks).1 hk y hy).1) (.inl rfl) (by simpa using hne)]
        simp only [G.force, nums_none]
        rw [forceL_self k d ks hk]
theorem newGL_of_good : ∀ (k d : Int) (l : List G), G.goodL k d l → newGL l = l
  | _, _, [], _ => by simp [newGL]
  | k, d, g :: r, h => by
    simp only [G.goodL] at h
    simp only [newGL]
    rw [newG_of_good g h.1.2.2, newGL_of_good k d r h.2]
end
theorem kindOf_bd (k : Int) : 0 ≤ kindOf k ∧ kindOf k ≤ 6 := by unfold kindOf; split <;> omega
theorem fold_bd : ∀ (l : List Int) (s : Int), 0 ≤ s → s ≤ 3 → (∀ t ∈ l, 0 ≤ t ∧ t ≤ 3) → 0 ≤ l.foldl andL s ∧ l.foldl andL s ≤ 3 := fun l s h0 h1 h => by
  rw [foldL_eq l s h0 h1 h]
  induction l generalizing s with
  | nil => exact ⟨h0, h1⟩
  | cons t r ih =>
    have ht := h t (by simp)
    have hb := andT_bd s t h0 h1 ht.1 ht.2
    rw [List.foldl_cons]
    exact ih _ hb.1 hb.2 (fun x hx => h x (by simp [hx]))
mutual
theorem newG_good : ∀ (g : G), (newG g).good
  | .mk k d ns ks => by
    have hkb := kindOf_bd k
    have hL := newGL_good ks
    have hd0 : 0 ≤ d % 4 := by omega
    have hd1 : d % 4 ≤ 3 := by omega
    simp only [newG]
    generalize kindOf k = k' at *
    generalize d % 4 = d' at *
    have hb := dN_bd d'
    by_cases hl : k' = 1 ∨ k' = 2
    · rw [if_pos hl]
      simp only [G.good, G.goodL, and_true]
      have hdm := Nat.div_mul_le_self ns.length (dN d')
      refine ⟨hkb.1, hkb.2, hd0, hd1, fun e => ?_, fun e => ?_, fun e => absurd hl e, fun _ => rfl⟩
      · unfold leafN
        rw [if_pos e, List.length_take]
        rcases Nat.eq_zero_or_pos (ns.length / dN d') with h | h
        · left; rw [h]; simp
        · right
          rw [Nat.min_eq_right h, Nat.one_mul, Nat.min_eq_left]
          have := Nat.mul_le_mul_right (dN d') h
          omega
      · unfold leafN
        rw [if_neg (by omega), List.length_take, Nat.min_eq_left hdm]
        exact Nat.mul_mod_left _ _
    · rw [if_neg hl]
      unfold gatherG
      have hL' : ∀ x ∈ (newGL ks).filter (fitG k'), fitG k' x = true ∧ x.good := fun x hx => by
        rw [List.mem_filter] at hx
        exact ⟨hx.2, hL x hx.1⟩
      generalize (newGL ks).filter (fitG k') = l at *
      by_cases h0 : l.length = 0
      · rw [if_pos h0]
        simp only [G.good, G.goodL, and_true]
        exact ⟨hkb.1, hkb.2, hd0, hd1, fun e => absurd (.inl e) hl, fun e => absurd (.inr e) hl, fun _ => rfl, fun _ => rfl⟩
      · rw [if_neg h0]
        have hds : ∀ t ∈ l.map G.dim, 0 ≤ t ∧ t ≤ 3 := fun t ht => by
          obtain ⟨x, hx, rfl⟩ := List.mem_map.1 ht
          have := (hL' x hx).2
          rw [G.good_eq] at this
          exact ⟨this.1.2.2.1, this.1.2.2.2.1⟩
        have hT := fold_bd (l.map G.dim) 3 (by omega) (by omega) hds
        generalize (l.map G.dim).foldl andL 3 = T at *
        rw [G.force_eq]
        simp only [G.kind, G.dim, G.nums, G.kids, nums_none]
        rw [G.good_eq]
        refine ⟨⟨hkb.1, hkb.2, hT.1, hT.2, fun e => absurd (.inl e) hl, fun e => absurd (.inr e) hl, fun _ => rfl, fun e => absurd e hl⟩, fun x hx => ?_⟩
        obtain ⟨y, hy, rfl⟩ := List.mem_map.1 hx
        refine ⟨by rw [G.force_eq]; rfl, ?_, force_good y T (hL' y hy).2 hT.1 hT.2⟩
        have e : (y.force T).kind = y.kind := by rw [G.force_eq]; rfl
        have hf := (hL' y hy).1
        rw [e]
        simp only [G.kind]
        unfold fitG at hf
        simp only [Bool.or_eq_true, decide_eq_true_eq, beq_iff_eq] at hf
        exact hf.imp id fun h => h.symm
theorem newGL_good : ∀ (l : List G), ∀ x ∈ newGL l, x.good
  | [] => by simp [newGL]
  | g :: r => by
    simp only [newGL]
    intro x hx
    rcases List.mem_cons.1 hx with rfl | hx
    · exact newG_good g
    · exact newGL_good r x hx
end

/-- The GeoJSON of good plain data. -/
def jlnG (f : Nat → List UInt8) (g : G) : List UInt8 := jwrap ((plsOf g.dim g.nums).map (jcrdC f))
def jptG (f : Nat → List UInt8) (g : G) : List UInt8 := if g.nums.length = 0 then [91, 93] else jcrdC f (crdOf g.dim g.nums 0)
def fullG (g : G) : Bool := decide (g.kind ≠ 1) || decide (0 < g.nums.length)
def jtext (f : Nat → List UInt8) (g : G) : List UInt8 :=
  if g.kind = 1 then jhdPt ++ jptG f g ++ [125] else if g.kind = 2 then jhdLn ++ jlnG f g ++ [125]
  else if g.kind = 3 then jhdPg ++ jwrap (g.kids.map (jlnG f)) ++ [125]
  else if g.kind = 4 then jhdMp ++ sepB 44 ((g.kids.filter fullG).map (jptG f)) ++ [93, 125]
  else if g.kind = 5 then jhdMl ++ jwrap (g.kids.map (jlnG f)) ++ [125]
  else if g.kind = 6 then jhdMg ++ jwrap (g.kids.map fun k => jwrap (k.kids.map (jlnG f))) ++ [125] else []
theorem jpt_ptG (f : Nat → List UInt8) (p : Pt) (h : p.ok) : jptG f (ptG p) = jptB f p := by
  obtain ⟨c, u⟩ := p
  cases u
  · simp [jptG, jptB, ptG, G.nums]
  · obtain ⟨h0, h1⟩ := h
    have hl := crdNums_len c.t c h0 h1
    have hb := dN_bd c.t
    simp only [jptG, jptB, ptG, G.nums, G.dim, if_true]
    rw [if_neg (by omega)]
    exact back_crd f c.t c h0 h1 rfl
theorem full_ptG (p : Pt) (h : p.ok) : fullG (ptG p) = p.full := by
  obtain ⟨c, u⟩ := p
  cases u
  · simp [fullG, ptG, G.nums, G.kind]
  · have hl := crdNums_len c.t c h.1 h.2
    have hb := dN_bd c.t
    simp only [fullG, ptG, G.nums, G.kind, if_true]
    simp; omega
theorem jln_lnG (f : Nat → List UInt8) (l : Ln) : jlnG f (lnG l) = jlnB f l := rfl
theorem jtext_1 (f : Nat → List UInt8) (g : G) (h : g.kind = 1) : jtext f g = jhdPt ++ jptG f g ++ [125] := by unfold jtext; rw [if_pos h]
theorem jtext_2 (f : Nat → List UInt8) (g : G) (h : g.kind = 2) : jtext f g = jhdLn ++ jlnG f g ++ [125] := by unfold jtext; rw [if_neg (by omega), if_pos h]
theorem jtext_3 (f : Nat → List UInt8) (g : G) (h : g.kind = 3) : jtext f g = jhdPg ++ jwrap (g.kids.map (jlnG f)) ++ [125] := by unfold jtext; rw [if_neg (by omega), if_neg (by omega), if_pos h]
theorem jtext_4 (f : Nat → List UInt8) (g : G) (h : g.kind = 4) : jtext f g = jhdMp ++ sepB 44 ((g.kids.filter fullG).map (jptG f)) ++ [93, 125] := by unfold jtext; rw [if_neg (by omega), if_neg (by omega), if_neg (by omega), if_pos h]
theorem jtext_5 (f : Nat → List UInt8) (g : G) (h : g.kind = 5) : jtext f g = jhdMl ++ jwrap (g.kids.map (jlnG f)) ++ [125] := by unfold jtext; rw [if_neg (by omega), if_neg (by omega), if_neg (by omega), if_neg (by omega), if_pos h]
theorem jtext_6 (f : Nat → List UInt8) (g : G) (h : g.kind = 6) : jtext f g = jhdMg ++ jwrap (g.kids.map fun k => jwrap (k.kids.map (jlnG f))) ++ [125] := by unfold jtext; rw [if_neg (by omega), if_neg (by omega), if_neg (by omega), if_neg (by omega), if_neg (by omega), if_pos h]
theorem jtext_0 (f : Nat → List UInt8) (g : G) (h : g.kind = 0) : jtext f g = [] := by unfold jtext; rw [if_neg (by omega), if_neg (by omega), if_neg (by omega), if_neg (by omega), if_neg (by omega), if_neg (by omega)]
theorem jtext_geo (f : Nat → List UInt8) (x : Geo) (h : x.ok) : jtext f x.toG = jgeoB f x := by
  cases x with
  | pt p => exact (jtext_1 f (ptG p) rfl).trans (by rw [jpt_ptG f p h]; rfl)
  | ln l => exact jtext_2 f (lnG l) rfl
  | pg p =>
    refine (jtext_3 f (pgG p) rfl).trans ?_
    show jhdPg ++ jwrap ((p.rings.map lnG).map (jlnG f)) ++ [125] = jhdPg ++ jwrap (p.rings.map (jlnB f)) ++ [125]
    rw [List.map_map]; rfl
  | mp ps t =>
    simp only [Geo.ok] at h
    refine (jtext_4 f (.mk 4 t [] (ps.map ptG)) rfl).trans ?_
    have e : ((ps.map ptG).filter fullG).map (jptG f) = (ps.filter (·.full)).map fun p => jcrdC f p.c := by
      rw [List.filter_map, List.map_map]
      have e1 : ps.filter (fullG ∘ ptG) = ps.filter (·.full) := List.filter_congr fun p hp => full_ptG p (h.1 p hp)
      rw [e1]
      refine List.map_congr_left fun p hp => ?_
      rw [List.mem_filter] at hp
      rw [Function.comp_apply, jpt_ptG f p (h.1 p hp.1), jptB, if_pos hp.2]
    show jhdMp ++ sepB 44 (((ps.map ptG).filter fullG).map (jptG f)) ++ [93, 125] = jhdMp ++ jmid f ps ps.length ++ [93, 125]
    rw [e, jmid, List.take_length]
  | ml ls t =>
    refine (jtext_5 f (.mk 5 t [] (ls.map lnG)) rfl).trans ?_
    show jhdMl ++ jwrap ((ls.map lnG).map (jlnG f)) ++ [125] = jhdMl ++ jwrap (ls.map (jlnB f)) ++ [125]
    rw [List.map_map]; rfl
  | mg ps t =>
    refine (jtext_6 f (.mk 6 t [] (ps.map pgG)) rfl).trans ?_
    show jhdMg ++ jwrap ((ps.map pgG).map fun k => jwrap (k.kids.map (jlnG f))) ++ [125] = jhdMg ++ jwrap ((ps.map Pg.rings).map (jpgB f)) ++ [125]
    rw [List.map_map, List.map_map]
    congr 3
    refine List.map_congr_left fun p _ => ?_
    show jwrap ((p.rings.map lnG).map (jlnG f)) = jwrap (p.rings.map (jlnB f))
    rw [List.map_map]; rfl
  | gc gs t => exact jtext_0 f (.mk 0 t [] (Geo.toGL gs)) rfl

/-- Without the empty points. -/
def flatG (h : G) : G := .mk h.kind h.dim h.nums (h.kids.filter fullG)
theorem flat_good (h : G) (hg : h.good) : (flatG h).good := by
  rw [G.good_eq] at hg
  rw [G.good_eq]
  obtain ⟨⟨k0, k1, d0, d1, e1, e2, e3, e4⟩, hk⟩ := hg
  refine ⟨⟨k0, k1, d0, d1, e1, e2, e3, fun e => ?_⟩, fun x hx => hk x (List.mem_filter.1 hx).1⟩
  show h.kids.filter fullG = []
  rw [e4 e]; rfl
theorem jln_force (f : Nat → List UInt8) (g : G) (t : Int) (h0 : 0 ≤ t) (h1 : t ≤ 3) (hz : hasZ t = hasZ g.dim) : jlnG f (g.force t) = jlnG f g := by
  rw [G.force_eq]
  simp only [jlnG, G.dim, G.nums]
  rw [plsOf_nums t _ h0 h1, List.map_map]
  congr 1
  refine List.map_congr_left fun c hc => ?_
  exact back_crd f t c h0 h1 (by rw [plsOf_t _ _ c hc]; exact hz)
theorem jpt_force (f : Nat → List UInt8) (g : G) (t : Int) (hg : g.good) (hk : g.kind = 1) (h0 : 0 ≤ t) (h1 : t ≤ 3) (hz : hasZ t = hasZ g.dim) : jptG f (g.force t) = jptG f g ∧ fullG (g.force t) = fullG g := by
  rw [G.good_eq] at hg
  obtain ⟨⟨k0, k1, d0, d1, e1, e2, e3, e4⟩, _⟩ := hg
  have hbd := dN_bd g.dim
  have hbt := dN_bd t
  have hl : (g.force t).nums.length = g.nums.length / dN g.dim * dN t := by
    rw [G.force_eq]; simp only [G.nums]; rw [numsOf_length t _ h0 h1, plsOf_length]
  have hk' : (g.force t).kind = 1 := by rw [G.force_eq]; exact hk
  rcases e1 hk with e | e
  · rw [e, Nat.zero_div, Nat.zero_mul] at hl
    simp only [jptG, fullG, hl, e, hk, hk']
    simp
  · rw [e, Nat.div_self (by omega), Nat.one_mul] at hl
    have hp : plsOf g.dim g.nums = [crdOf g.dim g.nums 0] := by
      unfold plsOf; rw [e, Nat.div_self (by omega)]; rfl
    refine ⟨?_, by simp only [fullG, hl, e, hk, hk']; simp; omega⟩
    unfold jptG
    rw [if_neg (by omega), if_neg (by omega), G.force_eq, hp]
    simp only [G.dim, G.nums, numsOf, List.flatMap_cons, List.flatMap_nil, List.append_nil]
    exact back_crd f t _ h0 h1 hz
theorem flat_law (f : Nat → List UInt8) (h : G) (hg : h.good) (t : Int) (h0 : 0 ≤ t) (h1 : t ≤ 3) (hz : hasZ t = hasZ h.dim) : jtext f ((flatG h).force t) = jtext f h := by
  have hgg := hg
  rw [G.good_eq] at hg
  obtain ⟨⟨k0, k1, d0, d1, e1, e2, e3, e4⟩, hk⟩ := hg
  have hself : ∀ (l : List G), (∀ x ∈ l, x.kind ≠ 1) → l.filter fullG = l := fun l hl => by
    rw [List.filter_eq_self]; intro x hx; simp [fullG, hl x hx]
  have hln : ∀ l : List G, (∀ x ∈ l, x.dim = h.dim) → (l.map (·.force t)).map (jlnG f) = l.map (jlnG f) := fun l hl => by
    rw [List.map_map]
    exact List.map_congr_left fun x hx => jln_force f x t h0 h1 (by rw [hl x hx]; exact hz)
  have hc : h.kind = 0 ∨ h.kind = 1 ∨ h.kind = 2 ∨ h.kind = 3 ∨ h.kind = 4 ∨ h.kind = 5 ∨ h.kind = 6 := by omega
  have hkk : ∀ g : G, (g.force t).kind = g.kind := fun g => by rw [G.force_eq]; rfl
  have hkd : ∀ g : G, (g.force t).kids = g.kids.map (·.force t) := fun g => by rw [G.force_eq]; rfl
  have hfk : ((flatG h).force t).kind = h.kind := hkk _
  have hfd : ((flatG h).force t).kids = (h.kids.filter fullG).map (·.force t) := hkd _
  have hone : h.kind = 1 ∨ h.kind = 2 → flatG h = h := fun e => by
    obtain ⟨k, d, ns, ks⟩ := h
    obtain rfl : ks = [] := e4 e
    rfl
  have hkid : ∀ q, kidOf h.kind = q → 0 ≤ q → ∀ x ∈ h.kids, x.kind = q := fun q hq hq0 x hx => by
    have := (hk x hx).2.1; omega
  rcases hc with e | e | e | e | e | e | e
  · rw [jtext_0 f _ (hfk.trans e), jtext_0 f h e]
  · rw [hone (.inl e), jtext_1 f _ ((hkk h).trans e), jtext_1 f h e, (jpt_force f h t hgg e h0 h1 hz).1]
  · rw [hone (.inr e), jtext_2 f _ ((hkk h).trans e), jtext_2 f h e, jln_force f h t h0 h1 hz]
  · rw [jtext_3 f _ (hfk.trans e), jtext_3 f h e, hfd, hself h.kids (fun x hx => by have := hkid 2 (by rw [e]; rfl) (by decide) x hx; omega), hln h.kids (fun x hx => (hk x hx).1)]
  · rw [jtext_4 f _ (hfk.trans e), jtext_4 f h e, hfd]
    have hj : ∀ x ∈ h.kids, jptG f (x.force t) = jptG f x ∧ fullG (x.force t) = fullG x := fun x hx => jpt_force f x t (hk x hx).2.2 (hkid 1 (by rw [e]; rfl) (by decide) x hx) h0 h1 (by rw [(hk x hx).1]; exact hz)
    have e7 : ((h.kids.filter fullG).map (·.force t)).filter fullG = (h.kids.filter fullG).map (·.force t) := by
      rw [List.filter_eq_self]
      intro y hy
      obtain ⟨x, hx, rfl⟩ := List.mem_map.1 hy
      rw [List.mem_filter] at hx
      rw [(hj x hx.1).2]; exact hx.2
    have e6 : (((h.kids.filter fullG).map (·.force t)).filter fullG).map (jptG f) = (h.kids.filter fullG).map (jptG f) := by
      rw [e7, List.map_map]
      exact List.map_congr_left fun x hx => (hj x (List.mem_filter.1 hx).1).1
    rw [e6]
  · rw [jtext_5 f _ (hfk.trans e), jtext_5 f h e, hfd, hself h.kids (fun x hx => by have := hkid 2 (by rw [e]; rfl) (by decide) x hx; omega), hln h.kids (fun x hx => (hk x hx).1)]
  · rw [jtext_6 f _ (hfk.trans e), jtext_6 f h e, hfd, hself h.kids (fun x hx => by have := hkid 3 (by rw [e]; rfl) (by decide) x hx; omega)]
    have e6 : (h.kids.map (·.force t)).map (fun k => jwrap (k.kids.map (jlnG f))) = h.kids.map fun k => jwrap (k.kids.map (jlnG f)) := by
      rw [List.map_map]
      refine List.map_congr_left fun x hx => ?_
      have hx3 := (hk x hx).2.2
      rw [G.good_eq] at hx3
      show jwrap ((x.force t).kids.map (jlnG f)) = _
      rw [hkd x, hln x.kids (fun y hy => by rw [(hx3.2 y hy).1]; exact (hk x hx).1)]
    rw [e6]
end Go.Proofs.YtahnhhkbdgaidaaGreatDoor
namespace Go.Proofs.YtahnhhkbdgaidaaGreatDoor
open Go.RowKit
set_option maxRecDepth 100000
theorem jwrap_len (ps : List (List UInt8)) : (jwrap ps).length ≤ totB ps + 2 := by
  have := sepB_len 44 ps
  unfold jwrap
  simp only [List.length_append, List.length_cons, List.length_nil]; omega
theorem jcrdC_len (f : Nat → List UInt8) (hf : ∀ x, (f x).length ≤ 7100) (c : Crd) : (jcrdC f c).length ≤ 21400 := jcrdB_len f hf c.x c.y c.z c.t
theorem jln_len (f : Nat → List UInt8) (hf : ∀ x, (f x).length ≤ 7100) (g : G) : (jlnG f g).length + 100 ≤ 40000 * g.pw := by
  have h1 := jwrap_len ((plsOf g.dim g.nums).map (jcrdC f))
  have h2 := totB_map (jcrdC f) 21400 (plsOf g.dim g.nums) (fun x _ => jcrdC_len f hf x)
  have h4 : (plsOf g.dim g.nums).length = g.nums.length / dN g.dim := by simp [plsOf]
  have e : g.pw = 1 + g.nums.length / dN g.dim + G.pwL g.kids := by cases g; rfl
  rw [h4] at h2
  rw [e]
  unfold jlnG
  generalize g.nums.length / dN g.dim = q at *
  omega
theorem jpt_len (f : Nat → List UInt8) (hf : ∀ x, (f x).length ≤ 7100) (g : G) : (jptG f g).length + 100 ≤ 40000 * g.pw := by
  have h1 := jcrdC_len f hf (crdOf g.dim g.nums 0)
  have h2 := g.pw_pos
  unfold jptG
  split
  · simp only [List.length_cons, List.length_nil]; omega
  · omega
theorem tot_len (f : G → List UInt8) (l : List G) (h : ∀ g ∈ l, (f g).length + 100 ≤ 40000 * g.pw) : totB (l.map f) + 99 * l.length ≤ 40000 * G.pwL l := by
  induction l with
  | nil => simp [totB, G.pwL]
  | cons a r ih =>
    have h1 := h a (by simp)
    have h2 := ih (fun g hg => h g (by simp [hg]))
    simp only [totB, List.map_cons, List.sum_cons, G.pwL, List.length_cons] at *
    omega
theorem jpg_len (f : Nat → List UInt8) (hf : ∀ x, (f x).length ≤ 7100) (g : G) : (jwrap (g.kids.map (jlnG f))).length + 100 ≤ 40000 * g.pw := by
  have h1 := jwrap_len (g.kids.map (jlnG f))
  have h2 := tot_len (jlnG f) g.kids (fun x _ => jln_len f hf x)
  have e : g.pw = 1 + g.nums.length / dN g.dim + G.pwL g.kids := by cases g; rfl
  rw [e]
  generalize g.nums.length / dN g.dim = q at *
  omega
theorem jtext_len (f : Nat → List UInt8) (hf : ∀ x, (f x).length ≤ 7100) (g : G) : (jtext f g).length ≤ 40000 * g.pw := by
  have hp := g.pw_pos
  have e : g.pw = 1 + g.nums.length / dN g.dim + G.pwL g.kids := by cases g; rfl
  have l1 : jhdPt.length ≤ 60 ∧ jhdLn.length ≤ 60 ∧ jhdPg.length ≤ 60 ∧ jhdMp.length ≤ 60 ∧ jhdMl.length ≤ 60 ∧ jhdMg.length ≤ 60 := by decide
  unfold jtext
  split
  · have := jpt_len f hf g; simp only [List.length_append, List.length_cons, List.length_nil]; omega
  split
  · have := jln_len f hf g; simp only [List.length_append, List.length_cons, List.length_nil]; omega
  split
  · have := jpg_len f hf g; simp only [List.length_append, List.length_cons, List.length_nil]; omega
  split
  · have h1 := sepB_len 44 ((g.kids.filter fullG).map (jptG f))
    have h2 := tot_len (jptG f) (g.kids.filter fullG) (fun x _ => jpt_len f hf x)
    have h3 := pwL_filter fullG g.kids
    simp only [List.length_append, List.length_cons, List.length_nil]
    generalize g.nums.length / dN g.dim = q at *
    omega
  split
  · have := jpg_len f hf g; simp only [List.length_append, List.length_cons, List.length_nil]; omega
  split
  · have h1 := jwrap_len (g.kids.map fun k => jwrap (k.kids.map (jlnG f)))
    have h2 := tot_len (fun k => jwrap (k.kids.map (jlnG f))) g.kids (fun x _ => jpg_len f hf x)
    simp only [List.length_append, List.length_cons, List.length_nil]
    generalize g.nums.length / dN g.dim = q at *
    omega
  · simp
mutual
theorem good_dimok : ∀ g : G, g.good → g.dimok
  | .mk k d ns ks, h => by
    simp only [G.good] at h
    simp only [G.dimok]
    exact ⟨h.1.2.2.1, h.1.2.2.2.1, goodL_dimok k d ks h.2⟩
theorem goodL_dimok : ∀ (k d : Int) (l : List G), G.goodL k d l → G.dimokL l
  | _, _, [], _ => by simp [G.dimokL]
  | k, d, g :: r, h => by
    simp only [G.goodL] at h
    simp only [G.dimokL]
    exact ⟨good_dimok g h.1.2.2, goodL_dimok k d r h.2⟩
end
mutual
theorem fine_ok : ∀ g : G, g.fine → g.ok
  | .mk k d ns ks, h => by
    simp only [G.fine] at h
    simp only [G.ok]
    exact ⟨h.2.2.1, h.2.2.2.1, fineL_ok ks h.2.2.2.2⟩
theorem fineL_ok : ∀ l : List G, G.fineL l → G.okL l
  | [], _ => by simp [G.okL]
  | g :: r, h => by
    simp only [G.fineL] at h
    simp only [G.okL]
    exact ⟨fine_ok g h.1, fineL_ok r h.2⟩
end
theorem good_ok (g : G) (h : g.good) (hp : g.pw ≤ 200000) : g.ok := fine_ok g (fine_of g (good_dimok g h) hp)
/-- What the forced geometry without empty points is. -/
def flatF (g : G) : G := (flatG (newG g)).force ((newG g).dim % 2)
theorem json_law (f : Nat → List UInt8) (hf : ∀ x, (f x).length ≤ 7100) (g : G) (hsm : 0 ≤ gw g 2000) :
    g.ok ∧ (newG g).fine ∧ (jgeoB f (geoOf g)).length ≤ 80000000 ∧ (flatG (newG g)).ok ∧ ((geoOf (flatG (newG g))).force ((newG g).dim % 2)).toG = flatF g ∧ (flatF g).ok ∧ (flatF g).kind = (newG g).kind ∧ jgeoB f (geoOf (flatF g)) = jgeoB f (geoOf g) ∧ 0 ≤ (newG g).dim ∧ (newG g).dim ≤ 3 := by
  have hw := gw_wt g 2000 hsm
  have hok := wt_ok g (by omega)
  have hp := newG_pw g
  have hg := newG_good g
  have hfg := flat_good _ hg
  have hfine := newG_fine g (by omega)
  have e0 := newG_geo g hok
  have hgo := geoOf_ok g hok
  have hd : 0 ≤ (newG g).dim ∧ (newG g).dim ≤ 3 := by
    have := hg; rw [G.good_eq] at this; exact ⟨this.1.2.2.1, this.1.2.2.2.1⟩
  have t0 : 0 ≤ (newG g).dim % 2 := by omega
  have t1 : (newG g).dim % 2 ≤ 3 := by omega
  have hpf : (flatG (newG g)).pw ≤ (newG g).pw := by
    have := pwL_filter fullG (newG g).kids
    have e : ∀ m : G, m.pw = 1 + m.nums.length / dN m.dim + G.pwL m.kids := fun m => by cases m; rfl
    rw [e (newG g)]
    show 1 + (newG g).nums.length / dN (newG g).dim + G.pwL ((newG g).kids.filter fullG) ≤ _
    omega
  have hfok := good_ok _ hfg (by omega)
  have hFg := force_good _ ((newG g).dim % 2) hfg t0 t1
  have hpF := force_pw (flatG (newG g)) ((newG g).dim % 2)
  have hFok := good_ok _ hFg (by omega)
  have eF : ((geoOf (flatG (newG g))).force ((newG g).dim % 2)).toG = flatF g := by
    rw [← toG_force _ _ (geoOf_ok _ hfok) t0 t1, ← newG_geo _ hfok, newG_of_good _ hfg]; rfl
  have hz : hasZ ((newG g).dim % 2) = hasZ (newG g).dim := by
    rcases four _ hd.1 hd.2 with e | e | e | e <;> rw [e] <;> decide
  have ej : jgeoB f (geoOf (flatF g)) = jgeoB f (geoOf g) := by
    have hFok' : (flatF g).ok := hFok
    have hFg' : (flatF g).good := hFg
    rw [← jtext_geo f (geoOf (flatF g)) (geoOf_ok _ hFok'), ← jtext_geo f (geoOf g) hgo, ← newG_geo _ hFok', ← e0, newG_of_good _ hFg']
    exact flat_law f (newG g) hg _ t0 t1 hz
  have hl : (jgeoB f (geoOf g)).length ≤ 80000000 := by
    rw [← jtext_geo f (geoOf g) hgo, ← e0]
    have := jtext_len f hf (newG g)
    omega
  exact ⟨hok, hfine, hl, hfok, eF, hFok, by unfold flatF; rw [G.force_eq]; rfl, ej, hd.1, hd.2⟩
end Go.Proofs.YtahnhhkbdgaidaaGreatDoor
