/-
  Plain law: the geometry that is made of plain data, as plain data again, is that of the reference.
  Plain law: the text of a geometry, as the program writes it, is that of the reference; how long it is.
  GeoJSON: a sequence, a list of sequences, a list of lists.
  GeoJSON: rows of sequences.
  GeoJSON: several points.
  GeoJSON: WriteJSON.
-/
import Derived.Test.YtahnhhkbdgaidaaGreatDoorKal
import Derived.Deep.RegionWith
import Derived.Lib.BufferRead
namespace Go.Proofs.YtahnhhkbdgaidaaGreatDoor
open Go.RowKit
/-- Geometries as plain data. -/
def ptG (p : Pt) : G := .mk 1 p.c.t (if p.full then crdNums p.c.t p.c else []) []
def lnG (l : Ln) : G := .mk 2 l.t l.xs []
def pgG (p : Pg) : G := .mk 3 p.t [] (p.rings.map lnG)
mutual
def Geo.toG : Geo → G
  | .pt p => ptG p
  | .ln l => lnG l
  | .pg p => pgG p
  | .mp ps t => .mk 4 t [] (ps.map ptG)
  | .ml ls t => .mk 5 t [] (ls.map lnG)
  | .mg ps t => .mk 6 t [] (ps.map pgG)
  | .gc gs t => .mk 0 t [] (Geo.toGL gs)
def Geo.toGL : List Geo → List G
  | [] => []
  | g :: r => g.toG :: Geo.toGL r
end
theorem Geo.toGL_map : ∀ l : List Geo, Geo.toGL l = l.map Geo.toG
  | [] => by simp [Geo.toGL]
  | g :: r => by simp [Geo.toGL, Geo.toGL_map r]
/-- The places of numbers under a type; the numbers of places under a type. -/
def plsOf (t : Int) (xs : List Nat) : List Crd := (List.range (xs.length / dN t)).map (crdOf t xs)
def numsOf (t : Int) (l : List Crd) : List Nat := l.flatMap (crdNums t)
mutual
def G.force : G → Int → G
  | .mk k d ns ks, t' => .mk k t' (numsOf t' (plsOf d ns)) (G.forceL ks t')
def G.forceL : List G → Int → List G
  | [], _ => []
  | g :: r, t' => g.force t' :: G.forceL r t'
end
theorem G.forceL_map : ∀ (l : List G) (t' : Int), G.forceL l t' = l.map (·.force t')
  | [], _ => by simp [G.forceL]
  | g :: r, t' => by simp [G.forceL, G.forceL_map r t']
theorem G.force_eq (g : G) (t' : Int) : g.force t' = .mk g.kind t' (numsOf t' (plsOf g.dim g.nums)) (g.kids.map (·.force t')) := by
  cases g; simp [G.force, G.kind, G.dim, G.nums, G.kids, G.forceL_map]
def kindOf (k : Int) : Int := if k < 0 ∨ 6 < k then 0 else k
def leafN (k d : Int) (ns : List Nat) : List Nat := ns.take ((if k = 1 then min (ns.length / dN d) 1 else ns.length / dN d) * dN d)
def andL (a b : Int) : Int := bits .and .i64 a b
/-- Parts brought together. -/
def gatherG (k d : Int) (l : List G) : G := if l.length = 0 then .mk k d [] [] else (G.mk k d [] l).force ((l.map G.dim).foldl andL 3)
def fitG (k : Int) (m : G) : Bool := decide (kidOf k < 0) || kidOf k == m.kind
mutual
/-- The reference's geometry of any plain data. -/
def newG : G → G
  | .mk k d ns ks => if kindOf k = 1 ∨ kindOf k = 2 then .mk (kindOf k) (d % 4) (leafN (kindOf k) (d % 4) ns) [] else gatherG (kindOf k) (d % 4) ((newGL ks).filter (fitG (kindOf k)))
def newGL : List G → List G
  | [] => []
  | g :: r => newG g :: newGL r
end
theorem newGL_map : ∀ l : List G, newGL l = l.map newG
  | [] => by simp [newGL]
  | g :: r => by simp [newGL, newGL_map r]
theorem newG_eq (g : G) : newG g = if kindOf g.kind = 1 ∨ kindOf g.kind = 2 then .mk (kindOf g.kind) (g.dim % 4) (leafN (kindOf g.kind) (g.dim % 4) g.nums) []
    else gatherG (kindOf g.kind) (g.dim % 4) ((g.kids.map newG).filter (fitG (kindOf g.kind))) := by
  cases g; simp only [newG, G.kind, G.dim, G.nums, G.kids, newGL_map]; rfl
theorem newG_part (k d : Int) (ns : List Nat) (ks : List G) (k' : Int) (hk : kindOf k = k') (hne : ¬ (k' = 1 ∨ k' = 2)) : newG (.mk k d ns ks) = gatherG k' (d % 4) ((ks.map newG).filter (fitG k')) := by
  subst hk
  simp only [newG, newGL_map]
  rw [if_neg hne]
theorem andL_eq (a b : Int) (h0 : 0 ≤ a) (h1 : a ≤ 3) (g0 : 0 ≤ b) (g1 : b ≤ 3) : andL a b = andT a b := by
  rcases four a h0 h1 with rfl | rfl | rfl | rfl <;> rcases four b g0 g1 with rfl | rfl | rfl | rfl <;> decide
theorem foldL_eq : ∀ (ts : List Int) (s : Int), 0 ≤ s → s ≤ 3 → (∀ t ∈ ts, 0 ≤ t ∧ t ≤ 3) → ts.foldl andL s = ts.foldl andT s
  | [], _, _, _, _ => rfl
  | t :: r, s, h0, h1, h => by
    have ht := h t (by simp)
    have hb := andT_bd s t h0 h1 ht.1 ht.2
    rw [List.foldl_cons, List.foldl_cons, andL_eq s t h0 h1 ht.1 ht.2]
    exact foldL_eq r _ hb.1 hb.2 (fun x hx => h x (by simp [hx]))
theorem dN_vals : dN 0 = 2 ∧ dN 1 = 3 ∧ dN 2 = 3 ∧ dN 3 = 4 := by decide
/-- A place's numbers are as many as its type says. -/
theorem crdNums_len (t : Int) (c : Crd) (h0 : 0 ≤ t) (h1 : t ≤ 3) : (crdNums t c).length = dN t := by
  obtain ⟨d0, d1, d2, d3⟩ := dN_vals
  rcases four t h0 h1 with rfl | rfl | rfl | rfl <;> simp [crdNums, d0, d1, d2, d3]
/-- The place of its own numbers. -/
theorem pls_one (t : Int) (c : Crd) (h0 : 0 ≤ t) (h1 : t ≤ 3) : plsOf t (crdNums t c) = [crdOf t (crdNums t c) 0] := by
  unfold plsOf
  rw [crdNums_len t c h0 h1, Nat.div_self (by have := dN_bd t; omega)]
  rfl
theorem nums_back (t : Int) (xs : List Nat) (h0 : 0 ≤ t) (h1 : t ≤ 3) (hm : xs.length % dN t = 0) : numsOf t (plsOf t xs) = xs := by
  have hb := dN_bd t
  have hf : ∀ i, (crdNums t (crdOf t xs i)).length = dN t := fun i => crdNums_len t _ h0 h1
  have e : numsOf t (plsOf t xs) = (List.range (xs.length / dN t)).flatMap fun i => crdNums t (crdOf t xs i) := by
    simp [numsOf, plsOf, List.flatMap_map]
  rw [e]
  have hlen := flat_len (dN t) (xs.length / dN t) (fun i => crdNums t (crdOf t xs i)) hf
  have hmul : xs.length / dN t * dN t = xs.length := by
    have := Nat.div_add_mod xs.length (dN t); rw [hm, Nat.add_zero, Nat.mul_comm] at this; exact this
  rw [hmul] at hlen
  refine List.ext_getElem? fun p => ?_
  by_cases hp : p < xs.length
  · rw [flat_get (dN t) (xs.length / dN t) (fun i => crdNums t (crdOf t xs i)) hf p (by rw [hmul]; exact hp)]
    have hr : p % dN t < dN t := Nat.mod_lt _ (by omega)
    have hpe : p / dN t * dN t + p % dN t = p := by have := Nat.div_add_mod p (dN t); rw [Nat.mul_comm] at this; exact this
    generalize p / dN t = i at *
    generalize hq : p % dN t = r at *
    have hx : xs[p]? = some (xs.getD (i * dN t + r) 0) := by rw [hpe]; simp [List.getD, hp]
    rw [hx]
    obtain ⟨d0, d1, d2, d3⟩ := dN_vals
    rcases four t h0 h1 with rfl | rfl | rfl | rfl
    · rw [d0] at hr
      have : r = 0 ∨ r = 1 := by omega
      rcases this with rfl | rfl <;> simp [crdNums, crdOf, d0]
    · rw [d1] at hr
      have : r = 0 ∨ r = 1 ∨ r = 2 := by omega
      rcases this with rfl | rfl | rfl <;> simp [crdNums, crdOf, d1]
    · rw [d2] at hr
      have : r = 0 ∨ r = 1 ∨ r = 2 := by omega
      rcases this with rfl | rfl | rfl <;> simp [crdNums, crdOf, d2]
    · rw [d3] at hr
      have : r = 0 ∨ r = 1 ∨ r = 2 ∨ r = 3 := by omega
      rcases this with rfl | rfl | rfl | rfl <;> simp [crdNums, crdOf, d3]
  · rw [List.getElem?_eq_none (by rw [hlen]; omega), List.getElem?_eq_none (by omega)]
theorem ptG_force (p : Pt) (t' : Int) (h : p.ok) (g0 : 0 ≤ t') (g1 : t' ≤ 3) : (ptG p).force t' = ptG (p.force t') := by
  obtain ⟨c, f⟩ := p
  obtain ⟨h0, h1⟩ := h
  simp only at h0 h1
  obtain ⟨d0, d1, d2, d3⟩ := dN_vals
  cases f
  · simp [ptG, G.force, Pt.force, emptyPt, G.forceL, plsOf, numsOf]
  · simp only [ptG, G.force, Pt.force, G.forceL, if_true]
    rw [pls_one _ _ h0 h1]
    obtain ⟨x, y, z, m, t⟩ := c
    simp only at *
    rcases four t h0 h1 with rfl | rfl | rfl | rfl <;> rcases four t' g0 g1 with rfl | rfl | rfl | rfl <;> simp [numsOf, crdNums, crdOf, hasZ, hasM, d0, d1, d2, d3]
theorem lnG_force (l : Ln) (t' : Int) (h : l.ok) (g0 : 0 ≤ t') (g1 : t' ≤ 3) : (lnG l).force t' = lnG (l.force t') := by
  obtain ⟨h0, h1, hm, _⟩ := h
  simp only [lnG, G.force, Ln.force, G.forceL, forceX]
  split
  · next e => subst e; rw [nums_back _ _ h0 h1 hm]
  · simp [numsOf, plsOf, List.flatMap_map]
theorem map_force {α : Type} (f : α → G) (force : α → Int → α) (l : List α) (t' : Int) (h : ∀ x ∈ l, (f x).force t' = f (force x t')) : (l.map f).map (·.force t') = (l.map (force · t')).map f := by
  simp only [List.map_map]
  exact List.map_congr_left fun x hx => h x hx
theorem nums_none (t t' : Int) : numsOf t' (plsOf t []) = [] := by simp [numsOf, plsOf]
theorem pgG_force (p : Pg) (t' : Int) (h : p.ok) (g0 : 0 ≤ t') (g1 : t' ≤ 3) : (pgG p).force t' = pgG (p.force t') := by
  rw [G.force_eq]
  simp only [pgG, G.kind, G.dim, G.nums, G.kids, Pg.force, nums_none]
  rw [map_force lnG Ln.force p.rings t' (fun l hl => lnG_force l t' (h.1 l hl) g0 g1)]
mutual
theorem toG_force : ∀ (g : Geo) (t' : Int), g.ok → 0 ≤ t' → t' ≤ 3 → g.toG.force t' = (g.force t').toG
  | .pt p, t', h, g0, g1 => by simp only [Geo.ok] at h; simp only [Geo.toG, Geo.force]; exact ptG_force p t' h g0 g1
  | .ln l, t', h, g0, g1 => by simp only [Geo.ok] at h; simp only [Geo.toG, Geo.force]; exact lnG_force l t' h g0 g1
  | .pg p, t', h, g0, g1 => by simp only [Geo.ok] at h; simp only [Geo.toG, Geo.force]; exact pgG_force p t' h g0 g1
  | .mp ps t, t', h, g0, g1 => by
    simp only [Geo.ok] at h
    rw [G.force_eq]
    simp only [Geo.toG, Geo.force, G.kind, G.dim, G.nums, G.kids, nums_none]
    rw [map_force ptG Pt.force ps t' (fun l hl => ptG_force l t' (h.1 l hl) g0 g1)]
  | .ml ps t, t', h, g0, g1 => by
    simp only [Geo.ok] at h
    rw [G.force_eq]
    simp only [Geo.toG, Geo.force, G.kind, G.dim, G.nums, G.kids, nums_none]
    rw [map_force lnG Ln.force ps t' (fun l hl => lnG_force l t' (h.1 l hl) g0 g1)]
  | .mg ps t, t', h, g0, g1 => by
    simp only [Geo.ok] at h
    rw [G.force_eq]
    simp only [Geo.toG, Geo.force, G.kind, G.dim, G.nums, G.kids, nums_none]
    rw [map_force pgG Pg.force ps t' (fun l hl => pgG_force l t' (h.1 l hl) g0 g1)]
  | .gc gs t, t', h, g0, g1 => by
    simp only [Geo.ok] at h
    simp only [Geo.toG, Geo.force, G.force, nums_none]
    rw [toGL_force gs t' h.1 g0 g1]
theorem toGL_force : ∀ (l : List Geo) (t' : Int), Geo.okL l → 0 ≤ t' → t' ≤ 3 → G.forceL (Geo.toGL l) t' = Geo.toGL (Geo.forceL l t')
  | [], t', _, _, _ => by simp [Geo.toGL, G.forceL, Geo.forceL]
  | g :: r, t', h, g0, g1 => by
    simp only [Geo.okL] at h
    simp only [Geo.toGL, G.forceL, Geo.forceL]
    rw [toG_force g t' h.1 g0 g1, toGL_force r t' h.2 g0 g1]
end
/-- Parts brought together are the parts of plain data brought together. -/
theorem gather_eq {α : Type} (f : α → G) (tOf : α → Int) (force : α → Int → α) (ok : α → Prop) (k d : Int) (l : List α) (hl : ∀ x ∈ l, ok x) (ht : ∀ x, ok x → 0 ≤ tOf x ∧ tOf x ≤ 3) (hd : ∀ x, (f x).dim = tOf x)
    (hf : ∀ x t', ok x → 0 ≤ t' → t' ≤ 3 → (f x).force t' = f (force x t')) : gatherG k (d % 4) (l.map f) = .mk k (joined tOf force d l).2 [] ((joined tOf force d l).1.map f) := by
  have hb : ∀ t ∈ l.map tOf, 0 ≤ t ∧ t ≤ 3 := fun t h => by obtain ⟨x, hx, rfl⟩ := List.mem_map.1 h; exact ht x (hl x hx)
  have hT := foldT_bd (l.map tOf) hb
  have e : ((l.map f).map G.dim).foldl andL 3 = foldT (l.map tOf) := by
    rw [List.map_map, show (G.dim ∘ f) = tOf from funext hd, foldL_eq _ 3 (by omega) (by omega) hb]; rfl
  unfold gatherG joined
  by_cases h0 : l.length = 0
  · rw [if_pos (by simpa using h0), if_pos h0]; simp
  · rw [if_neg (by simpa using h0), if_neg h0, G.force_eq, e]
    simp only [G.kind, G.dim, G.nums, G.kids, nums_none]
    rw [map_force f force l _ (fun x hx => hf x _ (hl x hx) hT.1 hT.2)]
theorem leafN_two (d : Int) (ns : List Nat) : leafN 2 d ns = seqX d ns := by
  unfold leafN seqX
  rw [if_neg (by decide)]
  congr 1
  have := Nat.div_add_mod ns.length (dN d)
  rw [Nat.mul_comm] at this
  omega
theorem leafN_one (d : Int) (ns : List Nat) (h0 : 0 ≤ d) (h1 : d ≤ 3) : leafN 1 d ns = if 0 < (seqX d ns).length / dN d then crdNums d (crdOf d (seqX d ns) 0) else [] := by
  have hb := dN_bd d
  have hdm := Nat.div_add_mod ns.length (dN d)
  have hls : (seqX d ns).length = ns.length / dN d * dN d := by
    unfold seqX; rw [List.length_take, Nat.mul_comm]; have := Nat.mod_le ns.length (dN d); omega
  rw [hls, Nat.mul_div_cancel _ (by omega)]
  unfold leafN
  rw [if_pos rfl]
  by_cases hn : 0 < ns.length / dN d
  · rw [if_pos hn, Nat.min_eq_right hn, Nat.one_mul]
    have hge : dN d ≤ ns.length := by
      rcases Nat.lt_or_ge ns.length (dN d) with h | h
      · rw [Nat.div_eq_of_lt h] at hn; omega
      · exact h
    have hsl : dN d ≤ (seqX d ns).length := by rw [hls]; calc dN d = 1 * dN d := by omega
                                                     _ ≤ _ := Nat.mul_le_mul_right _ hn
    have hpre : ∀ i, i < (seqX d ns).length → (seqX d ns)[i]? = ns[i]? := fun i hi => by
      unfold seqX at hi ⊢
      rw [List.length_take] at hi
      rw [List.getElem?_take]; simp; omega
    refine List.ext_getElem? fun p => ?_
    have hcl := crdNums_len d (crdOf d (seqX d ns) 0) h0 h1
    by_cases hp : p < dN d
    · rw [List.getElem?_take, if_pos hp, ← hpre p (by omega)]
      have hx : (seqX d ns)[p]? = some ((seqX d ns).getD p 0) := by simp [List.getD, show p < (seqX d ns).length by omega]
      rw [hx]
      obtain ⟨d0, d1, d2, d3⟩ := dN_vals
      rcases four d h0 h1 with rfl | rfl | rfl | rfl
      · rw [d0] at hp
        have : p = 0 ∨ p = 1 := by omega
        rcases this with rfl | rfl <;> simp [crdNums, crdOf]
      · rw [d1] at hp
        have : p = 0 ∨ p = 1 ∨ p = 2 := by omega
        rcases this with rfl | rfl | rfl <;> simp [crdNums, crdOf]
      · rw [d2] at hp
        have : p = 0 ∨ p = 1 ∨ p = 2 := by omega
        rcases this with rfl | rfl | rfl <;> simp [crdNums, crdOf]
      · rw [d3] at hp
        have : p = 0 ∨ p = 1 ∨ p = 2 ∨ p = 3 := by omega
        rcases this with rfl | rfl | rfl | rfl <;> simp [crdNums, crdOf]
    · rw [List.getElem?_take, if_neg hp, List.getElem?_eq_none (by omega)]
  · rw [if_neg hn]
    have : ns.length / dN d = 0 := Nat.eq_zero_of_not_pos hn
    rw [this]; simp
theorem dim_bd (d : Int) : 0 ≤ d % 4 ∧ d % 4 ≤ 3 := by omega
theorem newG_pt (g : G) (h : g.kind = 1) : newG g = ptG (pointG g) := by
  rw [newG_eq, h, show kindOf 1 = 1 by decide, if_pos (.inl rfl)]
  unfold pointG pointOf
  rw [h, leafN_one _ _ (dim_bd _).1 (dim_bd _).2]
  by_cases hn : 0 < (seqX (g.dim % 4) g.nums).length / dN (g.dim % 4)
  · rw [if_pos hn, if_pos ⟨rfl, hn⟩]; simp [ptG, crdOf]
  · rw [if_neg hn, if_neg (fun h => hn h.2)]; simp [ptG, emptyPt]
theorem newG_ln (g : G) (h : g.kind = 2) : newG g = lnG (lineG g) := by
  rw [newG_eq, h, show kindOf 2 = 2 by decide, if_pos (.inr rfl), leafN_two]
  simp [lineG, lineOf, lnG, h]
theorem newG_kind (g : G) : (newG g).kind = kindOf g.kind := by
  rw [newG_eq]
  split
  · rfl
  · unfold gatherG
    split
    · rfl
    · rw [G.force_eq]; rfl
theorem kindOf_vals (k : Int) (m : Int) (h : 1 ≤ m) : kindOf k = m ↔ (k = m ∧ m ≤ 6) := by
  unfold kindOf; split <;> omega
/-- The parts of one kind. -/
theorem filter_parts {α : Type} (kk : Int) (mk : G → α) (f : α → G) (ks : List G) (k : Int) (hkk : kidOf k = kk) (h1 : 1 ≤ kk) (h6 : kk ≤ 6) (hnew : ∀ g ∈ ks, g.kind = kk → newG g = f (mk g)) (c : Bool) (hc : c = true) :
    (ks.map newG).filter (fitG k) = (partsOf c kk mk ks).map f := by
  subst hc
  induction ks with
  | nil => simp [partsOf]
  | cons g r ih =>
    have ih' := ih (fun g hg => hnew g (by simp [hg]))
    have hg := hnew g (by simp)
    unfold partsOf at *
    rw [List.map_cons, List.filter_cons, List.filterMap_cons, ih']
    have hfit : fitG k (newG g) = decide (g.kind = kk) := by
      unfold fitG
      rw [hkk, newG_kind]
      have := kindOf_vals g.kind kk h1
      by_cases hk : g.kind = kk
      · have h2 := this.2 ⟨hk, h6⟩
        simp [hk]; right; rw [hk] at h2; exact h2.symm
      · have h2 : ¬ kindOf g.kind = kk := fun e => hk (this.1 e).1
        simp [hk]; exact ⟨by omega, fun e => h2 e.symm⟩
    rw [hfit]
    by_cases hk : g.kind = kk
    · simp [hk, hg hk]
    · simp [hk]
theorem newG_pg (g : G) (h : g.kind = 3) (hok : G.okL g.kids) : newG g = pgG (polyG g) := by
  rw [newG_eq, h, show kindOf 3 = 3 by decide, if_neg (by decide)]
  rw [filter_parts 2 lineG lnG g.kids 3 rfl (by decide) (by decide) (fun g _ hg => newG_ln g hg) ((3 : Int) == 3) rfl]
  rw [gather_eq lnG lnT Ln.force Ln.ok 3 g.dim _ (fun l hl => by
    obtain ⟨g', hg', rfl⟩ := partsOf_mem hl
    have := G.okL_mem hok g' hg'; rw [G.ok_eq] at this; exact lineOf_ok _ _ _ this.1) (fun l hl => ⟨hl.1, hl.2.1⟩) (fun l => rfl) (fun l t' hl => lnG_force l t' hl)]
  simp only [polyG, ringsOf, pgG, h]
theorem fit_any (k : Int) (h : kidOf k < 0) (l : List G) : l.filter (fitG k) = l := by
  rw [List.filter_eq_self]
  intro a _
  simp [fitG, h]
mutual
/-- The reference's geometry is the plain data of the one that is made. -/
theorem newG_geo : ∀ (g : G), g.ok → newG g = (geoOf g).toG
  | .mk k d ns ks, hok => by
    have hok' := hok
    simp only [G.ok] at hok'
    obtain ⟨hn, hk, hks⟩ := hok'
    have hg := geoOf_eq (.mk k d ns ks)
    simp only [G.kind, G.dim, G.nums, G.kids] at hg
    rw [hg]
    unfold flatGeo
    split
    · next h => subst h; rw [newG_pt _ rfl]; simp [Geo.toG, pointG, G.kind, G.dim, G.nums]
    split
    · next h => subst h; rw [newG_ln _ rfl]; simp [Geo.toG, lineG, G.kind, G.dim, G.nums]
    split
    · next h => subst h; rw [newG_pg (.mk 3 d ns ks) rfl hks]; simp [Geo.toG, polyG, G.kind, G.dim, G.kids]
    have hp1 : ∀ c, ∀ p ∈ partsOf c 1 pointG ks, p.ok := fun c p hp => by obtain ⟨g, _, rfl⟩ := partsOf_mem hp; exact pointOf_ok _ _ _
    have hp2 : ∀ c, ∀ p ∈ partsOf c 2 lineG ks, p.ok := fun c p hp => by
      obtain ⟨g, hgm, rfl⟩ := partsOf_mem hp
      have := G.okL_mem hks g hgm; rw [G.ok_eq] at this; exact lineOf_ok _ _ _ this.1
    have hp3 : ∀ c, ∀ p ∈ partsOf c 3 polyG ks, p.ok := fun c p hp => by
      obtain ⟨g, hgm, rfl⟩ := partsOf_mem hp
      have := G.okL_mem hks g hgm; rw [G.ok_eq] at this; exact ringsOf_ok _ _ _ this.2.2 this.2.1
    have hko : kindOf k = 1 ∨ kindOf k = 2 → k = 1 ∨ k = 2 := by
      intro h; have a := kindOf_vals k 1 (by decide); have b := kindOf_vals k 2 (by decide); omega
    split
    · next h1 h2 h3 h => 
      subst h
      rw [newG_part 4 d ns ks 4 (by decide) (by decide), filter_parts 1 pointG ptG ks 4 rfl (by decide) (by decide) (fun g _ hg => newG_pt g hg) ((4 : Int) == 4) rfl,
        gather_eq ptG ptT Pt.force Pt.ok 4 d _ (hp1 _) (fun l hl => ⟨hl.1, hl.2⟩) (fun l => rfl) (fun l t' hl => ptG_force l t' hl)]
      simp [Geo.toG]
    split
    · next h1 h2 h3 h4 h => 
      subst h
      rw [newG_part 5 d ns ks 5 (by decide) (by decide), filter_parts 2 lineG lnG ks 5 rfl (by decide) (by decide) (fun g _ hg => newG_ln g hg) ((5 : Int) == 5) rfl,
        gather_eq lnG lnT Ln.force Ln.ok 5 d _ (hp2 _) (fun l hl => ⟨hl.1, hl.2.1⟩) (fun l => rfl) (fun l t' hl => lnG_force l t' hl)]
      simp [Geo.toG]
    split
    · next h1 h2 h3 h4 h5 h => 
      subst h
      rw [newG_part 6 d ns ks 6 (by decide) (by decide), filter_parts 3 polyG pgG ks 6 rfl (by decide) (by decide) (fun g hgm hg => by
          have := G.okL_mem hks g hgm; rw [G.ok_eq] at this; exact newG_pg g hg this.2.2) ((6 : Int) == 6) rfl,
        gather_eq pgG pgT Pg.force Pg.ok 6 d _ (hp3 _) (fun l hl => ⟨hl.2.2.1, hl.2.2.2⟩) (fun l => rfl) (fun l t' hl => pgG_force l t' hl)]
      simp [Geo.toG]
    · next h1 h2 h3 h4 h5 h6 => 
      have hk0 : kindOf k = 0 := by unfold kindOf; split <;> omega
      rw [newG_part k d ns ks 0 hk0 (by decide), fit_any 0 (by decide)]
      have hkids : ks.map newG = (ks.map geoOf).map Geo.toG := by rw [← newGL_map, newGL_geo ks hks, geoOfL_map]
      rw [hkids, gather_eq Geo.toG Geo.t Geo.force Geo.ok 0 d _ (fun x hx => by
        obtain ⟨g, hgm, rfl⟩ := List.mem_map.1 hx; exact geoOf_ok g (G.okL_mem hks g hgm)) (fun x hx => x.ok_t hx) (fun x => by cases x <;> rfl) (fun x t' hx => toG_force x t' hx)]
      simp [gather, Geo.toG, Geo.toGL_map]
theorem newGL_geo : ∀ (l : List G), G.okL l → newGL l = (geoOfL l).map Geo.toG
  | [], _ => by simp [newGL, geoOfL]
  | g :: r, h => by
    simp only [G.okL] at h
    simp only [newGL, geoOfL, List.map_cons]
    rw [newG_geo g h.1, newGL_geo r h.2]
end
end Go.Proofs.YtahnhhkbdgaidaaGreatDoor
namespace Go.Proofs.YtahnhhkbdgaidaaGreatDoor
open Go.RowKit
/- The reference's text. -/
/- The program's text. -/
/- How long texts are. -/
mutual
def G.pw : G → Nat
  | .mk _ d ns ks => 1 + ns.length / dN d + G.pwL ks
def G.pwL : List G → Nat
  | [] => 0
  | g :: r => g.pw + G.pwL r
end
mutual
def G.wt : G → Nat
  | .mk _ _ ns ks => 1 + ns.length + G.wtL ks
def G.wtL : List G → Nat
  | [] => 0
  | g :: r => g.wt + G.wtL r
end
theorem crdNums_le (t : Int) (c : Crd) : (crdNums t c).length ≤ dN t := by
  unfold crdNums dN dimN
  by_cases h1 : t = 1
  · subst h1; simp
  by_cases h2 : t = 2
  · subst h2; simp
  by_cases h3 : t = 3
  · subst h3; simp
  · simp [h1, h2, h3]; omega
theorem numsOf_len (t : Int) (l : List Crd) : (numsOf t l).length ≤ l.length * dN t := by
  induction l with
  | nil => simp [numsOf]
  | cons a r ih =>
    have := crdNums_le t a
    simp only [numsOf, List.flatMap_cons, List.length_append, List.length_cons, Nat.succ_mul] at *
    omega
mutual
theorem force_pw : ∀ (g : G) (t' : Int), (g.force t').pw ≤ g.pw
  | .mk k d ns ks, t' => by
    have h1 := numsOf_len t' (plsOf d ns)
    have h2 := forceL_pw ks t'
    have h4 : (plsOf d ns).length = ns.length / dN d := by simp [plsOf]
    have hd := dN_bd t'
    rw [h4] at h1
    have h5 : (numsOf t' (plsOf d ns)).length / dN t' ≤ ns.length / dN d := by
      calc _ ≤ ns.length / dN d * dN t' / dN t' := Nat.div_le_div_right h1
        _ = _ := Nat.mul_div_cancel _ (by omega)
    simp only [G.force, G.pw]
    omega
theorem forceL_pw : ∀ (l : List G) (t' : Int), G.pwL (G.forceL l t') ≤ G.pwL l
  | [], _ => by simp [G.forceL, G.pwL]
  | g :: r, t' => by
    have h1 := force_pw g t'
    have h2 := forceL_pw r t'
    simp only [G.forceL, G.pwL]; omega
end
theorem pwL_filter (f : G → Bool) : ∀ l : List G, G.pwL (l.filter f) ≤ G.pwL l
  | [] => by simp
  | g :: r => by
    have := pwL_filter f r
    rw [List.filter_cons]
    split <;> simp only [G.pwL] <;> omega
theorem gather_pw (k d : Int) (l : List G) : (gatherG k d l).pw ≤ 1 + G.pwL l := by
  unfold gatherG
  split
  · simp [G.pw, G.pwL]
  · exact Nat.le_trans (force_pw _ _) (by simp [G.pw])
mutual
theorem newG_pw : ∀ g : G, (newG g).pw ≤ g.wt
  | .mk k d ns ks => by
    have h1 := newGL_pw ks
    simp only [newG, G.wt]
    split
    · simp only [G.pw, G.pwL]
      have h2 : (leafN (kindOf k) (d % 4) ns).length ≤ ns.length := by unfold leafN; rw [List.length_take]; omega
      have h3 := Nat.div_le_self (leafN (kindOf k) (d % 4) ns).length (dN (d % 4))
      omega
    · have h2 := gather_pw (kindOf k) (d % 4) ((newGL ks).filter (fitG (kindOf k)))
      have h3 := pwL_filter (fitG (kindOf k)) (newGL ks)
      omega
theorem newGL_pw : ∀ l : List G, G.pwL (newGL l) ≤ G.wtL l
  | [] => by simp [newGL, G.pwL]
  | g :: r => by
    have h1 := newG_pw g
    have h2 := newGL_pw r
    simp only [newGL, G.pwL, G.wtL]; omega
end
mutual
theorem gw_wt : ∀ (g : G) (left : Int), 0 ≤ gw g left → gw g left = left - g.wt
  | .mk k d ns ks, left, h => by
    simp only [gw, G.wt] at *
    split at h
    · omega
    · next hc =>
      rw [if_neg hc]
      have := gwL_wt ks _ h
      rw [this]; omega
theorem gwL_wt : ∀ (l : List G) (left : Int), 0 ≤ gwL l left → gwL l left = left - G.wtL l
  | [], left, h => by simp [gwL, G.wtL]
  | g :: r, left, h => by
    simp only [gwL, G.wtL] at *
    split at h
    · omega
    · next hc =>
      rw [if_neg hc]
      have h2 := gwL_wt r _ h
      have h1 : 0 ≤ gw g left := by
        rcases Int.lt_or_le (gw g left) 0 with hn | hn
        · rw [gwL_neg _ _ hn] at h; omega
        · exact hn
      have h3 := gw_wt g left h1
      rw [h2, h3]; omega
end
mutual
theorem wt_ok : ∀ (g : G), g.wt ≤ 1000000 → g.ok
  | .mk k d ns ks, h => by
    simp only [G.wt] at h
    have := wtL_ok ks (by omega)
    simp only [G.ok]
    exact ⟨by omega, by omega, this.1⟩
theorem wtL_ok : ∀ (l : List G), G.wtL l ≤ 1000000 → G.okL l ∧ l.length ≤ G.wtL l
  | [], _ => by simp [G.okL]
  | g :: r, h => by
    simp only [G.wtL] at h
    have h1 := wt_ok g (by omega)
    have h2 := wtL_ok r (by omega)
    have h3 : 1 ≤ g.wt := by cases g; simp only [G.wt]; omega
    simp only [G.okL, G.wtL, List.length_cons]
    exact ⟨⟨h1, h2.1⟩, by omega⟩
end
end Go.Proofs.YtahnhhkbdgaidaaGreatDoor
namespace Go.Proofs.YtahnhhkbdgaidaaGreatDoor
open Go.RowKit
set_option maxRecDepth 100000
end Go.Proofs.YtahnhhkbdgaidaaGreatDoor
namespace Go.Proofs.YtahnhhkbdgaidaaGreatDoor
open Go.RowKit
set_option maxRecDepth 100000
/-- Blocks that are there, and are not the slice's. -/
def Off (S : Nat → Prop) (v : Value) (w : World) : Prop := ∀ b, S b → b < w.heap.size ∧ some b ≠ v.ownBlock
end Go.Proofs.YtahnhhkbdgaidaaGreatDoor
namespace Go.Proofs.YtahnhhkbdgaidaaGreatDoor
open Go.RowKit
set_option maxRecDepth 100000
theorem c140 (t : Int) (a : Option Addr) (n c : Nat) (w : World) : Calls Tryz.prog 140 #[.agg #[.int .u8 t, .slice a n c]] w fun e w' => e = .returned (.agg #[.int .u8 t, .slice a n c]) ∧ Below w.heap.size w w' := by
  go_enter Tryz.func140, Tryz.ntmps140
  go_wp2
  refine bodyPost_ret (v := .agg #[.int .u8 t, .slice a n c]) (by simp [results, Tryz.results140, go_sem]) rfl ⟨rfl, ?_⟩
  repeat (with_reducible first | refine Below.setCell ?_ (by simp) _ | exact ((Below.refl _ _).alloc (Nat.le_refl _) _).alloc (by simp) _)
theorem c97 (x y z m : Nat) (t : Int) (f : Bool) (w : World) : Calls Tryz.prog 97 #[.agg #[.float .f64 x, .float .f64 y, .float .f64 z, .float .f64 m, .int .u8 t, .bool f]] w fun e w' => e = .returned (.tuple #[.agg #[.float .f64 x, .float .f64 y, .float .f64 z, .float .f64 m, .int .u8 t], .bool f]) ∧ Below w.heap.size w w' := by
  have hsf := st_float
  go_enter Tryz.func97, Tryz.ntmps97
  go_wp2_with fail
  have f0 := Lb.new' w #[.float .f64 x, .float .f64 y, .float .f64 z, .float .f64 m, .int .u8 t, .bool f] 63 (.cells #[.float .f64 0, .float .f64 0, .float .f64 0, .float .f64 0, .int .u8 0] 61)
  have f1 := Lb.new2 w (.cells #[.float .f64 x, .float .f64 y, .float .f64 z, .float .f64 m, .int .u8 t, .bool f] 63) #[.float .f64 0, .float .f64 0, .float .f64 0, .float .f64 0, .int .u8 0] 61
  have fB := bl_a2 w (.cells #[.float .f64 x, .float .f64 y, .float .f64 z, .float .f64 m, .int .u8 t, .bool f] 63) (.cells #[.float .f64 0, .float .f64 0, .float .f64 0, .float .f64 0, .int .u8 0] 61)
  generalize ((w.alloc (.cells #[.float .f64 x, .float .f64 y, .float .f64 z, .float .f64 m, .int .u8 t, .bool f] 63)).alloc (.cells #[.float .f64 0, .float .f64 0, .float .f64 0, .float .f64 0, .int .u8 0] 61)) = w1 at *
  obtain ⟨q, _, l0⟩ := f0.use
  have g0 : w1.cell? ⟨w.heap.size, 0, none⟩ = some (.float .f64 x) := q 0
  have g1 : w1.cell? ⟨w.heap.size, 1, none⟩ = some (.float .f64 y) := q 1
  have g2 : w1.cell? ⟨w.heap.size, 2, none⟩ = some (.float .f64 z) := q 2
  have g3 : w1.cell? ⟨w.heap.size, 3, none⟩ = some (.float .f64 m) := q 3
  have g4 : w1.cell? ⟨w.heap.size, 4, none⟩ = some (.int .u8 t) := q 4
  have g5 : w1.cell? ⟨w.heap.size, 5, none⟩ = some (.bool f) := q 5
  obtain ⟨_, _, l2⟩ := f1.use
  have F1 := Lib.hid f1
  have FB := Lib.hid fB
  clear f0 f1 fB q
  go_region_held3 (fun w' => w'.cell? ⟨w.heap.size, 0, none⟩ = some (.float .f64 x) ∧ w'.cell? ⟨w.heap.size, 1, none⟩ = some (.float .f64 y) ∧ w'.cell? ⟨w.heap.size, 2, none⟩ = some (.float .f64 z) ∧ w'.cell? ⟨w.heap.size, 3, none⟩ = some (.float .f64 m) ∧ w'.cell? ⟨w.heap.size, 4, none⟩ = some (.int .u8 t) ∧ w'.cell? ⟨w.heap.size, 5, none⟩ = some (.bool f)) (first | (go_keep; done) | (go_simp; done)) (first | fail)
  obtain ⟨kc, kf, _⟩ := F1.out.use
  go_wp2_with fail
  refine bodyPost_ret (v := .tuple #[.agg #[.float .f64 x, .float .f64 y, .float .f64 z, .float .f64 m, .int .u8 t], .bool f]) ?_ rfl ⟨rfl, ?_⟩
  · simp [results, Tryz.results97, go_sem, *]
  · repeat (with_reducible first | refine Below.setCell ?_ (by simp) _ | refine Below.drew ?_ | refine Below.alloc ?_ (by simp; omega) _ | exact FB.out)
theorem c143 (t : Int) (a : Option Addr) (n c : Nat) (w : World) : Calls Tryz.prog 143 #[.agg #[.slice a n c, .int .u8 t]] w fun e w' => e = .returned (.int .i64 (n : Int)) ∧ Below w.heap.size w w' := by
  go_enter Tryz.func143, Tryz.ntmps143
  go_wp2
  go_ret
  exact ⟨rfl, by repeat (with_reducible first | exact Below.refl _ _ | refine Below.alloc ?_ (by simp) _)⟩
theorem c146 (t : Int) (a : Option Addr) (n c : Nat) (w : World) : Calls Tryz.prog 146 #[.agg #[.slice a n c, .int .u8 t]] w fun e w' => e = .returned (.int .i64 (n : Int)) ∧ Below w.heap.size w w' := by
  go_enter Tryz.func146, Tryz.ntmps146
  go_wp2
  go_ret
  exact ⟨rfl, by repeat (with_reducible first | exact Below.refl _ _ | refine Below.alloc ?_ (by simp) _)⟩
set_option maxHeartbeats 1000000 in
theorem c144 (S : Nat → Prop) (ls : List Ln) (j : Nat) (hj : j < ls.length) (t : Int) (a : Option Addr) (c : Nat) (w : World) (h : Rd S w (.list (ls.map Ln.fs)) (.slice a ls.length c)) :
    Calls Tryz.prog 144 #[.agg #[.slice a ls.length c, .int .u8 t], .int .i64 j] w fun e w' => ∃ a' c', e = .returned (.agg #[.int .u8 (ls[j]).t, .slice a' (ls[j]).xs.length c']) ∧ Rd S w' (fl (ls[j]).xs) (.slice a' (ls[j]).xs.length c') ∧ Below w.heap.size w w' := by
  obtain ⟨a0, c0, e0, hm, hat⟩ := lines_at h
  obtain ⟨rfl, _, rfl⟩ := Value.slice.inj e0
  obtain ⟨b, off, a', c', rfl, hSb, hb, q0, q1, hr⟩ := hat j hj
  have Hr := Lib.hid (hr.ex (L := w.heap.size + 1) (by omega))
  clear hr hat e0 h
  go_enter Tryz.func144, Tryz.ntmps144
  go_wp2
  refine bodyPost_ret (v := .agg #[.int .u8 (ls[j]).t, .slice a' (ls[j]).xs.length c']) (by simp [results, Tryz.results144, go_sem]) rfl ⟨a', c', rfl, ?_, ?_⟩
  · refine Rd.unex (L := w.heap.size + 1) ?_
    repeat (with_reducible first | refine Rd.set ?_ _ _ | exact (Hr.out.alloc _).alloc _)
  · repeat (with_reducible first | refine Below.setCell ?_ (by simp) _ | exact ((Below.refl _ _).alloc (Nat.le_refl _) _).alloc (by simp) _)
set_option maxHeartbeats 1000000 in
theorem c147 (S : Nat → Prop) (ls : List Pg) (j : Nat) (hj : j < ls.length) (t : Int) (a : Option Addr) (c : Nat) (w : World) (h : Rd S w (.list (ls.map Pg.fs)) (.slice a ls.length c)) :
    Calls Tryz.prog 147 #[.agg #[.slice a ls.length c, .int .u8 t], .int .i64 j] w fun e w' => ∃ a' c', e = .returned (.agg #[.slice a' (ls[j]).rings.length c', .int .u8 (ls[j]).t]) ∧ Rd S w' (.list ((ls[j]).rings.map Ln.fs)) (.slice a' (ls[j]).rings.length c') ∧ Below w.heap.size w w' := by
  obtain ⟨a0, c0, e0, hm, hat⟩ := pgs_at h
  obtain ⟨rfl, _, rfl⟩ := Value.slice.inj e0
  obtain ⟨b, off, a', c', rfl, hSb, hb, q0, q1, hr⟩ := hat j hj
  have Hr := Lib.hid (hr.ex (L := w.heap.size + 1) (by omega))
  clear hr hat e0 h
  go_enter Tryz.func147, Tryz.ntmps147
  go_wp2
  refine bodyPost_ret (v := .agg #[.slice a' (ls[j]).rings.length c', .int .u8 (ls[j]).t]) (by simp [results, Tryz.results147, go_sem]) rfl ⟨a', c', rfl, ?_, ?_⟩
  · refine Rd.unex (L := w.heap.size + 1) ?_
    repeat (with_reducible first | refine Rd.set ?_ _ _ | exact (Hr.out.alloc _).alloc _)
  · repeat (with_reducible first | refine Below.setCell ?_ (by simp) _ | exact ((Below.refl _ _).alloc (Nat.le_refl _) _).alloc (by simp) _)
end Go.Proofs.YtahnhhkbdgaidaaGreatDoor
namespace Go.Proofs.YtahnhhkbdgaidaaGreatDoor
open Go.RowKit
set_option maxRecDepth 100000
theorem Bf.below' {B : Nat} {W w : World} {v : Value} {bs : List UInt8} (h : Bf B W none v bs w) : Below W.heap.size W w := ⟨h.kept.os, h.kept.tape, h.kept.output, h.kept.size, fun i hi => h.kept.block i hi (by simp)⟩
end Go.Proofs.YtahnhhkbdgaidaaGreatDoor
namespace Go.Proofs.YtahnhhkbdgaidaaGreatDoor
open Go.RowKit
set_option maxRecDepth 100000
end Go.Proofs.YtahnhhkbdgaidaaGreatDoor
namespace Go.Proofs.YtahnhhkbdgaidaaGreatDoor
open Go.RowKit
set_option maxRecDepth 100000
/-- A text that was written since w, in new blocks. -/
def Out (w : World) (v : Value) (out : List UInt8) (w' : World) : Prop := ∃ W, Below w.heap.size w W ∧ Bf W.heap.size W none v out w'
theorem Out.step {w w1 w2 : World} {v : Value} {out : List UInt8} (h : Out w v out w1) (hb : Below w1.heap.size w1 w2) : Out w v out w2 := let ⟨W, h1, h2⟩ := h; ⟨W, h1, h2.step hb⟩
theorem Out.below {w w1 : World} {v : Value} {out : List UInt8} (h : Out w v out w1) : Below w.heap.size w w1 := let ⟨_, h1, h2⟩ := h; h1.trans (h2.below'.mono h1.size)
theorem Out.from {w w0 w1 : World} {v : Value} {out : List UInt8} (h : Out w0 v out w1) (hb : Below w.heap.size w w0) : Out w v out w1 := let ⟨W, h1, h2⟩ := h; ⟨W, hb.trans (h1.mono hb.size), h2⟩
end Go.Proofs.YtahnhhkbdgaidaaGreatDoor
