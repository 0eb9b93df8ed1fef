/-
  Plain law: the text of a geometry, as the program writes it, is that of the reference; how long it is.
-/
import Derived.Test.YtahnhhkbdgaidaaGreatDoorCg
import Derived.Test.YtahnhhkbdgaidaaGreatDoorCh
namespace Go.Proofs.YtahnhhkbdgaidaaGreatDoor
open Go.RowKit

def parB (par : Bool) (c : UInt8) : List UInt8 := if par then [c] else []
def optB (b : Bool) (l : List UInt8) : List UInt8 := if b then l else []
/-- A place's numbers. -/
def crdB (f : Nat → List UInt8) (par : Bool) (x y z m : Nat) (t : Int) : List UInt8 :=
  parB par 40 ++ f x ++ [32] ++ f y ++ optB (hasZ t) ([32] ++ f z) ++ optB (hasM t) ([32] ++ f m) ++ parB par 41
theorem parB_len (par : Bool) (c : UInt8) : (parB par c).length ≤ 1 := by cases par <;> simp [parB]
theorem optB_len (b : Bool) (l : List UInt8) : (optB b l).length ≤ l.length := by cases b <;> simp [optB]
theorem crdB_len (f : Nat → List UInt8) (hf : ∀ x, (f x).length ≤ 7100) (par : Bool) (x y z m : Nat) (t : Int) : (crdB f par x y z m t).length ≤ 28500 := by
  have lx := hf x; have ly := hf y; have lz := hf z; have lm := hf m
  have a := parB_len par 40; have b := parB_len par 41
  have c := optB_len (hasZ t) ([32] ++ f z); have d := optB_len (hasM t) ([32] ++ f m)
  unfold crdB
  simp only [List.length_append, List.length_cons, List.length_nil] at *
  omega
def crdC (f : Nat → List UInt8) (par : Bool) (c : Crd) : List UInt8 := crdB f par c.x c.y c.z c.m c.t

def sepB (s : UInt8) : List (List UInt8) → List UInt8
  | [] => []
  | x :: r => x ++ r.flatMap (fun y => s :: y)
def emptyW : List UInt8 := [69, 77, 80, 84, 89]
def wrapB (ps : List (List UInt8)) : List UInt8 := if ps.length = 0 then emptyW else [40] ++ sepB 44 ps ++ [41]
theorem sepB_snoc (s : UInt8) (l : List (List UInt8)) (x : List UInt8) : sepB s (l ++ [x]) = sepB s l ++ (if l.length = 0 then [] else [s]) ++ x := by
  cases l with
  | nil => simp [sepB]
  | cons a r => simp [sepB]
theorem sepB_take (s : UInt8) (l : List (List UInt8)) (j : Nat) (h : j < l.length) : sepB s (l.take (j + 1)) = sepB s (l.take j) ++ (if j = 0 then [] else [s]) ++ l[j] := by
  rw [List.take_succ_eq_append_getElem h, sepB_snoc]
  congr 2
  rw [List.length_take, Nat.min_eq_left (by omega)]
theorem wrap_ne (ps : List (List UInt8)) (h : ps.length ≠ 0) : wrapB ps ≠ emptyW := by
  unfold wrapB; rw [if_neg h]; simp [emptyW]
theorem wrap_eq (ps : List (List UInt8)) : wrapB ps = emptyW ↔ ps.length = 0 := by
  constructor
  · intro h; by_cases h0 : ps.length = 0
    · exact h0
    · exact absurd h (wrap_ne ps h0)
  · intro h; unfold wrapB; rw [if_pos h]

/- The reference's text. -/
def plcB (f : Nat → List UInt8) (t : Int) (c : Crd) : List UInt8 := sepB 32 ((crdNums t c).map (f))
def headB (k d : Int) (body : List UInt8) : List UInt8 := kindName k ++ (if d ≠ 0 then [32] ++ dimName d else []) ++ (if d ≠ 0 ∨ body = emptyW then [32] else []) ++ body
mutual
def bodyB (f : Nat → List UInt8) : G → List UInt8
  | .mk k d ns ks => wrapB ((plsOf d ns).map (plcB f d) ++ bodyBL f (k == 0) ks)
def bodyBL (f : Nat → List UInt8) (c : Bool) : List G → List (List UInt8)
  | [] => []
  | g :: r => (if c then headB g.kind g.dim (bodyB f g) else bodyB f g) :: bodyBL f c r
end
def wktB (f : Nat → List UInt8) (g : G) : List UInt8 := headB g.kind g.dim (bodyB f g)
theorem bodyBL_map (f : Nat → List UInt8) (c : Bool) : ∀ l : List G, bodyBL f c l = l.map fun g => if c then wktB f g else bodyB f g
  | [] => by simp [bodyBL]
  | g :: r => by simp [bodyBL, bodyBL_map f c r, wktB]

/- The program's text. -/
def ptB (f : Nat → List UInt8) (p : Pt) : List UInt8 := if p.full then crdC f true p.c else emptyW
def lnB (f : Nat → List UInt8) (l : Ln) : List UInt8 := wrapB ((plsOf l.t l.xs).map (crdC f false))
def pgB (f : Nat → List UInt8) (p : Pg) : List UInt8 := wrapB (p.rings.map (lnB f))
def nameB (k t : Int) (body : List UInt8) : List UInt8 := kindName k ++ hdrB t ++ (if t = 0 ∧ body = emptyW then [32] else []) ++ body
mutual
def geoB (f : Nat → List UInt8) : Geo → List UInt8
  | .pt p => nameB 1 p.c.t (ptB f p)
  | .ln l => nameB 2 l.t (lnB f l)
  | .pg p => nameB 3 p.t (pgB f p)
  | .mp ps t => nameB 4 t (wrapB (ps.map (ptB f)))
  | .ml ls t => nameB 5 t (wrapB (ls.map (lnB f)))
  | .mg ps t => nameB 6 t (wrapB (ps.map (pgB f)))
  | .gc gs t => nameB 0 t (wrapB (geoBL f gs))
def geoBL (f : Nat → List UInt8) : List Geo → List (List UInt8)
  | [] => []
  | g :: r => geoB f g :: geoBL f r
end
theorem geoBL_map (f : Nat → List UInt8) : ∀ l : List Geo, geoBL f l = l.map (geoB f)
  | [] => by simp [geoBL]
  | g :: r => by simp [geoBL, geoBL_map f r]

theorem head_name (k d : Int) (body : List UInt8) (h0 : 0 ≤ d) (h1 : d ≤ 3) : headB k d body = nameB k d body := by
  unfold headB nameB
  rcases four d h0 h1 with rfl | rfl | rfl | rfl <;> simp [hdrB, dimName]
theorem plc_crd (f : Nat → List UInt8) (t : Int) (c : Crd) (ht : c.t = t) (h0 : 0 ≤ t) (h1 : t ≤ 3) : plcB f t c = crdC f false c := by
  obtain ⟨x, y, z, m, u⟩ := c
  simp only at ht
  subst ht
  unfold plcB crdC crdB
  rcases four u h0 h1 with rfl | rfl | rfl | rfl <;> simp [crdNums, sepB, parB, optB, hasZ, hasM]
theorem par_crd (f : Nat → List UInt8) (c : Crd) : crdC f true c = [40] ++ crdC f false c ++ [41] := by
  unfold crdC crdB
  simp [parB]
theorem crd_again (t : Int) (c : Crd) (h0 : 0 ≤ t) (h1 : t ≤ 3) : crdNums t (crdOf t (crdNums t c) 0) = crdNums t c := by
  rcases four t h0 h1 with rfl | rfl | rfl | rfl <;> simp [crdNums, crdOf]
theorem bodyB_pt (f : Nat → List UInt8) (p : Pt) (h : p.ok) : bodyB f (ptG p) = ptB f p := by
  obtain ⟨h0, h1⟩ := h
  unfold ptG ptB
  by_cases hf : p.full = true
  · simp only [hf, if_true, bodyB, bodyBL]
    rw [pls_one _ _ h0 h1, par_crd, ← plc_crd f p.c.t p.c rfl h0 h1]
    unfold plcB
    simp only [List.map_cons, List.map_nil, List.append_nil, wrapB, List.length_cons, List.length_nil, sepB, List.flatMap_nil]
    rw [crd_again _ _ h0 h1]
    simp
  · simp [hf, bodyB, bodyBL, plsOf, wrapB]
theorem bodyB_ln (f : Nat → List UInt8) (l : Ln) (h : l.ok) : bodyB f (lnG l) = lnB f l := by
  obtain ⟨h0, h1, _⟩ := h
  simp only [lnG, lnB, bodyB, bodyBL, List.append_nil]
  congr 1
  refine List.map_congr_left fun c hc => ?_
  obtain ⟨i, _, rfl⟩ := List.mem_map.1 hc
  exact plc_crd f l.t _ rfl h0 h1
theorem bodyB_pg (f : Nat → List UInt8) (p : Pg) (h : p.ok) : bodyB f (pgG p) = pgB f p := by
  simp only [pgG, pgB, bodyB, bodyBL_map, List.map_map]
  congr 1
  have : ((3 : Int) == 0) = false := by decide
  simp only [plsOf, List.length_nil, Nat.zero_div, List.range_zero, List.map_nil, List.nil_append, this]
  exact List.map_congr_left fun l hl => by simpa using bodyB_ln f l (h.1 l hl)
theorem bodyB_parts {α : Type} (f : Nat → List UInt8) (q : α → G) (b : α → List UInt8) (k t : Int) (hk : (k == 0) = false) (l : List α) (h : ∀ x ∈ l, bodyB f (q x) = b x) : bodyB f (.mk k t [] (l.map q)) = wrapB (l.map b) := by
  simp only [bodyB, bodyBL_map, List.map_map]
  congr 1
  simp only [plsOf, List.length_nil, Nat.zero_div, List.range_zero, List.map_nil, List.nil_append, hk]
  exact List.map_congr_left fun x hx => by simpa using h x hx
mutual
theorem wkt_geo (f : Nat → List UInt8) : ∀ g : Geo, g.ok → wktB f g.toG = geoB f g
  | .pt p, h => by
    simp only [Geo.ok] at h
    simp only [Geo.toG, geoB, wktB]
    rw [bodyB_pt f p h]; exact head_name _ _ _ h.1 h.2
  | .ln l, h => by
    simp only [Geo.ok] at h
    simp only [Geo.toG, geoB, wktB]
    rw [bodyB_ln f l h]; exact head_name _ _ _ h.1 h.2.1
  | .pg p, h => by
    simp only [Geo.ok] at h
    simp only [Geo.toG, geoB, wktB]
    rw [bodyB_pg f p h]; exact head_name _ _ _ h.2.2.1 h.2.2.2
  | .mp ps t, h => by
    simp only [Geo.ok] at h
    simp only [Geo.toG, geoB, wktB]
    rw [bodyB_parts f ptG (ptB f) 4 t rfl ps (fun x hx => bodyB_pt f x (h.1 x hx))]; exact head_name _ _ _ h.2.2.1 h.2.2.2
  | .ml ps t, h => by
    simp only [Geo.ok] at h
    simp only [Geo.toG, geoB, wktB]
    rw [bodyB_parts f lnG (lnB f) 5 t rfl ps (fun x hx => bodyB_ln f x (h.1 x hx))]; exact head_name _ _ _ h.2.2.1 h.2.2.2
  | .mg ps t, h => by
    simp only [Geo.ok] at h
    simp only [Geo.toG, geoB, wktB]
    rw [bodyB_parts f pgG (pgB f) 6 t rfl ps (fun x hx => bodyB_pg f x (h.1 x hx))]; exact head_name _ _ _ h.2.2.1 h.2.2.2
  | .gc gs t, h => by
    simp only [Geo.ok] at h
    simp only [Geo.toG, geoB, wktB]
    have e : bodyB f (.mk 0 t [] (Geo.toGL gs)) = wrapB (geoBL f gs) := by
      simp only [bodyB]
      rw [show ((0 : Int) == 0) = true by decide, wktL_geo f gs h.1]
      simp [plsOf]
    rw [e]; exact head_name _ _ _ h.2.2.1 h.2.2.2
theorem wktL_geo (f : Nat → List UInt8) : ∀ l : List Geo, Geo.okL l → bodyBL f true (Geo.toGL l) = geoBL f l
  | [], _ => by simp [Geo.toGL, bodyBL, geoBL]
  | g :: r, h => by
    simp only [Geo.okL] at h
    have e := wkt_geo f g h.1
    simp only [wktB] at e
    simp only [Geo.toGL, bodyBL, geoBL, if_true]
    rw [e, wktL_geo f r h.2]
end

/- How long texts are. -/
mutual
def G.pw : G → Nat
  | .mk _ d ns ks => 1 + ns.length / dN d + G.pwL ks
def G.pwL : List G → Nat
  | [] => 0
  | g :: r => g.pw + G.pwL r
end
mutual
def G.wt : G → Nat
  | .mk _ _ ns ks => 1 + ns.length + G.wtL ks
def G.wtL : List G → Nat
  | [] => 0
  | g :: r => g.wt + G.wtL r
end
def totB (ps : List (List UInt8)) : Nat := (ps.map fun p => p.length + 1).sum
theorem totB_append (a b : List (List UInt8)) : totB (a ++ b) = totB a + totB b := by simp [totB]
theorem sepB_len (s : UInt8) (ps : List (List UInt8)) : (sepB s ps).length ≤ totB ps := by
  cases ps with
  | nil => simp [sepB]
  | cons x r =>
    have : ∀ r : List (List UInt8), (r.flatMap fun y => s :: y).length = totB r := by
      intro r; induction r with
      | nil => simp [totB]
      | cons a r ih => simp [totB] at *; omega
    simp only [sepB, List.length_append, this]
    simp [totB] <;> omega
theorem wrapB_len (ps : List (List UInt8)) : (wrapB ps).length ≤ totB ps + 7 := by
  have := sepB_len 44 ps
  unfold wrapB
  split
  · simp [emptyW]
  · simp only [List.length_append, List.length_cons, List.length_nil]; omega
theorem totB_map {α : Type} (f : α → List UInt8) (n : Nat) (l : List α) (h : ∀ x ∈ l, (f x).length ≤ n) : totB (l.map f) ≤ (n + 1) * l.length := by
  induction l with
  | nil => simp [totB]
  | cons a r ih =>
    have h1 := h a (by simp)
    have h2 := ih (fun x hx => h x (by simp [hx]))
    simp only [totB, List.map_cons, List.sum_cons, List.length_cons] at *
    rw [Nat.mul_succ]; omega
theorem plcB_len (f : Nat → List UInt8) (hf : ∀ x, (f x).length ≤ 7100) (t : Int) (c : Crd) : (plcB f t c).length ≤ 29000 := by
  unfold plcB
  have h := sepB_len 32 ((crdNums t c).map (f))
  have h2 := totB_map (f) 7100 (crdNums t c) (fun x _ => hf x)
  have h3 : (crdNums t c).length ≤ 4 := by unfold crdNums; split <;> split <;> simp
  omega
theorem kindName_len (k : Int) : (kindName k).length ≤ 18 := by unfold kindName; repeat' split <;> try simp
theorem dimName_len (k : Int) : (dimName k).length ≤ 2 := by unfold dimName; repeat' split <;> try simp
theorem headB_len (k d : Int) (b : List UInt8) : (headB k d b).length ≤ b.length + 22 := by
  have h1 := kindName_len k; have h2 := dimName_len d
  unfold headB
  simp only [List.length_append]
  have a : (if d ≠ 0 then [32] ++ dimName d else []).length ≤ 3 := by split <;> simp <;> omega
  have b : (if d ≠ 0 ∨ b = emptyW then ([32] : List UInt8) else []).length ≤ 1 := by split <;> simp
  omega
mutual
theorem bodyB_len (f : Nat → List UInt8) (hf : ∀ x, (f x).length ≤ 7100) : ∀ g : G, (bodyB f g).length + 100 ≤ 40000 * g.pw
  | .mk k d ns ks => by
    have h1 := wrapB_len ((plsOf d ns).map (plcB f d) ++ bodyBL f (k == 0) ks)
    have h2 := totB_map (plcB f d) 29000 (plsOf d ns) (fun x _ => plcB_len f hf d x)
    have h3 := bodyBL_len f hf (k == 0) ks
    have h4 : (plsOf d ns).length = ns.length / dN d := by simp [plsOf]
    rw [totB_append] at h1
    simp only [bodyB, G.pw]
    rw [h4] at h2
    generalize ns.length / dN d = q at *
    omega
theorem bodyBL_len (f : Nat → List UInt8) (hf : ∀ x, (f x).length ≤ 7100) (c : Bool) : ∀ l : List G, totB (bodyBL f c l) ≤ 40000 * G.pwL l
  | [] => by simp [bodyBL, totB]
  | g :: r => by
    have h1 := bodyB_len f hf g
    have h2 := bodyBL_len f hf c r
    have h3 := headB_len g.kind g.dim (bodyB f g)
    simp only [bodyBL, G.pwL, totB, List.map_cons, List.sum_cons] at *
    cases c
    · simp only [Bool.false_eq_true, if_false]; omega
    · simp only [if_true]; omega
end
theorem wktB_len (f : Nat → List UInt8) (hf : ∀ x, (f x).length ≤ 7100) (g : G) : (wktB f g).length ≤ 40000 * g.pw := by
  have h1 := bodyB_len f hf g
  have h3 := headB_len g.kind g.dim (bodyB f g)
  unfold wktB; omega
theorem crdNums_le (t : Int) (c : Crd) : (crdNums t c).length ≤ dN t := by
  unfold crdNums dN dimN
  by_cases h1 : t = 1
  · subst h1; simp
  by_cases h2 : t = 2
  · subst h2; simp
  by_cases h3 : t = 3
  · subst h3; simp
  · simp [h1, h2, h3]; omega
theorem numsOf_len (t : Int) (l : List Crd) : (numsOf t l).length ≤ l.length * dN t := by
  induction l with
  | nil => simp [numsOf]
  | cons a r ih =>
    have := crdNums_le t a
    simp only [numsOf, List.flatMap_cons, List.length_append, List.length_cons, Nat.succ_mul] at *
    omega
mutual
theorem force_pw : ∀ (g : G) (t' : Int), (g.force t').pw ≤ g.pw
  | .mk k d ns ks, t' => by
    have h1 := numsOf_len t' (plsOf d ns)
    have h2 := forceL_pw ks t'
    have h4 : (plsOf d ns).length = ns.length / dN d := by simp [plsOf]
    have hd := dN_bd t'
    rw [h4] at h1
    have h5 : (numsOf t' (plsOf d ns)).length / dN t' ≤ ns.length / dN d := by
      calc _ ≤ ns.length / dN d * dN t' / dN t' := Nat.div_le_div_right h1
        _ = _ := Nat.mul_div_cancel _ (by omega)
    simp only [G.force, G.pw]
    omega
theorem forceL_pw : ∀ (l : List G) (t' : Int), G.pwL (G.forceL l t') ≤ G.pwL l
  | [], _ => by simp [G.forceL, G.pwL]
  | g :: r, t' => by
    have h1 := force_pw g t'
    have h2 := forceL_pw r t'
    simp only [G.forceL, G.pwL]; omega
end
theorem pwL_filter (f : G → Bool) : ∀ l : List G, G.pwL (l.filter f) ≤ G.pwL l
  | [] => by simp
  | g :: r => by
    have := pwL_filter f r
    rw [List.filter_cons]
    split <;> simp only [G.pwL] <;> omega
theorem gather_pw (k d : Int) (l : List G) : (gatherG k d l).pw ≤ 1 + G.pwL l := by
  unfold gatherG
  split
  · simp [G.pw, G.pwL]
  · exact Nat.le_trans (force_pw _ _) (by simp [G.pw])
mutual
theorem newG_pw : ∀ g : G, (newG g).pw ≤ g.wt
  | .mk k d ns ks => by
    have h1 := newGL_pw ks
    simp only [newG, G.wt]
    split
    · simp only [G.pw, G.pwL]
      have h2 : (leafN (kindOf k) (d % 4) ns).length ≤ ns.length := by unfold leafN; rw [List.length_take]; omega
      have h3 := Nat.div_le_self (leafN (kindOf k) (d % 4) ns).length (dN (d % 4))
      omega
    · have h2 := gather_pw (kindOf k) (d % 4) ((newGL ks).filter (fitG (kindOf k)))
      have h3 := pwL_filter (fitG (kindOf k)) (newGL ks)
      omega
theorem newGL_pw : ∀ l : List G, G.pwL (newGL l) ≤ G.wtL l
  | [] => by simp [newGL, G.pwL]
  | g :: r => by
    have h1 := newG_pw g
    have h2 := newGL_pw r
    simp only [newGL, G.pwL, G.wtL]; omega
end
mutual
theorem gw_wt : ∀ (g : G) (left : Int), 0 ≤ gw g left → gw g left = left - g.wt
  | .mk k d ns ks, left, h => by
    simp only [gw, G.wt] at *
    split at h
    · omega
    · next hc =>
      rw [if_neg hc]
      have := gwL_wt ks _ h
      rw [this]; omega
theorem gwL_wt : ∀ (l : List G) (left : Int), 0 ≤ gwL l left → gwL l left = left - G.wtL l
  | [], left, h => by simp [gwL, G.wtL]
  | g :: r, left, h => by
    simp only [gwL, G.wtL] at *
    split at h
    · omega
    · next hc =>
      rw [if_neg hc]
      have h2 := gwL_wt r _ h
      have h1 : 0 ≤ gw g left := by
        rcases Int.lt_or_le (gw g left) 0 with hn | hn
        · rw [gwL_neg _ _ hn] at h; omega
        · exact hn
      have h3 := gw_wt g left h1
      rw [h2, h3]; omega
end
mutual
theorem wt_ok : ∀ (g : G), g.wt ≤ 1000000 → g.ok
  | .mk k d ns ks, h => by
    simp only [G.wt] at h
    have := wtL_ok ks (by omega)
    simp only [G.ok]
    exact ⟨by omega, by omega, this.1⟩
theorem wtL_ok : ∀ (l : List G), G.wtL l ≤ 1000000 → G.okL l ∧ l.length ≤ G.wtL l
  | [], _ => by simp [G.okL]
  | g :: r, h => by
    simp only [G.wtL] at h
    have h1 := wt_ok g (by omega)
    have h2 := wtL_ok r (by omega)
    have h3 : 1 ≤ g.wt := by cases g; simp only [G.wt]; omega
    simp only [G.okL, G.wtL, List.length_cons]
    exact ⟨⟨h1, h2.1⟩, by omega⟩
end
/-- The reference's text is the program's, and it is short. -/
theorem text_law (f : Nat → List UInt8) (hf : ∀ x, (f x).length ≤ 7100) (g : G) (h : 0 ≤ gw g 2000) : wktB f (newG g) = geoB f (geoOf g) ∧ (geoB f (geoOf g)).length ≤ 80000000 ∧ g.ok := by
  have h1 := gw_wt g 2000 h
  have hok := wt_ok g (by omega)
  have e := wkt_geo f (geoOf g) (geoOf_ok g hok)
  rw [← newG_geo g hok] at e
  refine ⟨e, ?_, hok⟩
  rw [← e]
  have h2 := wktB_len f hf (newG g)
  have h3 := newG_pw g
  omega
end Go.Proofs.YtahnhhkbdgaidaaGreatDoor
