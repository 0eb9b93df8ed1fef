/-
  The statement's own function: it answers true.
-/
import Derived.Test.YtahnhhkbdgaidaaGreatDoorKam
import Derived.Test.YtahnhhkbdgaidaaGreatDoorKaz
import Derived.Test.YtahnhhkbdgaidaaGreatDoorKat
import Derived.Test.YtahnhhkbdgaidaaGreatDoorKaa
import Derived.Test.YtahnhhkbdgaidaaGreatDoorKao
import Derived.Test.YtahnhhkbdgaidaaGreatDoorKar
namespace Go.Proofs.YtahnhhkbdgaidaaGreatDoor
open Go.RowKit
set_option maxRecDepth 100000
end Go.Proofs.YtahnhhkbdgaidaaGreatDoor
namespace Go.Proofs.YtahnhhkbdgaidaaGreatDoor
open Go.RowKit
mutual
/-- All types of coordinates are ones. -/
def G.dimok : G → Prop
  | .mk _ d _ ks => 0 ≤ d ∧ d ≤ 3 ∧ G.dimokL ks
def G.dimokL : List G → Prop
  | [] => True
  | g :: r => g.dimok ∧ G.dimokL r
end
theorem G.dimokL_of : ∀ {l : List G}, (∀ g ∈ l, g.dimok) → G.dimokL l
  | [], _ => by simp [G.dimokL]
  | a :: r, h => by
    simp only [G.dimokL]
    exact ⟨h a (by simp), G.dimokL_of fun g hg => h g (by simp [hg])⟩
theorem G.pw_pos : ∀ (g : G), 1 ≤ g.pw
  | .mk _ d ns ks => by simp only [G.pw]; generalize ns.length / dN d = q; omega
theorem G.pwL_len : ∀ l : List G, l.length ≤ G.pwL l
  | [] => by simp
  | g :: r => by have := G.pwL_len r; have := g.pw_pos; simp only [G.pwL, List.length_cons]; omega
mutual
theorem fine_of : ∀ g : G, g.dimok → g.pw ≤ 200000 → g.fine
  | .mk k d ns ks, h, hp => by
    simp only [G.dimok] at h
    simp only [G.pw] at hp
    simp only [G.fine]
    have hd := dN_bd d
    have h1 := Nat.div_add_mod ns.length (dN d)
    have h2 := Nat.mod_lt ns.length (show 0 < dN d by omega)
    have h3 := G.pwL_len ks
    have h4 : dN d * (ns.length / dN d) ≤ 4 * 200000 := Nat.mul_le_mul (by omega) (by generalize ns.length / dN d = q at *; omega)
    have h5 : G.pwL ks ≤ 200000 := by generalize ns.length / dN d = q at *; omega
    clear hp
    generalize dN d * (ns.length / dN d) = z at *
    exact ⟨h.1, h.2.1, by omega, by omega, fineL_of ks h.2.2 h5⟩
theorem fineL_of : ∀ l : List G, G.dimokL l → G.pwL l ≤ 200000 → G.fineL l
  | [], _, _ => by simp [G.fineL]
  | g :: r, h, hp => by
    simp only [G.dimokL] at h
    simp only [G.pwL] at hp
    simp only [G.fineL]
    exact ⟨fine_of g h.1 (by omega), fineL_of r h.2 (by omega)⟩
end
theorem ptG_dimok (p : Pt) (h : p.ok) : (ptG p).dimok := by simp only [ptG, G.dimok, G.dimokL]; exact ⟨h.1, h.2, trivial⟩
theorem lnG_dimok (p : Ln) (h : p.ok) : (lnG p).dimok := by simp only [lnG, G.dimok, G.dimokL]; exact ⟨h.1, h.2.1, trivial⟩
theorem mapG_dimok {α : Type} (f : α → G) (l : List α) (h : ∀ x ∈ l, (f x).dimok) : G.dimokL (l.map f) := G.dimokL_of fun g hg => by obtain ⟨x, hx, rfl⟩ := List.mem_map.1 hg; exact h x hx
theorem pgG_dimok (p : Pg) (h : p.ok) : (pgG p).dimok := by simp only [pgG, G.dimok]; exact ⟨h.2.2.1, h.2.2.2, mapG_dimok _ _ fun l hl => lnG_dimok l (h.1 l hl)⟩
mutual
theorem toG_dimok : ∀ g : Geo, g.ok → g.toG.dimok
  | .pt p, h => by simp only [Geo.ok] at h; simp only [Geo.toG]; exact ptG_dimok p h
  | .ln p, h => by simp only [Geo.ok] at h; simp only [Geo.toG]; exact lnG_dimok p h
  | .pg p, h => by simp only [Geo.ok] at h; simp only [Geo.toG]; exact pgG_dimok p h
  | .mp ps t, h => by simp only [Geo.ok] at h; simp only [Geo.toG, G.dimok]; exact ⟨h.2.2.1, h.2.2.2, mapG_dimok _ _ fun l hl => ptG_dimok l (h.1 l hl)⟩
  | .ml ps t, h => by simp only [Geo.ok] at h; simp only [Geo.toG, G.dimok]; exact ⟨h.2.2.1, h.2.2.2, mapG_dimok _ _ fun l hl => lnG_dimok l (h.1 l hl)⟩
  | .mg ps t, h => by simp only [Geo.ok] at h; simp only [Geo.toG, G.dimok]; exact ⟨h.2.2.1, h.2.2.2, mapG_dimok _ _ fun l hl => pgG_dimok l (h.1 l hl)⟩
  | .gc gs t, h => by simp only [Geo.ok] at h; simp only [Geo.toG, G.dimok]; exact ⟨h.2.2.1, h.2.2.2, toGL_dimok gs h.1⟩
theorem toGL_dimok : ∀ l : List Geo, Geo.okL l → G.dimokL (Geo.toGL l)
  | [], _ => by simp [Geo.toGL, G.dimokL]
  | g :: r, h => by
    simp only [Geo.okL] at h
    simp only [Geo.toGL, G.dimokL]
    exact ⟨toG_dimok g h.1, toGL_dimok r h.2⟩
end
theorem newG_dimok (g : G) (h : g.ok) : (newG g).dimok := by rw [newG_geo g h]; exact toG_dimok _ (geoOf_ok g h)
theorem G.dimok_dim (g : G) (h : g.dimok) : 0 ≤ g.dim ∧ g.dim ≤ 3 := by cases g; simp only [G.dimok] at h; exact ⟨h.1, h.2.1⟩
theorem wt_kid : ∀ (l : List G) (i : Nat) (h : i < l.length), (l[i]).wt ≤ G.wtL l
  | [], _, h => absurd h (by simp)
  | g :: r, 0, _ => by simp [G.wtL]
  | g :: r, i + 1, h => by
    have := wt_kid r i (by simpa using h)
    simp only [List.getElem_cons_succ, G.wtL]
    omega
theorem c13 : ∀ (m : Nat) (g : G) (S : Nat → Prop) (vn vk : Value) (w : World), g.size ≤ m → g.wt ≤ 200000 → (∀ b, w.heap.size ≤ b → S b) → Rd S w (fl g.nums) vn → Rd S w (.list (G.fsL g.kids)) vk → CapG w g vn vk →
    Calls Tryz.prog 13 #[.agg #[.int .i64 g.kind, .int .i64 g.dim, vn, vk]] w (NewR S w (newG g)) := by
  intro m
  induction m with
  | zero => intro g _ _ _ _ h; have := G.size_eq g; omega
  | succ m ih =>
  intro g S vn vk w hm hw hS hn hk hcap
  obtain ⟨k, d, ns, ks⟩ := g
  simp only [G.kind, G.dim, G.nums, G.kids] at hn hk ⊢
  simp only [G.size] at hm
  simp only [G.wt] at hw
  simp only [CapG] at hcap
  obtain ⟨⟨an, cn, rfl, hcl, hnil⟩, hkc⟩ := hcap
  obtain ⟨ak, ck, rfl⟩ := kids_shape hk
  have hokL := (wtL_ok ks (by omega)).1
  have hkl := (wtL_ok ks (by omega)).2
  by_cases h1 : k = 1
  · subst h1
    refine (c13_1 S d ns an ak cn _ ck w (by omega) hcl hnil hS hn).mono fun e w' ⟨a1, c1, he, hr, hb⟩ => ?_
    have e1 : newG (.mk 1 d ns ks) = .mk 1 (d % 4) (leafN 1 (d % 4) ns) [] := by simp [newG, kindOf]
    rw [e1]
    exact ⟨a1, c1, none, 0, he, hr, by simp only [G.kids, G.fsL]; exact .nil _ _, hb⟩
  by_cases h2 : k = 2
  · subst h2
    refine (c13_2 S d ns an ak cn _ ck w (by omega) hcl hnil hS hn).mono fun e w' ⟨a1, c1, he, hr, hb⟩ => ?_
    have e1 : newG (.mk 2 d ns ks) = .mk 2 (d % 4) (leafN 2 (d % 4) ns) [] := by simp [newG, kindOf]
    rw [e1]
    exact ⟨a1, c1, none, 0, he, hr, by simp only [G.kids, G.fsL]; exact .nil _ _, hb⟩
  have IH := fun (j : Nat) (hj : j < ks.length) (S : Nat → Prop) (vn vk : Value) (w : World) (hS : ∀ b, w.heap.size ≤ b → S b) (hn : Rd S w (fl (ks[j]).nums) vn) (hk : Rd S w (.list (G.fsL (ks[j]).kids)) vk) (hc : CapG w ks[j] vn vk) =>
    ih ks[j] S vn vk w (by have := G.size_kid ks j hj; omega) (by have := wt_kid ks j hj; omega) hS hn hk hc
  have hdims : ∀ g ∈ ks, 0 ≤ (newG g).dim ∧ (newG g).dim ≤ 3 := fun g hg => G.dimok_dim _ (newG_dimok g (G.okL_mem hokL g hg))
  have hfine : ∀ kk, (G.mk kk (d % 4) [] ((ks.map newG).filter (fitG kk))).fine := fun kk => by
    refine fine_of _ ?_ ?_
    · simp only [G.dimok]
      exact ⟨(dim_bd d).1, (dim_bd d).2, G.dimokL_of fun g hg => by
        obtain ⟨x, hx, rfl⟩ := List.mem_map.1 (List.mem_filter.1 hg).1
        exact newG_dimok x (G.okL_mem hokL x hx)⟩
    · have h1 := pwL_filter (fitG kk) (ks.map newG)
      have h2 := newGL_pw ks
      rw [newGL_map] at h2
      simp only [G.pw, List.length_nil, Nat.zero_div]; omega
  by_cases hneg : k < 0
  · rw [newG_part k d ns ks 0 (by simp [kindOf, hneg]) (by omega)]
    exact c13_neg S k d ks an ak _ cn ck w hneg (by omega) (hfine 0) hdims IH hS hk hkc
  by_cases hbig : 6 < k
  · rw [newG_part k d ns ks 0 (by simp [kindOf, hbig]) (by omega)]
    exact c13_big S k d ks an ak _ cn ck w hbig (by omega) (hfine 0) hdims IH hS hk hkc
  by_cases hz : k = 0
  · subst hz
    rw [newG_part 0 d ns ks 0 (by decide) (by omega)]
    exact c13_zero S 0 d ks an ak _ cn ck w (by omega) (hfine 0) hdims IH hS hk hkc
  · rw [newG_part k d ns ks k (by unfold kindOf; rw [if_neg (by omega)]) (by omega)]
    have hq : 0 ≤ kidOf k := by
      have : k = 3 ∨ k = 4 ∨ k = 5 ∨ k = 6 := by omega
      rcases this with rfl | rfl | rfl | rfl <;> decide
    exact c13_part S k d ks an ak _ cn ck w (by omega) (by omega) h1 h2 (kidOf k) rfl hq (by omega) (hfine k) hdims IH hS hk hkc
end Go.Proofs.YtahnhhkbdgaidaaGreatDoor
namespace Go.Proofs.YtahnhhkbdgaidaaGreatDoor
open Go.RowKit
set_option maxRecDepth 100000
end Go.Proofs.YtahnhhkbdgaidaaGreatDoor
namespace Go.Proofs.YtahnhhkbdgaidaaGreatDoor
open Go.RowKit
set_option maxRecDepth 100000
end Go.Proofs.YtahnhhkbdgaidaaGreatDoor
