/-
  Geometries as plain data: how they read in memory; how great they are; a question of all their numbers.
-/
import Derived.Test.YtahnhhkbdgaidaaGreatDoorBb
namespace Go.Proofs.YtahnhhkbdgaidaaGreatDoor
open Go.RowKit

inductive G where
  | mk (kind dim : Int) (nums : List Nat) (kids : List G)
def G.kind : G → Int | .mk k _ _ _ => k
def G.dim : G → Int | .mk _ d _ _ => d
def G.nums : G → List Nat | .mk _ _ n _ => n
def G.kids : G → List G | .mk _ _ _ l => l

/-- A list of numbers. -/
def fl (xs : List Nat) : F := .list (xs.map fun x => [.atom (.float .f64 x)])
mutual
def G.fs : G → List F
  | .mk k d ns ks => [.atom (.int .i64 k), .atom (.int .i64 d), fl ns, .list (G.fsL ks)]
def G.fsL : List G → List (List F)
  | [] => []
  | g :: r => g.fs :: G.fsL r
end
mutual
def G.size : G → Nat
  | .mk _ _ _ ks => G.sizeL ks + 1
def G.sizeL : List G → Nat
  | [] => 0
  | g :: r => g.size + G.sizeL r
end
theorem G.fsL_map : ∀ l : List G, G.fsL l = l.map G.fs
  | [] => by simp [G.fsL]
  | g :: r => by simp [G.fsL, G.fsL_map r]
theorem G.fsL_length (l : List G) : (G.fsL l).length = l.length := by rw [G.fsL_map, List.length_map]
theorem G.fs_eq (g : G) : g.fs = [.atom (.int .i64 g.kind), .atom (.int .i64 g.dim), fl g.nums, .list (G.fsL g.kids)] := by
  cases g; simp [G.fs, G.kind, G.dim, G.nums, G.kids]
theorem G.size_kid : ∀ (l : List G) (i : Nat) (h : i < l.length), (l[i]).size ≤ G.sizeL l
  | [], _, h => absurd h (by simp)
  | g :: r, 0, _ => by simp [G.sizeL]
  | g :: r, i + 1, h => by
    have := G.size_kid r i (by simpa using h)
    simp only [List.getElem_cons_succ, G.sizeL]
    omega
theorem G.size_eq (g : G) : g.size = G.sizeL g.kids + 1 := by cases g; simp [G.size, G.kids]

theorem fl_inv {S : Nat → Prop} {w : World} {xs : List Nat} {v : Value} (h : Rd S w (fl xs) v) : ∃ a c, v = .slice a xs.length c ∧ xs.length ≤ 17592186044416 ∧
    ∀ i (hi : i < xs.length), ∃ b off, a = some ⟨b, off, none⟩ ∧ S b ∧ b < w.heap.size ∧ w.cell? ⟨b, off + i, none⟩ = some (.float .f64 (xs[i])) := by
  obtain ⟨a, c, rfl, hm, hi⟩ := h.list_inv
  simp only [List.length_map] at *
  refine ⟨a, c, rfl, hm, fun i hlt => ?_⟩
  obtain ⟨b, off, sz, cell, rfl, hsz, hS, hb, hlen, hc, hr⟩ := hi i hlt
  have h1 := hlen i hlt
  simp only [List.getElem_map, List.length_cons, List.length_nil] at h1
  subst h1
  have h2 := hc i 0 hlt (by omega)
  have h3 := (hr i hlt 0 (by simp)) 
  simp only [List.getElem_map, List.getElem_cons_zero] at h3
  rw [h3.atom_inv] at h2
  exact ⟨b, off, rfl, hS, hb, by simpa using h2⟩

theorem kids_inv {S : Nat → Prop} {w : World} {ks : List G} {v : Value} (h : Rd S w (.list (G.fsL ks)) v) : ∃ a c, v = .slice a ks.length c ∧ ks.length ≤ 17592186044416 ∧
    ∀ i (hi : i < ks.length), ∃ b off vn vk, a = some ⟨b, off, none⟩ ∧ S b ∧ b < w.heap.size ∧ w.cell? ⟨b, off + i * 4, none⟩ = some (.int .i64 (ks[i]).kind) ∧
      w.cell? ⟨b, off + i * 4 + 1, none⟩ = some (.int .i64 (ks[i]).dim) ∧ w.cell? ⟨b, off + i * 4 + 2, none⟩ = some vn ∧ w.cell? ⟨b, off + i * 4 + 3, none⟩ = some vk ∧
      Rd S w (fl (ks[i]).nums) vn ∧ Rd S w (.list (G.fsL (ks[i]).kids)) vk := by
  obtain ⟨a, c, rfl, hm, hi⟩ := h.list_inv
  rw [G.fsL_length] at hm
  refine ⟨a, c, by rw [G.fsL_length], hm, fun i hlt => ?_⟩
  have hlt' : i < (G.fsL ks).length := by rw [G.fsL_length]; exact hlt
  obtain ⟨b, off, sz, cell, rfl, hsz, hS, hb, hlen, hc, hr⟩ := hi i hlt'
  have e : (G.fsL ks)[i] = [.atom (.int .i64 (ks[i]).kind), .atom (.int .i64 (ks[i]).dim), fl (ks[i]).nums, .list (G.fsL (ks[i]).kids)] := by
    rw [← G.fs_eq]; simp [G.fsL_map]
  have h1 := hlen i hlt'
  rw [e] at h1
  simp only [List.length_cons, List.length_nil] at h1
  subst h1
  have r0 := hr i hlt' 0 (by rw [e]; simp)
  have r1 := hr i hlt' 1 (by rw [e]; simp)
  have r2 := hr i hlt' 2 (by rw [e]; simp)
  have r3 := hr i hlt' 3 (by rw [e]; simp)
  simp only [e, List.getElem_cons_zero, List.getElem_cons_succ] at r0 r1 r2 r3
  have h0 := hc i 0 hlt' (by omega)
  have h1 := hc i 1 hlt' (by omega)
  rw [r0.atom_inv] at h0
  rw [r1.atom_inv] at h1
  exact ⟨b, off, cell i 2, cell i 3, rfl, hS, hb, by simpa using h0, h1, hc i 2 hlt' (by omega), hc i 3 hlt' (by omega), r2, r3⟩

theorem fl_shape {S : Nat → Prop} {w : World} {xs : List Nat} {v : Value} (h : Rd S w (fl xs) v) : ∃ a c, v = .slice a xs.length c :=
  let ⟨a, c, h, _⟩ := fl_inv h; ⟨a, c, h⟩
theorem kids_shape {S : Nat → Prop} {w : World} {ks : List G} {v : Value} (h : Rd S w (.list (G.fsL ks)) v) : ∃ a c, v = .slice a ks.length c :=
  let ⟨a, c, h, _⟩ := kids_inv h; ⟨a, c, h⟩

mutual
def gw : G → Int → Int
  | .mk _ _ ns ks, left => if left < 1 ∨ left < ns.length ∨ left < ks.length then -1 else gwL ks (left - 1 - ns.length)
def gwL : List G → Int → Int
  | [], left => left
  | g :: r, left => if left < 0 then left else gwL r (gw g left)
end
mutual
theorem gw_bd : ∀ (g : G) (left : Int), 0 ≤ left → -1 ≤ gw g left ∧ gw g left ≤ left
  | .mk _ _ ns ks, left, h => by
    unfold gw
    split
    · omega
    · have := gwL_bd ks (left - 1 - ns.length) (by omega); omega
theorem gwL_bd : ∀ (l : List G) (left : Int), -1 ≤ left → -1 ≤ gwL l left ∧ gwL l left ≤ left
  | [], left, h => by simp [gwL, h]
  | g :: r, left, h => by
    unfold gwL
    split
    · omega
    · have h1 := gw_bd g left (by omega)
      have h2 := gwL_bd r (gw g left) (by omega)
      omega
end
theorem gwL_step (l : List G) (i : Nat) (h : i < l.length) (left : Int) (h0 : 0 ≤ left) : gwL (l.drop i) left = gwL (l.drop (i + 1)) (gw (l[i]) left) := by
  rw [List.drop_eq_getElem_cons h, gwL, if_neg (by omega)]
theorem gwL_neg : ∀ (l : List G) (left : Int), left < 0 → gwL l left = left
  | [], _, _ => by simp [gwL]
  | _ :: _, _, h => by rw [gwL, if_pos h]
end Go.Proofs.YtahnhhkbdgaidaaGreatDoor
