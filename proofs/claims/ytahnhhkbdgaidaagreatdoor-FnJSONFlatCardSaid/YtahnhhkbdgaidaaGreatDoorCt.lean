/-
  The reference's geometry of plain data: room in slices, appends of numbers.
-/
import Derived.Test.YtahnhhkbdgaidaaGreatDoorCs
namespace Go.Proofs.YtahnhhkbdgaidaaGreatDoor
open Go.RowKit
set_option maxRecDepth 100000
mutual
/-- Each slice of numbers has room for its numbers. -/
def CapG (w : World) : G → Value → Value → Prop
  | .mk _ _ ns ks, vn, vk => (∃ a c, vn = .slice a ns.length c ∧ ns.length ≤ c ∧ (a = none → c = 0)) ∧ ∀ b off n c, vk = .slice (some ⟨b, off, none⟩) n c → CapL w ks b off
def CapL (w : World) : List G → Nat → Nat → Prop
  | [], _, _ => True
  | g :: r, b, off => (∃ vn vk, w.cell? ⟨b, off + 2, none⟩ = some vn ∧ w.cell? ⟨b, off + 3, none⟩ = some vk ∧ CapG w g vn vk) ∧ CapL w r b (off + 4)
end
theorem cell_lt {w : World} {b o : Nat} {x : Value} (h : w.cell? ⟨b, o, none⟩ = some x) : b < w.heap.size := by
  rcases Nat.lt_or_ge b w.heap.size with h1 | h1
  · exact h1
  · simp [World.cell?, Array.getElem?_eq_none h1] at h
mutual
theorem CapG.blw {w w' : World} (hb : Below w.heap.size w w') : ∀ (g : G) (vn vk : Value), CapG w g vn vk → CapG w' g vn vk
  | .mk _ _ _ ks, vn, vk, h => by
    simp only [CapG] at h ⊢
    exact ⟨h.1, fun b off n c e => CapL.blw hb ks b off (h.2 b off n c e)⟩
theorem CapL.blw {w w' : World} (hb : Below w.heap.size w w') : ∀ (l : List G) (b off : Nat), CapL w l b off → CapL w' l b off
  | [], _, _, _ => by simp [CapL]
  | g :: r, b, off, h => by
    simp only [CapL] at h ⊢
    obtain ⟨⟨vn, vk, h1, h2, h3⟩, h4⟩ := h
    exact ⟨⟨vn, vk, (hb.cell (p := ⟨b, off + 2, none⟩) (cell_lt h1)).trans h1, (hb.cell (p := ⟨b, off + 3, none⟩) (cell_lt h2)).trans h2, CapG.blw hb g vn vk h3⟩, CapL.blw hb r b (off + 4) h4⟩
end
theorem CapL.at {w : World} : ∀ (l : List G) (b off : Nat), CapL w l b off → ∀ i (hi : i < l.length), ∃ vn vk, w.cell? ⟨b, off + i * 4 + 2, none⟩ = some vn ∧ w.cell? ⟨b, off + i * 4 + 3, none⟩ = some vk ∧ CapG w l[i] vn vk
  | [], _, _, _, i, hi => by simp at hi
  | g :: r, b, off, h, i, hi => by
    simp only [CapL] at h
    cases i with
    | zero => simpa using h.1
    | succ i =>
      have := CapL.at r b (off + 4) h.2 i (by simpa using hi)
      rw [show off + (i + 1) * 4 = off + 4 + i * 4 by omega]
      exact this
theorem q31 (D : Int) (q : Nat) (hq : dimN D = (q : Int)) (w : World) (n : Nat) : Calls Tryz.prog 31 #[.int .i64 D] (w.drewN n) fun e w' => e = .returned (.int .i64 (q : Int)) ∧ w' = w.drewN n :=
  (c31 D _).mono fun e w' h => ⟨by rw [h.1, hq], h.2.symm⟩
theorem q32 (k q : Int) (hq : kidOf k = q) (w : World) (n : Nat) : Calls Tryz.prog 32 #[.int .i64 k] (w.drewN n) fun e w' => e = .returned (.int .i64 q) ∧ w' = w.drewN n :=
  (c32 k _).mono fun e w' h => ⟨by rw [h.1, hq], h.2.symm⟩
theorem app_fl2 {B : Nat} {w : World} {v : Value} {xs : List Nat} (h : Fl B w v xs) (ys : List Nat) (ad : Addr) (m c : Nat) (hm : ys.length = m) (hc : ∀ j (hj : j < ys.length), w.cell? (ad.add j) = some (.float .f64 ys[j])) (hlen : xs.length + m ≤ 1000000000) (hB : B ≤ w.heap.size) :
    ∃ v' w', (Builtin.append_ #[22, 22] 22 #[v, .slice (some ad) m c]).run Tryz.prog w = .ok v' w' ∧ Fl B w' v' (xs ++ ys) ∧ w.grownBy w' v.ownBlock := by
  obtain ⟨i0, hi0, hz0, hz1, hz2⟩ := info_parts info43
  obtain ⟨v', w', hrun, ho', hg, _, hat⟩ := run_append_own_at (P := Tryz.prog) w B 22 22 43 i0 (.float .f64 0) 1 8 Tryz.underlying22 hi0 hz0 hz1 hz2 rfl (by decide) v xs.length (xs.map (Value.float .f64)) h.own
    ad m c (ys.map (Value.float .f64)) (by simp [hm]) (fun j u hj => by
      obtain ⟨hl, e⟩ := List.getElem?_eq_some_iff.1 hj
      have hl' : j < ys.length := by simpa using hl
      rw [hc j hl', ← e]; simp) (by intro u hu; obtain ⟨x, _, rfl⟩ := List.mem_map.1 hu; rfl) (by simp only [maxLen]; omega) (by omega) hB
  refine ⟨v', w', hrun, ⟨?_⟩, hg⟩
  rw [← List.map_append] at ho'
  rw [List.length_append, hm]
  exact ho'
theorem app_fl0 (w : World) : (Builtin.append_ #[22, 22] 22 #[.slice none 0 0, .slice none 0 0]).run Tryz.prog w = .ok (.slice none 0 0) w := by kernel_rfl
theorem app_take (S : Nat → Prop) (B : Nat) (xs ns : List Nat) (a : Option Addr) (c : Nat) (w : World) (hB : B ≤ w.heap.size) (hL : xs.length ≤ ns.length) (ht : xs = ns.take xs.length) (hlen : ns.length ≤ 1000000) (hcap : ns.length ≤ c) (hnil : a = none → c = 0) (hr : Rd S w (fl ns) (.slice a ns.length c)) :
    ∃ v2 w2, (Builtin.append_ #[22, 22] 22 #[.slice none 0 0, .slice a xs.length c]).run Tryz.prog w = .ok v2 w2 ∧ Fl B w2 v2 xs ∧ Below w.heap.size w w2 := by
  rcases a with _ | ad
  · have h0 := hnil rfl
    obtain rfl : c = 0 := h0
    have hx0 : xs = [] := List.eq_nil_of_length_eq_zero (by omega)
    subst hx0
    exact ⟨_, _, app_fl0 _, Fl.nil _ _, Below.refl _ _⟩
  · obtain ⟨v2, w2, h1, h2, h3⟩ := app_fl2 (Fl.nil B w) xs ad xs.length c rfl (fun j hj => by
      obtain ⟨_, _, e, _, hat⟩ := fl_inv hr
      obtain ⟨e1, _, _⟩ := Value.slice.inj e
      obtain ⟨b, off, e2, _, _, _⟩ := hat 0 (by omega)
      obtain rfl : ad = ⟨b, off, none⟩ := Option.some.inj (e1.trans e2)
      have := fl_at hr j (by omega)
      rw [Addr.add_lit, this]
      have e3 : xs[j] = ns[j]'(by omega) := by
        have := List.getElem_of_eq ht hj
        rw [this]; simp
      rw [e3]; simp [List.getD, show j < ns.length by omega]) (by simp; omega) hB
    exact ⟨v2, w2, h1, by simpa using h2, ⟨h3.os, h3.tape, h3.output, h3.size, fun i hi => h3.block i hi (by simp [Value.ownBlock])⟩⟩
theorem Rd.setL1 {S : Nat → Prop} {n : Nat} {w : World} {f : F} {v : Value} (h : Rd (Ex (Ex S (n + 1)) (n + 2)) w f v) (o : Nat) (x : Value) : Rd (Ex (Ex S (n + 1)) (n + 2)) (w.setCell ⟨n + 1, o, none⟩ x) f v := h.setCell (fun h => h.1.2 rfl) x
theorem Rd.setL2 {S : Nat → Prop} {n : Nat} {w : World} {f : F} {v : Value} (h : Rd (Ex (Ex S (n + 1)) (n + 2)) w f v) (o : Nat) (x : Value) : Rd (Ex (Ex S (n + 1)) (n + 2)) (w.setCell ⟨n + 1 + 1, o, none⟩ x) f v := h.setCell (fun h => h.2 rfl) x
theorem drewN_alloc (w : World) (o : Obj) (n : Nat) : (w.drewN n).alloc o = (w.alloc o).drewN n := rfl
theorem leafN_len (k d : Int) (ns : List Nat) : (leafN k d ns).length = (if k = 1 then min (ns.length / dN d) 1 else ns.length / dN d) * dN d := by
  unfold leafN
  rw [List.length_take]
  have h1 := Nat.div_mul_le_self ns.length (dN d)
  have h2 : (if k = 1 then min (ns.length / dN d) 1 else ns.length / dN d) * dN d ≤ ns.length / dN d * dN d := Nat.mul_le_mul_right _ (by split <;> omega)
  omega
end Go.Proofs.YtahnhhkbdgaidaaGreatDoor
