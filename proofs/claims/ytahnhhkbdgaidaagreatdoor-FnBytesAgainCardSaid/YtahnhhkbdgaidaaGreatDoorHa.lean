/-
  The reader of binary forms: the order of a row's bytes turned.
-/
import Derived.Test.YtahnhhkbdgaidaaGreatDoorKad
namespace Go.Proofs.YtahnhhkbdgaidaaGreatDoor
open Go.RowKit
set_option maxRecDepth 100000
/-- The cells of a block with two of them changed for one another. -/
def swapC (cs : Array Value) (a b : Nat) (x y : Value) : Array Value := (cs.setIfInBounds a y).setIfInBounds b x
theorem swapC_size (cs : Array Value) (a b : Nat) (x y : Value) : (swapC cs a b x y).size = cs.size := by simp [swapC]
theorem swapC_other (cs : Array Value) (a b i : Nat) (x y : Value) (h1 : i ≠ a) (h2 : i ≠ b) : (swapC cs a b x y)[i]? = cs[i]? := by
  unfold swapC
  rw [Array.getElem?_setIfInBounds_ne (by omega), Array.getElem?_setIfInBounds_ne (by omega)]
theorem Lb.swap {w : World} {g : Nat} {cs : Array Value} {T : TypeId} (h : Lb w g cs T) (a b : Nat) (x y : Value) : Lb (((w.setCell ⟨g, a, none⟩ y).setCell ⟨g, b, none⟩ x)).drew g (swapC cs a b x y) T := by
  unfold swapC; exact (h.set a y).set b x
theorem Lb.at {w : World} {g : Nat} {cs : Array Value} {T : TypeId} (h : Lb w g cs T) {a : Nat} {x : Value} (ha : cs[a]? = some x) : w.cell? ⟨g, a, none⟩ = some x := by rw [h.use.1]; exact ha
/-- What a swap's region asks of the world. -/
theorem Lb.swap_asks {w : World} {g : Nat} {cs : Array Value} {T : TypeId} (h : Lb w g cs T) {a b : Nat} {x y : Value} (ha : cs[a]? = some x) (hb : cs[b]? = some y) :
    w.cell? ⟨g, a, none⟩ = some x ∧ w.cell? ⟨g, b, none⟩ = some y ∧ w.frozen? ⟨g, a, none⟩ = false ∧ w.frozen? ⟨g, b, none⟩ = false :=
  ⟨h.at ha, h.at hb, h.use.2.1 _, h.use.2.1 _⟩
theorem swapC_at (cs : Array Value) (a b : Nat) (x y : Value) (ha : a < cs.size) (hb : b < cs.size) (hne : b ≠ a) : (swapC cs a b x y)[a]? = some y ∧ (swapC cs a b x y)[b]? = some x := by
  unfold swapC
  refine ⟨?_, ?_⟩
  · rw [Array.getElem?_setIfInBounds_ne (by omega), Array.getElem?_setIfInBounds]; simp [ha]
  · rw [Array.getElem?_setIfInBounds]; simp [hb]
theorem flip_cells (cs cs0 : Array Value) (n j p : Nat) (hp : p = 8 * j) (hj : j < n) (hs : cs.size = 8 * n) (hval : ∀ i, i < 8 * n → cs[i]? = if i < p then cs0[8 * (i / 8) + 7 - i % 8]? else cs0[i]?) (v0 v1 v2 v3 v4 v5 v6 v7 : Value)
    (h0 : cs0[p]? = some v0) (h1 : cs0[p + 1]? = some v1) (h2 : cs0[p + 2]? = some v2) (h3 : cs0[p + 3]? = some v3) (h4 : cs0[p + 4]? = some v4) (h5 : cs0[p + 5]? = some v5) (h6 : cs0[p + 6]? = some v6) (h7 : cs0[p + 7]? = some v7) :
    ∀ i, i < 8 * n → (swapC (swapC (swapC (swapC cs p (p + 7) v0 v7) (p + 1) (p + 6) v1 v6) (p + 2) (p + 5) v2 v5) (p + 3) (p + 4) v3 v4)[i]? = if i < p + 8 then cs0[8 * (i / 8) + 7 - i % 8]? else cs0[i]? := by
  intro i hi
  obtain ⟨a0, b0⟩ := swapC_at cs p (p + 7) v0 v7 (by omega) (by omega) (by omega)
  obtain ⟨a1, b1⟩ := swapC_at (swapC cs p (p + 7) v0 v7) (p + 1) (p + 6) v1 v6 (by rw [swapC_size]; omega) (by rw [swapC_size]; omega) (by omega)
  obtain ⟨a2, b2⟩ := swapC_at (swapC (swapC cs p (p + 7) v0 v7) (p + 1) (p + 6) v1 v6) (p + 2) (p + 5) v2 v5 (by rw [swapC_size, swapC_size]; omega) (by rw [swapC_size, swapC_size]; omega) (by omega)
  obtain ⟨a3, b3⟩ := swapC_at (swapC (swapC (swapC cs p (p + 7) v0 v7) (p + 1) (p + 6) v1 v6) (p + 2) (p + 5) v2 v5) (p + 3) (p + 4) v3 v4 (by rw [swapC_size, swapC_size, swapC_size]; omega) (by rw [swapC_size, swapC_size, swapC_size]; omega) (by omega)
  by_cases hlo : i < p
  · rw [swapC_other _ _ _ _ _ _ (by omega) (by omega), swapC_other _ _ _ _ _ _ (by omega) (by omega), swapC_other _ _ _ _ _ _ (by omega) (by omega), swapC_other _ _ _ _ _ _ (by omega) (by omega), hval i hi, if_pos hlo, if_pos (by omega)]
  by_cases hhi : p + 8 ≤ i
  · rw [swapC_other _ _ _ _ _ _ (by omega) (by omega), swapC_other _ _ _ _ _ _ (by omega) (by omega), swapC_other _ _ _ _ _ _ (by omega) (by omega), swapC_other _ _ _ _ _ _ (by omega) (by omega), hval i hi, if_neg hlo, if_neg (by omega)]
  rw [if_pos (by omega)]
  have hk : i = p ∨ i = p + 1 ∨ i = p + 2 ∨ i = p + 3 ∨ i = p + 4 ∨ i = p + 5 ∨ i = p + 6 ∨ i = p + 7 := by omega
  rcases hk with rfl | rfl | rfl | rfl | rfl | rfl | rfl | rfl
  · rw [swapC_other _ _ _ _ _ _ (by omega) (by omega), swapC_other _ _ _ _ _ _ (by omega) (by omega), swapC_other _ _ _ _ _ _ (by omega) (by omega), a0, show 8 * (i / 8) + 7 - i % 8 = i + 7 by omega, h7]
  · rw [swapC_other _ _ _ _ _ _ (by omega) (by omega), swapC_other _ _ _ _ _ _ (by omega) (by omega), a1, show 8 * ((p + 1) / 8) + 7 - (p + 1) % 8 = p + 6 by omega, h6]
  · rw [swapC_other _ _ _ _ _ _ (by omega) (by omega), a2, show 8 * ((p + 2) / 8) + 7 - (p + 2) % 8 = p + 5 by omega, h5]
  · rw [a3, show 8 * ((p + 3) / 8) + 7 - (p + 3) % 8 = p + 4 by omega, h4]
  · rw [b3, show 8 * ((p + 4) / 8) + 7 - (p + 4) % 8 = p + 3 by omega, h3]
  · rw [swapC_other _ _ _ _ _ _ (by omega) (by omega), b2, show 8 * ((p + 5) / 8) + 7 - (p + 5) % 8 = p + 2 by omega, h2]
  · rw [swapC_other _ _ _ _ _ _ (by omega) (by omega), swapC_other _ _ _ _ _ _ (by omega) (by omega), b1, show 8 * ((p + 6) / 8) + 7 - (p + 6) % 8 = p + 1 by omega, h1]
  · rw [swapC_other _ _ _ _ _ _ (by omega) (by omega), swapC_other _ _ _ _ _ _ (by omega) (by omega), swapC_other _ _ _ _ _ _ (by omega) (by omega), b0, show 8 * ((p + 7) / 8) + 7 - (p + 7) % 8 = p by omega, h0]
/-- What several ways come to is shown once. -/
theorem cut_key {X G : Prop} (h : X → G) (k : X) : G := h k
theorem grown_drew {w w' : World} {r : Option Nat} (h : w.grownBy w' r) : w.grownBy w'.drew r := ⟨h.os, h.tape, h.output, h.size, h.block⟩
theorem grown_set {w w' : World} {g : Nat} (h : w.grownBy w' (some g)) (o : Nat) (x : Value) : w.grownBy (w'.setCell ⟨g, o, none⟩ x) (some g) :=
  ⟨h.os, h.tape, h.output, by simpa [World.setCell] using h.size, fun k hk hne => (Below.heap_setCell w' _ _ k (fun e => hne (by rw [e]))).trans (h.block k hk hne)⟩
set_option maxHeartbeats 8000000 in
theorem c233 (g n : Nat) (cs0 : Array Value) (hcs0 : cs0.size = 8 * n) (hv0 : ∀ i, i < 8 * n → ∃ b : Int, cs0[i]? = some (.int .u8 b)) (hn : n ≤ 100000000) (w : World) (h : Lb w g cs0 5) :
    Calls Tryz.prog 233 #[.slice (some ⟨g, 0, none⟩) (8 * n) (8 * n)] w fun e w' => e = .returned (.tuple #[]) ∧ (∃ cs, Lb w' g cs 5 ∧ cs.size = 8 * n ∧ ∀ i, i < 8 * n → cs[i]? = cs0[8 * (i / 8) + 7 - i % 8]?) ∧ w.grownBy w' (some g) := by
  have HL := Lib.hid h
  have HV := Lib.hid hv0
  clear h hv0
  go_enter Tryz.func233, Tryz.ntmps233
  go_wp2_with fail
  go_loopw [2] (fun i wr => ∃ j : Nat, ∃ p : Nat, ∃ cs : Array Value, Hid (p = 8 * j) ∧ j ≤ n ∧ p ≤ 8 * n ∧ i = .int .i64 p ∧ Hid (Lb wr g cs 5) ∧ Hid (cs.size = 8 * n) ∧ Hid (∀ i, i < 8 * n → cs[i]? = if i < p then cs0[8 * (i / 8) + 7 - i % 8]? else cs0[i]?) ∧ Hid (w.grownBy wr (some g))) (fun i _ => 8 * n - (intOf i).toNat)
  case atStart => exact ⟨0, 0, cs0, Lib.hid rfl, Nat.zero_le _, Nat.zero_le _, rfl, HL, Lib.hid hcs0, Lib.hid (fun i _ => by rw [if_neg (by omega)]), Lib.hid ⟨rfl, rfl, rfl, Nat.le_refl _, fun _ _ _ => rfl⟩⟩
  case round =>
    obtain ⟨j, p, cs, hpj, hj, hpn, rfl, hL, hcs, hval, hg⟩ := hrel
    by_cases hlt : j < n
    · have hp8 : p + 8 ≤ 8 * n := by have := hpj.out; omega
      obtain ⟨v0, o0, q0⟩ : ∃ b : Int, Hid (cs0[p]? = some (.int .u8 b)) ∧ Hid (cs[p]? = some (.int .u8 b)) := by
        obtain ⟨b, hb⟩ := HV.out (p) (by omega)
        exact ⟨b, Lib.hid hb, Lib.hid (by rw [hval.out (p) (by omega), if_neg (by omega), hb])⟩
      obtain ⟨v1, o1, q1⟩ : ∃ b : Int, Hid (cs0[(p + 1)]? = some (.int .u8 b)) ∧ Hid (cs[(p + 1)]? = some (.int .u8 b)) := by
        obtain ⟨b, hb⟩ := HV.out ((p + 1)) (by omega)
        exact ⟨b, Lib.hid hb, Lib.hid (by rw [hval.out ((p + 1)) (by omega), if_neg (by omega), hb])⟩
      obtain ⟨v2, o2, q2⟩ : ∃ b : Int, Hid (cs0[(p + 2)]? = some (.int .u8 b)) ∧ Hid (cs[(p + 2)]? = some (.int .u8 b)) := by
        obtain ⟨b, hb⟩ := HV.out ((p + 2)) (by omega)
        exact ⟨b, Lib.hid hb, Lib.hid (by rw [hval.out ((p + 2)) (by omega), if_neg (by omega), hb])⟩
      obtain ⟨v3, o3, q3⟩ : ∃ b : Int, Hid (cs0[(p + 3)]? = some (.int .u8 b)) ∧ Hid (cs[(p + 3)]? = some (.int .u8 b)) := by
        obtain ⟨b, hb⟩ := HV.out ((p + 3)) (by omega)
        exact ⟨b, Lib.hid hb, Lib.hid (by rw [hval.out ((p + 3)) (by omega), if_neg (by omega), hb])⟩
      obtain ⟨v4, o4, q4⟩ : ∃ b : Int, Hid (cs0[(p + 4)]? = some (.int .u8 b)) ∧ Hid (cs[(p + 4)]? = some (.int .u8 b)) := by
        obtain ⟨b, hb⟩ := HV.out ((p + 4)) (by omega)
        exact ⟨b, Lib.hid hb, Lib.hid (by rw [hval.out ((p + 4)) (by omega), if_neg (by omega), hb])⟩
      obtain ⟨v5, o5, q5⟩ : ∃ b : Int, Hid (cs0[(p + 5)]? = some (.int .u8 b)) ∧ Hid (cs[(p + 5)]? = some (.int .u8 b)) := by
        obtain ⟨b, hb⟩ := HV.out ((p + 5)) (by omega)
        exact ⟨b, Lib.hid hb, Lib.hid (by rw [hval.out ((p + 5)) (by omega), if_neg (by omega), hb])⟩
      obtain ⟨v6, o6, q6⟩ : ∃ b : Int, Hid (cs0[(p + 6)]? = some (.int .u8 b)) ∧ Hid (cs[(p + 6)]? = some (.int .u8 b)) := by
        obtain ⟨b, hb⟩ := HV.out ((p + 6)) (by omega)
        exact ⟨b, Lib.hid hb, Lib.hid (by rw [hval.out ((p + 6)) (by omega), if_neg (by omega), hb])⟩
      obtain ⟨v7, o7, q7⟩ : ∃ b : Int, Hid (cs0[(p + 7)]? = some (.int .u8 b)) ∧ Hid (cs[(p + 7)]? = some (.int .u8 b)) := by
        obtain ⟨b, hb⟩ := HV.out ((p + 7)) (by omega)
        exact ⟨b, Lib.hid hb, Lib.hid (by rw [hval.out ((p + 7)) (by omega), if_neg (by omega), hb])⟩
      have hl0 : (p : Int) < 8 * (n : Int) := by omega
      have HL0 := hL
      have HG0 := hg
      go_wp2_with fail
      obtain ⟨ka0, kb0, fa0, fb0⟩ := HL0.out.swap_asks q0.out q7.out
      have HL1 := Lib.hid (HL0.out.swap p (p + 7) (.int .u8 v0) (.int .u8 v7))
      have HG1 := Lib.hid (grown_drew (grown_set (grown_set HG0.out p (.int .u8 v7)) (p + 7) (.int .u8 v0)))
      replace q1 := Lib.hid ((swapC_other _ p (p + 7) (p + 1) (.int .u8 v0) (.int .u8 v7) (by omega) (by omega)).trans q1.out)
      replace q2 := Lib.hid ((swapC_other _ p (p + 7) (p + 2) (.int .u8 v0) (.int .u8 v7) (by omega) (by omega)).trans q2.out)
      replace q3 := Lib.hid ((swapC_other _ p (p + 7) (p + 3) (.int .u8 v0) (.int .u8 v7) (by omega) (by omega)).trans q3.out)
      replace q4 := Lib.hid ((swapC_other _ p (p + 7) (p + 4) (.int .u8 v0) (.int .u8 v7) (by omega) (by omega)).trans q4.out)
      replace q5 := Lib.hid ((swapC_other _ p (p + 7) (p + 5) (.int .u8 v0) (.int .u8 v7) (by omega) (by omega)).trans q5.out)
      replace q6 := Lib.hid ((swapC_other _ p (p + 7) (p + 6) (.int .u8 v0) (.int .u8 v7) (by omega) (by omega)).trans q6.out)
      have hw0 : IntKind.i64.wrap (p : Int) = (p : Int) := IntWalk.i64_in _ (by omega)
      have hw7 : IntKind.i64.wrap ((p : Int) + 7) = (p : Int) + 7 := IntWalk.i64_in _ (by omega)
      have hz7 : (0 : Int) ≤ (p : Int) + 7 := by omega
      have hl7 : (p : Int) + 7 < 8 * (n : Int) := by omega
      have ht7 : ((p : Int) + 7).toNat = p + 7 := by omega
      apply cut_key
      · intro key
        go_region
        all_goals exact key
      clear ka0 kb0 fa0 fb0 hw0 hw7 hz7 hl7 ht7
      generalize ((wr.setCell ⟨g, p, none⟩ (.int .u8 v7)).setCell ⟨g, (p + 7), none⟩ (.int .u8 v0)).drew = W1 at *
      go_wp2_with fail
      obtain ⟨ka1, kb1, fa1, fb1⟩ := HL1.out.swap_asks q1.out q6.out
      have HL2 := Lib.hid (HL1.out.swap (p + 1) (p + 6) (.int .u8 v1) (.int .u8 v6))
      have HG2 := Lib.hid (grown_drew (grown_set (grown_set HG1.out (p + 1) (.int .u8 v6)) (p + 6) (.int .u8 v1)))
      replace q2 := Lib.hid ((swapC_other _ (p + 1) (p + 6) (p + 2) (.int .u8 v1) (.int .u8 v6) (by omega) (by omega)).trans q2.out)
      replace q3 := Lib.hid ((swapC_other _ (p + 1) (p + 6) (p + 3) (.int .u8 v1) (.int .u8 v6) (by omega) (by omega)).trans q3.out)
      replace q4 := Lib.hid ((swapC_other _ (p + 1) (p + 6) (p + 4) (.int .u8 v1) (.int .u8 v6) (by omega) (by omega)).trans q4.out)
      replace q5 := Lib.hid ((swapC_other _ (p + 1) (p + 6) (p + 5) (.int .u8 v1) (.int .u8 v6) (by omega) (by omega)).trans q5.out)
      have hw1 : IntKind.i64.wrap ((p : Int) + 1) = (p : Int) + 1 := IntWalk.i64_in _ (by omega)
      have hz1 : (0 : Int) ≤ (p : Int) + 1 := by omega
      have hl1 : (p : Int) + 1 < 8 * (n : Int) := by omega
      have ht1 : ((p : Int) + 1).toNat = p + 1 := by omega
      have hw6 : IntKind.i64.wrap ((p : Int) + 6) = (p : Int) + 6 := IntWalk.i64_in _ (by omega)
      have hz6 : (0 : Int) ≤ (p : Int) + 6 := by omega
      have hl6 : (p : Int) + 6 < 8 * (n : Int) := by omega
      have ht6 : ((p : Int) + 6).toNat = p + 6 := by omega
      apply cut_key
      · intro key
        go_region
        all_goals exact key
      clear ka1 kb1 fa1 fb1 hw1 hw6 hz1 hl1 ht1 hz6 hl6 ht6
      generalize ((W1.setCell ⟨g, (p + 1), none⟩ (.int .u8 v6)).setCell ⟨g, (p + 6), none⟩ (.int .u8 v1)).drew = W2 at *
      go_wp2_with fail
      obtain ⟨ka2, kb2, fa2, fb2⟩ := HL2.out.swap_asks q2.out q5.out
      have HL3 := Lib.hid (HL2.out.swap (p + 2) (p + 5) (.int .u8 v2) (.int .u8 v5))
      have HG3 := Lib.hid (grown_drew (grown_set (grown_set HG2.out (p + 2) (.int .u8 v5)) (p + 5) (.int .u8 v2)))
      replace q3 := Lib.hid ((swapC_other _ (p + 2) (p + 5) (p + 3) (.int .u8 v2) (.int .u8 v5) (by omega) (by omega)).trans q3.out)
      replace q4 := Lib.hid ((swapC_other _ (p + 2) (p + 5) (p + 4) (.int .u8 v2) (.int .u8 v5) (by omega) (by omega)).trans q4.out)
      have hw2 : IntKind.i64.wrap ((p : Int) + 2) = (p : Int) + 2 := IntWalk.i64_in _ (by omega)
      have hz2 : (0 : Int) ≤ (p : Int) + 2 := by omega
      have hl2 : (p : Int) + 2 < 8 * (n : Int) := by omega
      have ht2 : ((p : Int) + 2).toNat = p + 2 := by omega
      have hw5 : IntKind.i64.wrap ((p : Int) + 5) = (p : Int) + 5 := IntWalk.i64_in _ (by omega)
      have hz5 : (0 : Int) ≤ (p : Int) + 5 := by omega
      have hl5 : (p : Int) + 5 < 8 * (n : Int) := by omega
      have ht5 : ((p : Int) + 5).toNat = p + 5 := by omega
      apply cut_key
      · intro key
        go_region
        all_goals exact key
      clear ka2 kb2 fa2 fb2 hw2 hw5 hz2 hl2 ht2 hz5 hl5 ht5
      generalize ((W2.setCell ⟨g, (p + 2), none⟩ (.int .u8 v5)).setCell ⟨g, (p + 5), none⟩ (.int .u8 v2)).drew = W3 at *
      go_wp2_with fail
      obtain ⟨ka3, kb3, fa3, fb3⟩ := HL3.out.swap_asks q3.out q4.out
      have HL4 := Lib.hid (HL3.out.swap (p + 3) (p + 4) (.int .u8 v3) (.int .u8 v4))
      have HG4 := Lib.hid (grown_drew (grown_set (grown_set HG3.out (p + 3) (.int .u8 v4)) (p + 4) (.int .u8 v3)))
      have hw3 : IntKind.i64.wrap ((p : Int) + 3) = (p : Int) + 3 := IntWalk.i64_in _ (by omega)
      have hz3 : (0 : Int) ≤ (p : Int) + 3 := by omega
      have hl3 : (p : Int) + 3 < 8 * (n : Int) := by omega
      have ht3 : ((p : Int) + 3).toNat = p + 3 := by omega
      have hw4 : IntKind.i64.wrap ((p : Int) + 4) = (p : Int) + 4 := IntWalk.i64_in _ (by omega)
      have hz4 : (0 : Int) ≤ (p : Int) + 4 := by omega
      have hl4 : (p : Int) + 4 < 8 * (n : Int) := by omega
      have ht4 : ((p : Int) + 4).toNat = p + 4 := by omega
      apply cut_key
      · intro key
        go_region
        all_goals exact key
      clear ka3 kb3 fa3 fb3 hw3 hw4 hz3 hl3 ht3 hz4 hl4 ht4
      generalize ((W3.setCell ⟨g, (p + 3), none⟩ (.int .u8 v4)).setCell ⟨g, (p + 4), none⟩ (.int .u8 v3)).drew = W4 at *
      go_wp2_with fail
      have hw8 : IntKind.i64.wrap ((p : Int) + 8) = (p : Int) + 8 := IntWalk.i64_in _ (by omega)
      go_wp2_with fail
      go_roundw
      case rel =>
        refine ⟨j + 1, p + 8, _, Lib.hid (by have := hpj.out; omega), by omega, by omega, by go_num, HL4, Lib.hid (by rw [swapC_size, swapC_size, swapC_size, swapC_size]; exact hcs.out), Lib.hid ?_, HG4⟩
        exact flip_cells cs cs0 n j p hpj.out hlt hcs.out hval.out _ _ _ _ _ _ _ _ o0.out o1.out o2.out o3.out o4.out o5.out o6.out o7.out
      case measure => simp [intOf]; omega
    · obtain rfl : j = n := by omega
      have hpe : p = 8 * j := hpj.out
      have hdl : decide ((p : Int) < 8 * (j : Int)) = false := decide_eq_false (by omega)
      go_wp2_with fail
      go_end0
      exact ⟨rfl, ⟨cs, hL.out, hcs.out, fun i hi => by rw [hval.out i hi, if_pos (by omega)]⟩, hg.out⟩
end Go.Proofs.YtahnhhkbdgaidaaGreatDoor
