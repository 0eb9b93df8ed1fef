/-
  The reference's reader of binary forms: rows of numbers.
-/
import Derived.Test.YtahnhhkbdgaidaaGreatDoorKao
import Derived.Test.YtahnhhkbdgaidaaGreatDoorHd
namespace Go.Proofs.YtahnhhkbdgaidaaGreatDoor
open Go.RowKit
set_option maxRecDepth 100000
/-- Numbers of eight bytes each. -/
def N8 (big : Bool) (xs : List Nat) (l : List UInt8) : Prop := l.length = 8 * xs.length ∧ ∀ i (h : i < xs.length), decB big ((l.drop (8 * i)).take 8) = xs[i]
theorem N8.nil (big : Bool) : N8 big [] [] := ⟨rfl, fun i h => by simp at h⟩
theorem N8.snoc {big : Bool} {xs : List Nat} {l a : List UInt8} (h : N8 big xs l) (ha : a.length = 8) : N8 big (xs ++ [decB big a]) (l ++ a) := by
  obtain ⟨h1, h2⟩ := h
  refine ⟨by simp [h1, ha]; omega, fun i hi => ?_⟩
  by_cases hlt : i < xs.length
  · rw [List.getElem_append_left hlt, ← h2 i hlt, List.drop_append_of_le_length (by omega), List.take_append_of_le_length (by rw [List.length_drop]; omega)]
  · have he : i = xs.length := by simp at hi; omega
    subst he
    rw [List.getElem_append_right (Nat.le_refl _), ← h1, List.drop_left]
    simp [List.take_of_length_le (Nat.le_of_eq ha)]
theorem Fl.grownP {B0 P : Nat} {w w' : World} {v : Value} {xs : List Nat} (h : Fl B0 w v xs) (hg : w.grownBy w' (some P)) (hP : P < B0) : Fl B0 w' v xs :=
  ⟨h.own.kept hg (by
    cases hv : v.ownBlock with
    | none => exact .inl rfl
    | some k => exact .inr fun e => by have := (h.lt k hv).1; have := Option.some.inj e; omega)⟩
theorem grown_more {w w1 w2 : World} {P : Nat} {r : Option Nat} (h : w.grownBy w1 (some P)) (h2 : w1.grownBy w2 r) (hr : ∀ q, r = some q → q = P ∨ w.heap.size ≤ q) : w.grownBy w2 (some P) :=
  ⟨h2.os.trans h.os, h2.tape.trans h.tape, h2.output.trans h.output, Nat.le_trans h.size h2.size, fun k hk hne => by
    rw [h2.block k (Nat.lt_of_lt_of_le hk h.size) (fun e => by rcases hr k e.symm with e | e
                                                               · exact hne (by rw [e])
                                                               · omega)]
    exact h.block k hk hne⟩
/-- What is read of a row of numbers. -/
def NumsR (P B : Nat) (any bad great big : Bool) (n : Nat) (l : List UInt8) (w : World) : Ending → World → Prop := fun e w' => ∃ (xs : List Nat) (r : List UInt8) (bad' : Bool) (v : Value), e = .returned v ∧ Fl w.heap.size w' v xs ∧ St P B any bad' great r w' ∧ w.grownBy w' (some P) ∧
  (∀ x ∈ xs, x < 18446744073709551616) ∧ r.length ≤ l.length ∧ 8 * xs.length + r.length ≤ l.length + 8 ∧ xs.length ≤ n ∧ (bad = true → bad' = true ∧ xs = []) ∧ (bad' = false → bad = false ∧ xs.length = n ∧ ∃ a, l = a ++ r ∧ N8 big xs a)
theorem nums_end {P B : Nat} {any bad great big : Bool} {n : Nat} {l : List UInt8} {w wr : World} {j : Nat} {xs : List Nat} {r : List UInt8} {bad' : Bool} {v : Value} (hjn : j ≤ n) (hxl : xs.length = j) (hF : Fl w.heap.size wr v xs) (hS : St P B any bad' great r wr) (hG : w.grownBy wr (some P))
    (hI : (∀ x ∈ xs, x < 18446744073709551616) ∧ r.length ≤ l.length ∧ 8 * xs.length + r.length ≤ l.length + 8 ∧ (bad = true → bad' = true ∧ xs = []) ∧ (bad' = false → bad = false ∧ ∃ a, l = a ++ r ∧ N8 big xs a)) (he : bad' = true ∨ n ≤ j) :
    NumsR P B any bad great big n l w (.returned v) wr := by
  obtain ⟨i1, i2, i3, i4, i5⟩ := hI
  refine ⟨xs, r, bad', v, rfl, hF, hS, hG, i1, i2, i3, by omega, i4, fun h => ⟨(i5 h).1, ?_, (i5 h).2⟩⟩
  rcases he with he | he
  · rw [h] at he; cases he
  · omega
set_option maxHeartbeats 2000000 in
theorem c117 (P B n : Nat) (big any bad great : Bool) (l : List UInt8) (w : World) (hn : n ≤ 1000000) (h : St P B any bad great l w) :
    Calls Tryz.prog 117 #[.pointer (some ⟨P, 0, none⟩), .int .i64 n, .bool big] w (NumsR P B any bad great big n l w) := by
  have hP := h.lt
  have H := Lib.hid h
  have hB : Hid (B ≤ w.heap.size) := by obtain ⟨_, _, _, _, _, hB, _⟩ := h; exact Lib.hid hB
  have hx := fun n w => x123 n w
  clear h
  go_enter Tryz.func117, Tryz.ntmps117
  go_wp2_with fail
  go_loopw [7, 8] (fun ov i wr => ∃ (j : Nat) (xs : List Nat) (r : List UInt8) (bad' : Bool), j ≤ n ∧ i = .int .i64 j ∧ xs.length = j ∧ Hid (Fl w.heap.size wr ov xs) ∧ Hid (St P B any bad' great r wr) ∧ Hid (w.grownBy wr (some P)) ∧
    Hid ((∀ x ∈ xs, x < 18446744073709551616) ∧ r.length ≤ l.length ∧ 8 * xs.length + r.length ≤ l.length + 8 ∧ (bad = true → bad' = true ∧ xs = []) ∧ (bad' = false → bad = false ∧ ∃ a, l = a ++ r ∧ N8 big xs a))) (fun _ i _ => n - (intOf i).toNat)
  case atStart => exact ⟨0, [], l, bad, Nat.zero_le _, rfl, rfl, Lib.hid (Fl.nil _ _), H, Lib.hid ⟨rfl, rfl, rfl, Nat.le_refl _, fun _ _ _ => rfl⟩, Lib.hid ⟨by simp, Nat.le_refl _, by simp, fun h => ⟨h, rfl⟩, fun h => ⟨h, [], rfl, N8.nil big⟩⟩⟩
  case round =>
    obtain ⟨j, xs, r, bad', hjn, rfl, hxl, hF, hS, hG, hI⟩ := hrel
    obtain ⟨av, cv, rfl⟩ := hF.out.shape
    have kb : wr.cell? ⟨P, 2, none⟩ = some (.bool bad') := by
      obtain ⟨a, c, hL, _⟩ := hS.out
      rw [hL.use.1]; rfl
    by_cases hlt : j < n
    · cases bad'
      · have H116 := Lib.hid (c116 P B 8 big any false great r wr (by omega) (by omega) hS.out)
        go_wp2_with fail
        refine H116.out.mono ?_
        rintro _ w1 ⟨v, bad2, r2, ⟨rfl, hs, hg⟩, hc⟩
        obtain ⟨i1, i2, i3, i4, i5⟩ := hI.out
        obtain ⟨ib, a0, e0, hN⟩ := i5 (by trivial)
        have hl0 : 8 * xs.length + r.length = l.length := by rw [e0, List.length_append, hN.1]
        have hv : v < 18446744073709551616 := by
          rcases hc with ⟨_, rfl, _⟩ | ⟨_, _, a, _, ha, rfl⟩
          · omega
          · have := decB_lt big a; rw [ha] at this; omega
        have hI' : (∀ x ∈ xs ++ [v], x < 18446744073709551616) ∧ r2.length ≤ l.length ∧ 8 * (xs ++ [v]).length + r2.length ≤ l.length + 8 ∧ (bad = true → bad2 = true ∧ xs ++ [v] = []) ∧ (bad2 = false → bad = false ∧ ∃ a, l = a ++ r2 ∧ N8 big (xs ++ [v]) a) := by
          refine ⟨fun x hx => ?_, ?_, ?_, fun h => absurd ib (by simp [h]), fun h2 => ⟨ib, ?_⟩⟩
          · rcases List.mem_append.1 hx with hx | hx
            · exact i1 x hx
            · rw [List.mem_singleton.1 hx]; exact hv
          · rcases hc with ⟨_, _, rfl, _⟩ | ⟨_, _, a, rfl, _⟩
            · exact i2
            · rw [List.length_append] at i2; omega
          · rw [List.length_append]
            rcases hc with ⟨_, _, rfl, _⟩ | ⟨_, _, a, rfl, ha, _⟩
            · simp; omega
            · rw [List.length_append] at hl0; simp; omega
          · rcases hc with ⟨h3, _⟩ | ⟨_, _, a, rfl, ha, rfl⟩
            · rw [h2] at h3; cases h3
            · exact ⟨a0 ++ a, by rw [e0, List.append_assoc], hN.snoc ha⟩
        have hF1 := hF.out.grownP hg hP
        have hs1 : w.heap.size ≤ w1.heap.size := Nat.le_trans hG.out.size hg.size
        obtain ⟨v4, w4, hap, hF4, hg4, _⟩ := app_fl hF1 [v] 1 #[.float .f64 v] rfl rfl (by omega) (by omega) hs1
        obtain ⟨a4, c4, rfl⟩ := hF4.shape
        have e4 : (xs ++ [v]).length = j + 1 := by simp [hxl]
        rw [e4] at hF4 hap
        have hown : ∀ q, (Value.slice av xs.length cv).ownBlock = some q → w.heap.size ≤ q := fun q hq => (hF1.lt q hq).1
        have HS4 := Lib.hid (hs.grown hg4 (fun e => by have := hown _ e.symm; omega) (fun q hq => by have := hown q hq; have := hB.out; omega))
        have HG4 := Lib.hid (grown_more (grown_more hG.out hg (fun q hq => .inl (Option.some.inj hq).symm)) hg4 (fun q hq => .inr (hown q hq)))
        have HF4 := Lib.hid hF4; have Hap := Lib.hid hap; have HI := Lib.hid hI'
        clear hF4 hap hI' hg4 hF1 hs hg hc hN i1 i2 i3 i4 i5 e0 hown hl0 hF hS hG hI H116 H
        rw [hxl] at Hap
        go_wp2_with (at_builtin; refine wpList_append_eq rfl _ _ 22 rfl rfl rfl rfl Hap.out ?_)
        go_roundw
        case rel => exact ⟨j + 1, xs ++ [v], r2, bad2, by omega, by go_num, e4, HF4, HS4, HG4, HI⟩
        case measure => simp [intOf]; omega
      · have hE := Lib.hid (nums_end (B := B) (any := any) (great := great) (w := w) hjn hxl hF.out hS.out hG.out hI.out (.inl rfl))
        rw [hxl] at hE
        go_wp2_with fail
        go_ret
        exact hE.out
    · have hE := Lib.hid (nums_end (B := B) (any := any) (great := great) (w := w) hjn hxl hF.out hS.out hG.out hI.out (.inr (by omega)))
      have hdl : decide ((j : Int) < (n : Int)) = false := decide_eq_false (by omega)
      go_wp2_with fail
      go_ret
      exact hE.out
end Go.Proofs.YtahnhhkbdgaidaaGreatDoor
