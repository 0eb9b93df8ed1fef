/-
  The reference's reader of binary forms: its bytes, its numbers.
-/
import Derived.Lib.EndianMore
import Derived.Lib.ValidLaws
import Derived.Test.YtahnhhkbdgaidaaGreatDoorKad
namespace Go.Proofs.YtahnhhkbdgaidaaGreatDoor
open Go.RowKit
set_option maxRecDepth 100000
/-- The number that bytes spell, the greatest first if big, else the least. -/
def decB (big : Bool) (l : List UInt8) : Nat := if big then Lib.beNat l else Lib.leNat l
theorem decB_nil (big : Bool) : decB big [] = 0 := by unfold decB; split <;> rfl
theorem decB_lt (big : Bool) (l : List UInt8) : decB big l < 256 ^ l.length := by
  unfold decB; split
  · rw [Lib.beNat_eq]; have := Lib.leNat_lt l.reverse; rwa [List.length_reverse] at this
  · exact Lib.leNat_lt l
theorem decB_big (l : List UInt8) (b : UInt8) : decB true (l ++ [b]) = decB true l * 256 + b.toNat := by
  unfold decB
  simp only [if_true]
  rw [Lib.beNat_eq, Lib.beNat_eq, List.reverse_append, List.reverse_singleton, List.singleton_append, Lib.leNat]; omega
theorem decB_little (l : List UInt8) (b : UInt8) : decB false (l ++ [b]) = decB false l + 256 ^ l.length * b.toNat := by
  unfold decB
  simp only [Bool.false_eq_true, if_false]
  rw [Lib.leNat_append]
  simp [Lib.leNat]
theorem or_add (x b k : Nat) (hx : x < 2 ^ k) : x ||| (b * 2 ^ k) = x + b * 2 ^ k := by
  have := Nat.two_pow_add_eq_or_of_lt hx b
  rw [Nat.or_comm, Nat.mul_comm b]
  omega
theorem pow256 (k : Nat) : 256 ^ k = 2 ^ (8 * k) := by rw [show (256 : Nat) = 2 ^ 8 from rfl, ← Nat.pow_mul]
theorem step_little (l : List UInt8) (b : UInt8) (hl : l.length ≤ 7) : bits .or .u64 ((decB false l : Nat) : Int) (IntKind.u64.wrap (IntKind.u64.wrap (b.toNat : Int) * 2 ^ (8 * l.length))) = ((decB false (l ++ [b]) : Nat) : Int) := by
  have hb := b.toNat_lt
  have h1 := decB_lt false l
  rw [decB_little]
  rw [pow256] at h1 ⊢
  generalize decB false l = x at *
  generalize b.toNat = y at *
  have hp : 2 ^ (8 * l.length) ≤ 2 ^ 56 := Nat.pow_le_pow_right (by omega) (by omega)
  have hor := or_add x y (8 * l.length) h1
  have hm : y * 2 ^ (8 * l.length) < 2 ^ 64 := by
    have := Nat.mul_le_mul (show y ≤ 255 by omega) hp
    omega
  have hc : (2 : Int) ^ (8 * l.length) = ((2 ^ (8 * l.length) : Nat) : Int) := by simp
  rw [hc]
  generalize 2 ^ (8 * l.length) = p at *
  have e1 : IntKind.u64.wrap (y : Int) = (y : Int) := by simp [IntKind.wrap, IntKind.bits, IntKind.signed]; omega
  have e2 : IntKind.u64.wrap ((y : Int) * (p : Int)) = ((y * p : Nat) : Int) := by
    rw [← Int.natCast_mul]
    simp only [IntKind.wrap, IntKind.bits, IntKind.signed]
    simp; omega
  rw [e1, e2, u64_or_nat _ _ (by omega) (by omega), hor, Nat.mul_comm]
theorem step_big (l : List UInt8) (b : UInt8) (hl : l.length ≤ 7) : bits .or .u64 (IntKind.u64.wrap (((decB true l : Nat) : Int) * 256)) (IntKind.u64.wrap (b.toNat : Int)) = ((decB true (l ++ [b]) : Nat) : Int) := by
  have hb := b.toNat_lt
  have h1 := decB_lt true l
  rw [decB_big]
  have hp : 256 ^ l.length ≤ 2 ^ 56 := by rw [pow256]; exact Nat.pow_le_pow_right (by omega) (by omega)
  generalize decB true l = x at *
  generalize b.toNat = y at *
  have hor := or_add y x 8 (by omega)
  have e1 : IntKind.u64.wrap (y : Int) = (y : Int) := by simp [IntKind.wrap, IntKind.bits, IntKind.signed]; omega
  have e2 : IntKind.u64.wrap ((x : Int) * 256) = ((x * 256 : Nat) : Int) := by
    simp only [IntKind.wrap, IntKind.bits, IntKind.signed]
    simp; omega
  rw [e1, e2, u64_or_nat _ _ (by omega) (by omega), Nat.or_comm, hor, Nat.add_comm]
/-- The reference's reader: its block holds the bytes that are left and its marks; the bytes lie below block B. -/
def St (P B : Nat) (any bad great : Bool) (l : List UInt8) (w : World) : Prop := ∃ a c, Lb w P #[.slice a l.length c, .bool any, .bool bad, .bool great] 91 ∧ l.length ≤ c ∧ l.length ≤ 1000000 ∧ B ≤ w.heap.size ∧
  ∀ j (h : j < l.length), ∃ b off, a = some ⟨b, off, none⟩ ∧ b ≠ P ∧ b < B ∧ w.cell? ⟨b, off + j, none⟩ = some (.int .u8 ((l[j]).toNat : Int))
theorem St.lt {P B : Nat} {any bad great : Bool} {l : List UInt8} {w : World} (h : St P B any bad great l w) : P < w.heap.size := by
  obtain ⟨a, c, hL, _⟩ := h; exact hL.use.2.2
theorem St.grown {P B : Nat} {any bad great : Bool} {l : List UInt8} {w w' : World} (h : St P B any bad great l w) {r : Option Nat} (hg : w.grownBy w' r) (h1 : some P ≠ r) (h2 : ∀ q, r = some q → B ≤ q) : St P B any bad great l w' := by
  obtain ⟨a, c, hL, hc, hm, hB, hj⟩ := h
  refine ⟨a, c, hL.grown hg h1, hc, hm, Nat.le_trans hB hg.size, fun j hlt => ?_⟩
  obtain ⟨b, off, ea, hbP, hbB, hcell⟩ := hj j hlt
  exact ⟨b, off, ea, hbP, hbB, by rw [World.cell?_of_block (hg.block b (by omega) (fun e => by have := h2 b e.symm; omega))]; exact hcell⟩
theorem St.blw {P B : Nat} {any bad great : Bool} {l : List UInt8} {w w' : World} (h : St P B any bad great l w) (hb : Below w.heap.size w w') : St P B any bad great l w' :=
  h.grown (r := none) ⟨hb.os, hb.tape, hb.output, hb.size, fun k hk _ => hb.block k hk⟩ (by simp) (by simp)
theorem grownP (w : World) (P o : Nat) (x : Value) : w.grownBy (w.setCell ⟨P, o, none⟩ x) (some P) := ⟨rfl, rfl, rfl, by simp [World.setCell], fun k _ hk => Below.heap_setCell w _ _ k (fun e => hk (by rw [e]))⟩
theorem St.mark {P B : Nat} {any bad great : Bool} {l : List UInt8} {w : World} (h : St P B any bad great l w) : St P B any true great l (w.setCell ⟨P, 2, none⟩ (.bool true)) := by
  obtain ⟨a, c, hL, hc, hm, hB, hj⟩ := h
  refine ⟨a, c, by simpa using hL.set 2 (.bool true), hc, hm, by simpa [World.setCell] using hB, fun j hlt => ?_⟩
  obtain ⟨b, off, ea, hbP, hbB, hcell⟩ := hj j hlt
  exact ⟨b, off, ea, hbP, hbB, by rw [World.cell?_of_block (Below.heap_setCell w _ _ b (by simpa using hbP))]; exact hcell⟩
theorem St.mark3 {P B : Nat} {any bad great : Bool} {l : List UInt8} {w : World} (h : St P B any bad great l w) : St P B any bad true l (w.setCell ⟨P, 3, none⟩ (.bool true)) := by
  obtain ⟨a, c, hL, hc, hm, hB, hj⟩ := h
  refine ⟨a, c, by simpa using hL.set 3 (.bool true), hc, hm, by simpa [World.setCell] using hB, fun j hlt => ?_⟩
  obtain ⟨b, off, ea, hbP, hbB, hcell⟩ := hj j hlt
  exact ⟨b, off, ea, hbP, hbB, by rw [World.cell?_of_block (Below.heap_setCell w _ _ b (by simpa using hbP))]; exact hcell⟩
/-- What is left behind the first bytes. -/
theorem St.rest {P B : Nat} {any bad great : Bool} {a r : List UInt8} {w : World} {k : Nat} (hk : a.length = k) (h0 : 0 < k) {b off c : Nat} (hL : Lb w P #[.slice (some ⟨b, off, none⟩) (k + r.length) c, .bool any, .bool bad, .bool great] 91) (hc : k + r.length ≤ c) (hm : k + r.length ≤ 1000000) (hB : B ≤ w.heap.size) (hbP : b ≠ P) (hbB : b < B)
    (hj : ∀ j (h : j < (a ++ r).length), w.cell? ⟨b, off + j, none⟩ = some (.int .u8 (((a ++ r)[j]).toNat : Int))) (ad : Addr) (c' : Nat) (had : (c = k ∧ ad = ⟨b, off, none⟩) ∨ (c ≠ k ∧ ad = ⟨b, off + k, none⟩)) (hc' : r.length ≤ c') :
    St P B any bad great r (w.setCell ⟨P, 0, none⟩ (.slice (some ad) r.length c')) := by
  refine ⟨some ad, c', by simpa using hL.set 0 (.slice (some ad) r.length c'), hc', by omega, by simpa [World.setCell] using hB, fun j hlt => ?_⟩
  have hcell : ∀ o, (w.setCell ⟨P, 0, none⟩ (.slice (some ad) r.length c')).cell? ⟨b, o, none⟩ = w.cell? ⟨b, o, none⟩ := fun o => World.cell?_of_block (Below.heap_setCell w _ _ b (by simpa using hbP))
  rcases had with ⟨e, rfl⟩ | ⟨e, rfl⟩
  · omega
  · refine ⟨b, off + k, rfl, hbP, hbB, ?_⟩
    rw [hcell, Nat.add_assoc, hj (k + j) (by rw [List.length_append]; omega)]
    subst hk
    simp
/-- What a step of the reader answers. -/
def Rtook (P B : Nat) (any bad great : Bool) (x : Value) (r : List UInt8) (w : World) : Ending → World → Prop := fun e w' => e = .returned x ∧ St P B any bad great r w' ∧ w.grownBy w' (some P)
theorem c116_bad (P B : Nat) (n : Int) (big any great : Bool) (l : List UInt8) (w : World) (h : St P B any true great l w) :
    Calls Tryz.prog 116 #[.pointer (some ⟨P, 0, none⟩), .int .i64 n, .bool big] w (Rtook P B any true great (.int .u64 0) l w) := by
  have H := Lib.hid h.mark
  obtain ⟨a, c, hL, hc, hm, hB, hj⟩ := h
  obtain ⟨kP, fP, lP⟩ := hL.use
  clear hL hj
  go_enter Tryz.func116, Tryz.ntmps116
  go_wp2
  go_ret
  exact ⟨rfl, H.out, grownP w P 2 _⟩
theorem c116_short (P B : Nat) (n : Nat) (big any great : Bool) (l : List UInt8) (w : World) (hn : l.length < n) (h : St P B any false great l w) :
    Calls Tryz.prog 116 #[.pointer (some ⟨P, 0, none⟩), .int .i64 n, .bool big] w (Rtook P B any true great (.int .u64 0) l w) := by
  have H := Lib.hid h.mark
  obtain ⟨a, c, hL, hc, hm, hB, hj⟩ := h
  obtain ⟨kP, fP, lP⟩ := hL.use
  have ht : decide ((l.length : Int) < (n : Int)) = true := by simpa using hn
  clear hL hj
  go_enter Tryz.func116, Tryz.ntmps116
  go_wp2
  go_ret
  exact ⟨rfl, H.out, grownP w P 2 _⟩
set_option maxHeartbeats 2000000 in
theorem c116_ok (P B : Nat) (n : Nat) (big any great : Bool) (a r : List UInt8) (w : World) (hn : a.length = n) (h0 : 0 < n) (h8 : n ≤ 8) (h : St P B any false great (a ++ r) w) :
    Calls Tryz.prog 116 #[.pointer (some ⟨P, 0, none⟩), .int .i64 n, .bool big] w (Rtook P B any false great (.int .u64 (decB big a : Nat)) r w) := by
  obtain ⟨ad, c, hL, hc, hm, hB, hj⟩ := h
  have hlen : (a ++ r).length = n + r.length := by rw [List.length_append, hn]
  obtain ⟨b, off, rfl, hbP, hbB, _⟩ := hj 0 (by omega)
  have hcell : ∀ j (h : j < n), w.cell? ⟨b, off + j, none⟩ = some (.int .u8 ((a[j]'(by omega)).toNat : Int)) := fun j hj' => by
    obtain ⟨b2, off2, e2, _, _, hc2⟩ := hj j (by omega)
    obtain ⟨rfl, rfl⟩ : b = b2 ∧ off = off2 := by simpa using e2
    rw [List.getElem_append_left (by omega)] at hc2
    exact hc2
  rw [hlen] at hL hc hm
  have ht : decide (((n + r.length : Nat) : Int) < (n : Int)) = false := by simp; omega
  obtain ⟨kP, fP, lP⟩ := hL.use
  have Hc := Lib.hid hcell
  have Hj := Lib.hid hj
  have HL := Lib.hid hL
  clear hj hL hcell
  go_enter Tryz.func116, Tryz.ntmps116
  go_wp2_with fail
  go_loopw [7, 26] (fun x i wr => ∃ j : Nat, j ≤ n ∧ i = .int .i64 j ∧ x = .int .u64 (decB big (a.take j) : Nat) ∧ wr = w) (fun _ i _ => n - (intOf i).toNat)
  case atStart => exact ⟨0, Nat.zero_le _, rfl, by simp [decB_nil], rfl⟩
  case round =>
    obtain ⟨j, hjn, rfl, rfl, rfl⟩ := hrel
    by_cases hlt : j < n
    · have hcj := Hc.out j hlt
      have hlt2 : (j : Int) < (n : Int) + (r.length : Int) := by omega
      have Htk := Lib.hid (List.take_succ_eq_append_getElem (l := a) (i := j) (by omega))
      have Htl : Hid ((a.take j).length = j) := Lib.hid (by simp; omega)
      cases big
      · go_wp2_with fail
        refine ⟨⟨j + 1, by omega, by go_num, ?_, trivial⟩, by simp [intOf]; omega⟩
        have e := step_little (a.take j) (a[j]'(by omega)) (by rw [Htl.out]; omega)
        rw [Htl.out] at e
        rw [e, Htk.out]
      · go_wp2_with fail
        refine ⟨⟨j + 1, by omega, by go_num, ?_, trivial⟩, by simp [intOf]; omega⟩
        have e := step_big (a.take j) (a[j]'(by omega)) (by rw [Htl.out]; omega)
        rw [e, Htk.out]
    · obtain rfl : j = n := by omega
      rw [show a.take j = a from List.take_of_length_le (by omega)]
      have HR := fun (ad : Addr) (c' : Nat) => St.rest (P := P) (B := B) (any := any) (bad := false) (great := great) (a := a) (r := r) (w := wr) (k := j) hn h0 HL.out hc (by omega) hB hbP hbB (fun i hi => by
        obtain ⟨b2, off2, e2, _, _, hc2⟩ := Hj.out i hi
        obtain ⟨rfl, rfl⟩ : b = b2 ∧ off = off2 := by simpa using e2
        exact hc2) ad c'
      replace HR := Lib.hid HR
      go_wp2_with fail
      · go_ret
        have hce : c = j := by assumption
        exact ⟨rfl, HR.out ⟨b, off, none⟩ 0 (.inl ⟨hce, rfl⟩) (by omega), grownP _ P 0 _⟩
      · go_ret
        have hce : ¬ c = j := by assumption
        exact ⟨rfl, HR.out ⟨b, off + j, none⟩ (c - j) (.inr ⟨hce, rfl⟩) (by omega), grownP _ P 0 _⟩
/-- A count: the reader's state behind it. -/
theorem c116 (P B : Nat) (n : Nat) (big any bad great : Bool) (l : List UInt8) (w : World) (h0 : 0 < n) (h8 : n ≤ 8) (h : St P B any bad great l w) :
    Calls Tryz.prog 116 #[.pointer (some ⟨P, 0, none⟩), .int .i64 n, .bool big] w fun e w' => ∃ (v : Nat) (bad' : Bool) (r : List UInt8), Rtook P B any bad' great (.int .u64 v) r w e w' ∧
      ((bad' = true ∧ v = 0 ∧ r = l ∧ (bad = true ∨ l.length < n)) ∨ (bad' = false ∧ bad = false ∧ ∃ a, l = a ++ r ∧ a.length = n ∧ v = decB big a)) := by
  cases bad
  · rcases Nat.lt_or_ge l.length n with hl | hl
    · exact (c116_short P B n big any great l w hl h).mono fun e w' h => ⟨0, true, l, h, .inl ⟨rfl, rfl, rfl, .inr hl⟩⟩
    · have e : l = l.take n ++ l.drop n := (List.take_append_drop n l).symm
      have ha : (l.take n).length = n := by rw [List.length_take]; omega
      rw [e] at h
      exact (c116_ok P B n big any great (l.take n) (l.drop n) w ha h0 h8 h).mono fun e' w' h => ⟨_, false, _, h, .inr ⟨rfl, rfl, _, e, ha, rfl⟩⟩
  · exact (c116_bad P B n big any great l w h).mono fun e w' h => ⟨0, true, l, h, .inl ⟨rfl, rfl, rfl, .inl rfl⟩⟩
theorem c118 (P B : Nat) (big any bad great : Bool) (l : List UInt8) (w : World) (h : St P B any bad great l w) :
    Calls Tryz.prog 118 #[.pointer (some ⟨P, 0, none⟩), .bool big] w fun e w' => ∃ (v : Nat) (bad' great' : Bool) (r : List UInt8), Rtook P B any bad' great' (.int .i64 v) r w e w' ∧ v ≤ 4096 ∧ r.length ≤ l.length ∧
      ((bad' = true ∧ v = 0) ∨ (bad' = false ∧ bad = false ∧ ∃ a, l = a ++ r ∧ a.length = 4 ∧ v = decB big a)) := by
  have H := Lib.hid (c116 P B 4 big any bad great l w (by omega) (by omega) h)
  clear h
  go_enter Tryz.func118, Tryz.ntmps118
  go_wp2_with fail
  refine H.out.mono ?_
  rintro _ w1 ⟨v, bad', r, ⟨rfl, hs, hg⟩, hc⟩
  have hrl : r.length ≤ l.length := by
    rcases hc with ⟨_, _, rfl, _⟩ | ⟨_, _, a, rfl, _⟩
    · exact Nat.le_refl _
    · simp
  by_cases hv : 4096 < v
  · have hb1 : decide ((4096 : Int) < (v : Int)) = true := decide_eq_true (by omega)
    have HM := Lib.hid hs.mark.mark3
    have HG := Lib.hid hg
    obtain ⟨a, c, hL, _⟩ := hs
    obtain ⟨kP, fP, lP⟩ := hL.use
    clear hL hc hg
    go_wp2_with fail
    go_ret
    refine ⟨0, true, true, r, ⟨rfl, HM.out, ?_⟩, by omega, hrl, .inl ⟨rfl, rfl⟩⟩
    exact ⟨HG.out.os, HG.out.tape, HG.out.output, by simpa [World.setCell] using HG.out.size, fun k hk hne => by
      rw [(grownP _ P 3 _).block k (by have := HG.out.size; simp [World.setCell]; omega) hne, (grownP _ P 2 _).block k (by have := HG.out.size; omega) hne]; exact HG.out.block k hk hne⟩
  · have hb1 : decide ((4096 : Int) < (v : Int)) = false := decide_eq_false (by omega)
    have HS := Lib.hid hs
    have HG := Lib.hid hg
    have hcv : IntKind.i64.wrap (v : Int) = (v : Int) := IntWalk.i64_in _ (by omega)
    have HC := Lib.hid hc
    clear hs hg hc
    go_wp2_with fail
    go_ret
    refine ⟨v, bad', great, r, ⟨rfl, HS.out, HG.out⟩, by omega, hrl, ?_⟩
    rcases HC.out with ⟨h1, h2, _⟩ | ⟨h1, h2, h3⟩
    · exact .inl ⟨h1, h2⟩
    · exact .inr ⟨h1, h2, h3⟩
end Go.Proofs.YtahnhhkbdgaidaaGreatDoor
