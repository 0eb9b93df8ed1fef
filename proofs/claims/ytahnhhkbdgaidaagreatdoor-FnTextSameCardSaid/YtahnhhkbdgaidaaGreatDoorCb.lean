/-
  Numbers in decimal: the digits, without the zeros behind them.
-/
import Derived.Test.YtahnhhkbdgaidaaGreatDoorCa
import Derived.Lib.ItoaLen
import Derived.Lib.ItoaMem
namespace Go.Proofs.YtahnhhkbdgaidaaGreatDoor
open Go.RowKit
set_option maxRecDepth 100000
def ndg (u : Nat) : Nat := if u = 0 then 0 else Lib.nDigits u
/-- The digits of a number; of zero none. -/
def digs (u : Nat) : List UInt8 := (List.range (ndg u)).map fun t => Lib.dg u (ndg u - 1 - t)
theorem digs_len (u : Nat) : (digs u).length = ndg u := by simp [digs]
theorem ndg_20 (u : Nat) (h : u < 18446744073709551616) : ndg u ≤ 20 := by
  unfold ndg; split
  · omega
  · exact Lib.nDigits_le20 u h
theorem ndg_pow (u : Nat) : u < 10 ^ ndg u := by
  unfold ndg; split
  · subst_vars; simp
  · exact Lib.lt_pow_nDigits u
theorem c349 (b : Bool) (w : World) : Calls Tryz.prog 349 #[.bool b] w fun e w' => e = .returned (.int .i64 (b2 b)) ∧ w = w' := by
  cases b
  all_goals
    go_enter Tryz.func349, Tryz.ntmps349
    go_wp2_with fail
    go_ret
    exact ⟨rfl, rfl⟩
theorem c317' (tab : Nat → Int) (u : Nat) (h : u < 18446744073709551616) (w : World) (hT : Tabs tab w) :
    Calls Tryz.prog 317 #[.int .u64 u] w fun e w' => e = .returned (.int .i64 (ndg u)) ∧ w' = w := by
  by_cases h0 : u = 0
  · subst h0
    have hc := (hT.pw).cell pow_named 0 (by decide)
    replace hc : w.cell? ⟨5, 0, none⟩ = some (.int .u64 1) := hc
    go_enter Tryz.func317, Tryz.ntmps317
    go_wp2_with fail
    refine (c314 0 w (by omega)).mono ?_
    rintro _ _ ⟨rfl, rfl⟩
    have hb : Lib.bitLen 0 = 0 := by decide
    rw [hb]
    go_wp2_with fail
    refine (c318 _ _ (by omega) (by omega)).mono ?_
    rintro _ _ ⟨rfl, rfl⟩
    go_wp2_with fail
    refine (c349 _ _).mono ?_
    rintro _ _ ⟨rfl, rfl⟩
    go_wp2_with fail
    go_ret
    exact ⟨by simp [ndg, b2, wrap64], rfl⟩
  · have := c317 u (by omega) h w hT.pw
    simpa [ndg, h0] using this
/-- How many digits stand ahead of the last zeros. -/
def trimZ (ds : List UInt8) : Nat → Nat
  | 0 => 0
  | n + 1 => if ds[n]! = 48 then trimZ ds n else n + 1
theorem trimZ_le (ds : List UInt8) : ∀ n, trimZ ds n ≤ n
  | 0 => by simp [trimZ]
  | n + 1 => by
    unfold trimZ
    have := trimZ_le ds n
    split <;> omega
/-- The first cells of a block are these bytes. -/
def Bts (w : World) (B : Nat) (ds : List UInt8) : Prop := (∀ j, j < ds.length → w.cell? ⟨B, j, none⟩ = some (.int .u8 (ds[j]!).toNat)) ∧ B < w.heap.size
theorem trimZ_zero (ds : List UInt8) (n : Nat) (h : ds[n]! = 48) : trimZ ds (n + 1) = trimZ ds n := by rw [trimZ, if_pos h]
theorem trimZ_stop (ds : List UInt8) (n : Nat) (h : ds[n]! ≠ 48) : trimZ ds (n + 1) = n + 1 := by rw [trimZ, if_neg h]
/-- Digits put into a block of the call's. -/
theorem put_digits (u n : Nat) (hn : ndg u = n) (h20 : n ≤ 20) (hp : u < 10 ^ n) (hu : u < 18446744073709551616) (B : Nat) (T : TypeId) (w : World) (hH : Lb w B (Array.replicate 32 (.int .u8 0)) T) :
    Calls Tryz.prog 348 #[.slice (some ⟨B, 0, none⟩) n 32, .int .u64 u] w fun e w' => e = .returned (.tuple #[]) ∧ Bts w' B (digs u) ∧ (∀ j, j < n → w'.frozen? ⟨B, j, none⟩ = false) ∧ w.grownBy w' (some B) := by
  obtain ⟨k, f, lt⟩ := hH.use
  have hold : Sort.Holds (fun (b : UInt8) => Value.int .u8 (b.toNat : Int)) w B 0 (Array.replicate n (0 : UInt8)) := fun j hj => by
    have hj' : j < n := by simpa using hj
    refine ⟨?_, f _⟩
    rw [k, Array.getElem?_replicate, if_pos (by omega), getElem!_pos _ j hj]
    simp
  have hs : (Array.replicate n (0 : UInt8)).size = n := Array.size_replicate
  have h := c348 B 0 32 u (Array.replicate n 0) w hold (by rw [hs]; exact hp) hu (by rw [hs]; omega)
  rw [hs] at h
  refine h.mono ?_
  rintro e w' ⟨rfl, m, v', dk, rfl, hI⟩
  have hz : dk.size = (Array.replicate n (0 : UInt8)).size := by rw [hs]; exact hI.size
  have hl := digs_len u
  refine ⟨rfl, ⟨fun j hj => ?_, by simpa using lt⟩, fun j hj => ?_, ⟨rfl, rfl, rfl, by simp, fun i hi hne => ?_⟩⟩
  · have hj' : j < n := by omega
    have := Sort.cell?_putRow (fun (b : UInt8) => Value.int .u8 (b.toNat : Int)) w B 0 _ dk hold hz j (by rw [hI.size]; exact hj')
    rw [Nat.zero_add] at this
    show (Sort.putRow (fun (b : UInt8) => Value.int .u8 (b.toNat : Int)) w B 0 dk).cell? ⟨B, j, none⟩ = _
    rw [this, hI.done j (Nat.zero_le _) hj', getElem!_pos _ j hj]
    simp [digs, hn]
  · show (Sort.putRow (fun (b : UInt8) => Value.int .u8 (b.toNat : Int)) w B 0 dk).frozen? ⟨B, j, none⟩ = false
    rw [Sort.frozen?_putRow]
    exact f j
  · have hne' : B ≠ i := fun e => hne (by rw [e])
    simp [Sort.putRow, Sort.mapBlock, Array.getElem?_modify, hne']
set_option maxHeartbeats 1000000 in
theorem c316 (u : Nat) (p : Int) (B : Nat) (w : World) (hu : u < 18446744073709551616) (p0 : -1000 ≤ p) (p1 : p ≤ 1000)
    (T : TypeId) (hH : Lb w B (Array.replicate 32 (.int .u8 0)) T) :
    Calls Tryz.prog 316 #[.slice (some ⟨B, 0, none⟩) 32 32, .int .u64 u, .int .i64 p, .int .i64 (ndg u)] w fun e w' =>
      e = .returned (.tuple #[.int .i64 (ndg u + p), .int .i64 (trimZ (digs u) (ndg u))]) ∧ Bts w' B (digs u) ∧ w.grownBy w' (some B) := by
  have hn := ndg_20 u hu
  have hp := ndg_pow u
  have hl := digs_len u
  generalize hnn : ndg u = n at *
  have H := Lib.hid (put_digits u n hnn hn hp hu B T w hH)
  generalize digs u = ds at *
  clear hH hp hnn
  go_enter Tryz.func316, Tryz.ntmps316
  go_wp2_with fail
  refine H.out.mono ?_
  rintro _ w1 ⟨rfl, hB, hf, hg⟩
  have hg := Lib.hid hg
  clear H
  go_wp2_with fail
  go_loopw [3] (fun v wr => ∃ k : Nat, k ≤ n ∧ v = .int .i64 k ∧ trimZ ds k = trimZ ds n ∧ wr = w1) (fun v _ => (intOf v).toNat)
  case atStart => exact ⟨n, Nat.le_refl _, rfl, rfl, rfl⟩
  case round =>
    obtain ⟨k, hk, rfl, htz, rfl⟩ := hrel
    rcases k with _ | k
    · go_wp2_with fail
      exact bodyPost_ret (v := .tuple #[.int .i64 (n + p), .int .i64 0]) (by simp [results, Tryz.results316, go_sem]) rfl ⟨by rw [← htz]; rfl, hB, hg.out⟩
    · have c := hB.1 k (by omega)
      have htk := trimZ_zero ds k
      have hts := trimZ_stop ds k
      generalize ds[k]! = x at *
      have e1 : ((k + 1 : Nat) : Int) - 1 = k := by omega
      have e2 : decide ((0 : Int) < ((k + 1 : Nat) : Int)) = true := by simp <;> omega
      by_cases hx : x = 48
      · have hxb : (((x.toNat : Nat) : Int) == 48) = true := by subst hx; rfl
        have htk := Lib.hid (htk hx)
        clear hts
        go_wp2_with fail
        go_roundw
        case rel => exact ⟨k, by omega, by go_num, by rw [← htk.out]; exact htz, by first | rfl | trivial⟩
        case measure => simp [intOf] <;> omega
      · have hxb : (((x.toNat : Nat) : Int) == 48) = false := by
          rw [beq_eq_false_iff_ne]
          intro h
          have h48 : x.toNat = (48 : UInt8).toNat := by have : (48 : UInt8).toNat = 48 := rfl
                                                        omega
          exact hx (UInt8.toNat_inj.1 h48)
        have hts := Lib.hid (hts hx)
        clear htk
        go_wp2_with fail
        exact bodyPost_ret (v := .tuple #[.int .i64 (n + p), .int .i64 ((k + 1 : Nat) : Int)]) (by simp [results, Tryz.results316, go_sem]) rfl ⟨by rw [← htz, hts.out], hB, hg.out⟩
end Go.Proofs.YtahnhhkbdgaidaaGreatDoor
