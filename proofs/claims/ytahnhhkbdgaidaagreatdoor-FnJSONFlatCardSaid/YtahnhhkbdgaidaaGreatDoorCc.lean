/-
  Bytes that a call appends: to the slice that it was handed, which the caller owns.
-/
import Derived.Test.YtahnhhkbdgaidaaGreatDoorCa
import Derived.Lib.ItoaLen
import Derived.Lib.ItoaMem
import Derived.Lib.AppendStr
import Derived.Maps.Range
namespace Go.Proofs.YtahnhhkbdgaidaaGreatDoor
open Go.RowKit
set_option maxRecDepth 100000
def ndg (u : Nat) : Nat := if u = 0 then 0 else Lib.nDigits u
/-- The digits of a number; of zero none. -/
def digs (u : Nat) : List UInt8 := (List.range (ndg u)).map fun t => Lib.dg u (ndg u - 1 - t)
theorem digs_len (u : Nat) : (digs u).length = ndg u := by simp [digs]
theorem ndg_20 (u : Nat) (h : u < 18446744073709551616) : ndg u ≤ 20 := by
  unfold ndg; split
  · omega
  · exact Lib.nDigits_le20 u h
theorem ndg_pow (u : Nat) : u < 10 ^ ndg u := by
  unfold ndg; split
  · subst_vars; simp
  · exact Lib.lt_pow_nDigits u
theorem c349 (b : Bool) (w : World) : Calls Tryz.prog 349 #[.bool b] w fun e w' => e = .returned (.int .i64 (b2 b)) ∧ w = w' := by
  cases b
  all_goals
    go_enter Tryz.func349, Tryz.ntmps349
    go_wp2_with fail
    go_ret
    exact ⟨rfl, rfl⟩
theorem c317' (tab : Nat → Int) (u : Nat) (h : u < 18446744073709551616) (w : World) (hT : Tabs tab w) :
    Calls Tryz.prog 317 #[.int .u64 u] w fun e w' => e = .returned (.int .i64 (ndg u)) ∧ w' = w := by
  by_cases h0 : u = 0
  · subst h0
    have hc := (hT.pw).cell pow_named 0 (by decide)
    replace hc : w.cell? ⟨5, 0, none⟩ = some (.int .u64 1) := hc
    go_enter Tryz.func317, Tryz.ntmps317
    go_wp2_with fail
    refine (c314 0 w (by omega)).mono ?_
    rintro _ _ ⟨rfl, rfl⟩
    have hb : Lib.bitLen 0 = 0 := by decide
    rw [hb]
    go_wp2_with fail
    refine (c318 _ _ (by omega) (by omega)).mono ?_
    rintro _ _ ⟨rfl, rfl⟩
    go_wp2_with fail
    refine (c349 _ _).mono ?_
    rintro _ _ ⟨rfl, rfl⟩
    go_wp2_with fail
    go_ret
    exact ⟨by simp [ndg, b2, wrap64], rfl⟩
  · have := c317 u (by omega) h w hT.pw
    simpa [ndg, h0] using this
/-- How many digits stand ahead of the last zeros. -/
def trimZ (ds : List UInt8) : Nat → Nat
  | 0 => 0
  | n + 1 => if ds[n]! = 48 then trimZ ds n else n + 1
theorem trimZ_le (ds : List UInt8) : ∀ n, trimZ ds n ≤ n
  | 0 => by simp [trimZ]
  | n + 1 => by
    unfold trimZ
    have := trimZ_le ds n
    split <;> omega
/-- The first cells of a block are these bytes. -/
def Bts (w : World) (B : Nat) (ds : List UInt8) : Prop := (∀ j, j < ds.length → w.cell? ⟨B, j, none⟩ = some (.int .u8 (ds[j]!).toNat)) ∧ B < w.heap.size
theorem trimZ_zero (ds : List UInt8) (n : Nat) (h : ds[n]! = 48) : trimZ ds (n + 1) = trimZ ds n := by rw [trimZ, if_pos h]
theorem trimZ_stop (ds : List UInt8) (n : Nat) (h : ds[n]! ≠ 48) : trimZ ds (n + 1) = n + 1 := by rw [trimZ, if_neg h]
/-- Digits put into a block of the call's. -/
theorem put_digits (u n : Nat) (hn : ndg u = n) (h20 : n ≤ 20) (hp : u < 10 ^ n) (hu : u < 18446744073709551616) (B : Nat) (T : TypeId) (w : World) (hH : Lb w B (Array.replicate 32 (.int .u8 0)) T) :
    Calls Tryz.prog 348 #[.slice (some ⟨B, 0, none⟩) n 32, .int .u64 u] w fun e w' => e = .returned (.tuple #[]) ∧ Bts w' B (digs u) ∧ (∀ j, j < n → w'.frozen? ⟨B, j, none⟩ = false) ∧ w.grownBy w' (some B) := by
  obtain ⟨k, f, lt⟩ := hH.use
  have hold : Sort.Holds (fun (b : UInt8) => Value.int .u8 (b.toNat : Int)) w B 0 (Array.replicate n (0 : UInt8)) := fun j hj => by
    have hj' : j < n := by simpa using hj
    refine ⟨?_, f _⟩
    rw [k, Array.getElem?_replicate, if_pos (by omega), getElem!_pos _ j hj]
    simp
  have hs : (Array.replicate n (0 : UInt8)).size = n := Array.size_replicate
  have h := c348 B 0 32 u (Array.replicate n 0) w hold (by rw [hs]; exact hp) hu (by rw [hs]; omega)
  rw [hs] at h
  refine h.mono ?_
  rintro e w' ⟨rfl, m, v', dk, rfl, hI⟩
  have hz : dk.size = (Array.replicate n (0 : UInt8)).size := by rw [hs]; exact hI.size
  have hl := digs_len u
  refine ⟨rfl, ⟨fun j hj => ?_, by simpa using lt⟩, fun j hj => ?_, ⟨rfl, rfl, rfl, by simp, fun i hi hne => ?_⟩⟩
  · have hj' : j < n := by omega
    have := Sort.cell?_putRow (fun (b : UInt8) => Value.int .u8 (b.toNat : Int)) w B 0 _ dk hold hz j (by rw [hI.size]; exact hj')
    rw [Nat.zero_add] at this
    show (Sort.putRow (fun (b : UInt8) => Value.int .u8 (b.toNat : Int)) w B 0 dk).cell? ⟨B, j, none⟩ = _
    rw [this, hI.done j (Nat.zero_le _) hj', getElem!_pos _ j hj]
    simp [digs, hn]
  · show (Sort.putRow (fun (b : UInt8) => Value.int .u8 (b.toNat : Int)) w B 0 dk).frozen? ⟨B, j, none⟩ = false
    rw [Sort.frozen?_putRow]
    exact f j
  · have hne' : B ≠ i := fun e => hne (by rw [e])
    simp [Sort.putRow, Sort.mapBlock, Array.getElem?_modify, hne']
set_option maxHeartbeats 1000000 in
theorem c316 (u : Nat) (p : Int) (B : Nat) (w : World) (hu : u < 18446744073709551616) (p0 : -1000 ≤ p) (p1 : p ≤ 1000)
    (T : TypeId) (hH : Lb w B (Array.replicate 32 (.int .u8 0)) T) :
    Calls Tryz.prog 316 #[.slice (some ⟨B, 0, none⟩) 32 32, .int .u64 u, .int .i64 p, .int .i64 (ndg u)] w fun e w' =>
      e = .returned (.tuple #[.int .i64 (ndg u + p), .int .i64 (trimZ (digs u) (ndg u))]) ∧ Bts w' B (digs u) ∧ w.grownBy w' (some B) := by
  have hn := ndg_20 u hu
  have hp := ndg_pow u
  have hl := digs_len u
  generalize hnn : ndg u = n at *
  have H := Lib.hid (put_digits u n hnn hn hp hu B T w hH)
  generalize digs u = ds at *
  clear hH hp hnn
  go_enter Tryz.func316, Tryz.ntmps316
  go_wp2_with fail
  refine H.out.mono ?_
  rintro _ w1 ⟨rfl, hB, hf, hg⟩
  have hg := Lib.hid hg
  clear H
  go_wp2_with fail
  go_loopw [3] (fun v wr => ∃ k : Nat, k ≤ n ∧ v = .int .i64 k ∧ trimZ ds k = trimZ ds n ∧ wr = w1) (fun v _ => (intOf v).toNat)
  case atStart => exact ⟨n, Nat.le_refl _, rfl, rfl, rfl⟩
  case round =>
    obtain ⟨k, hk, rfl, htz, rfl⟩ := hrel
    rcases k with _ | k
    · go_wp2_with fail
      exact bodyPost_ret (v := .tuple #[.int .i64 (n + p), .int .i64 0]) (by simp [results, Tryz.results316, go_sem]) rfl ⟨by rw [← htz]; rfl, hB, hg.out⟩
    · have c := hB.1 k (by omega)
      have htk := trimZ_zero ds k
      have hts := trimZ_stop ds k
      generalize ds[k]! = x at *
      have e1 : ((k + 1 : Nat) : Int) - 1 = k := by omega
      have e2 : decide ((0 : Int) < ((k + 1 : Nat) : Int)) = true := by simp <;> omega
      by_cases hx : x = 48
      · have hxb : (((x.toNat : Nat) : Int) == 48) = true := by subst hx; rfl
        have htk := Lib.hid (htk hx)
        clear hts
        go_wp2_with fail
        go_roundw
        case rel => exact ⟨k, by omega, by go_num, by rw [← htk.out]; exact htz, by first | rfl | trivial⟩
        case measure => simp [intOf] <;> omega
      · have hxb : (((x.toNat : Nat) : Int) == 48) = false := by
          rw [beq_eq_false_iff_ne]
          intro h
          have h48 : x.toNat = (48 : UInt8).toNat := by have : (48 : UInt8).toNat = 48 := rfl
                                                        omega
          exact hx (UInt8.toNat_inj.1 h48)
        have hts := Lib.hid (hts hx)
        clear htk
        go_wp2_with fail
        exact bodyPost_ret (v := .tuple #[.int .i64 (n + p), .int .i64 ((k + 1 : Nat) : Int)]) (by simp [results, Tryz.results316, go_sem]) rfl ⟨by rw [← htz, hts.out], hB, hg.out⟩
end Go.Proofs.YtahnhhkbdgaidaaGreatDoor
namespace Go.Proofs.YtahnhhkbdgaidaaGreatDoor
open Go.RowKit
def bcells (bs : List UInt8) : List Value := bs.map fun b => Value.int .u8 (b.toNat : Int)
theorem bcells_len (bs : List UInt8) : (bcells bs).length = bs.length := by simp [bcells]
/-- The slice owns these bytes, from block B on; since W only the row r was written, and the slice lies there or in a new block. -/
structure Bf (B : Nat) (W : World) (r : Option Nat) (v : Value) (bs : List UInt8) (w : World) : Prop where
  own : w.ownsRow B 5 1 v bs.length (bcells bs)
  kept : W.grownBy w r
  lies : ∀ j, v.ownBlock = some j → W.heap.size ≤ j ∨ r = some j
  hB : B ≤ W.heap.size
theorem grownBy_refl (w : World) (r : Option Nat) : w.grownBy w r := ⟨rfl, rfl, rfl, Nat.le_refl _, fun _ _ _ => rfl⟩
theorem Bf.here {B : Nat} {W w : World} {r : Option Nat} {v : Value} {bs : List UInt8} (h : Bf B W r v bs w) : Bf B w v.ownBlock v bs w := ⟨h.own, grownBy_refl _ _, fun _ hj => .inr hj, Nat.le_trans h.hB h.kept.size⟩
theorem Bf.new (w : World) : Bf w.heap.size w none (.slice none 0 0) [] w := ⟨World.ownsRow_nil w _ _ _, grownBy_refl _ _, fun j hj => by simp [Value.ownBlock] at hj, Nat.le_refl _⟩
theorem Bf.then {B : Nat} {W w w' : World} {r : Option Nat} {v v' : Value} {bs bs' : List UInt8} (h : Bf B W r v bs w) (h' : Bf B w v.ownBlock v' bs' w') : Bf B W r v' bs' w' :=
  ⟨h'.own, h.kept.andThen h'.kept h.lies, fun j hj => by
    rcases h'.lies j hj with k | k
    · exact .inl (Nat.le_trans h.kept.size k)
    · exact h.lies j k, h.hB⟩
theorem Bf.blk {B : Nat} {W w : World} {r : Option Nat} {v : Value} {bs : List UInt8} (h : Bf B W r v bs w) : ∀ j, v.ownBlock = some j → B ≤ j ∧ j < w.heap.size := fun j hj => by
  rcases h.own.2 with ⟨rfl, _⟩ | ⟨g, cap, cur, rfl, hg, hb, _⟩
  · simp [Value.ownBlock] at hj
  · simp [Value.ownBlock] at hj; subst hj; exact ⟨hg, (Array.getElem?_eq_some_iff.1 hb).1⟩
/-- Steps that write no block that is there. -/
theorem Bf.step {B : Nat} {W w w' : World} {r : Option Nat} {v : Value} {bs : List UInt8} (h : Bf B W r v bs w) (hb : Below w.heap.size w w') : Bf B W r v bs w' :=
  ⟨h.own.kept (row := none) ⟨hb.os, hb.tape, hb.output, hb.size, fun i hi _ => hb.block i hi⟩ (by
      rcases hv : v.ownBlock with _ | j
      · exact .inl rfl
      · exact .inr (by simp)), h.kept.andThen (row' := none) ⟨hb.os, hb.tape, hb.output, hb.size, fun i hi _ => hb.block i hi⟩ (fun j hj => by cases hj), h.lies, h.hB⟩
theorem Bf.alloc {B : Nat} {W w : World} {r : Option Nat} {v : Value} {bs : List UInt8} (h : Bf B W r v bs w) (o : Obj) : Bf B W r v bs (w.alloc o) := h.step (bl_a1 w o)
theorem Bf.drewN {B : Nat} {W w : World} {r : Option Nat} {v : Value} {bs : List UInt8} (h : Bf B W r v bs w) (n : Nat) : Bf B W r v bs (w.drewN n) := h.step (bl_drewN (Below.refl _ _) n)
theorem Bf.shape {B : Nat} {W w : World} {r : Option Nat} {v : Value} {bs : List UInt8} (h : Bf B W r v bs w) : ∃ a c, v = .slice a bs.length c := by
  rcases h.own.2 with ⟨rfl, h0⟩ | ⟨g, cap, cur, rfl, _⟩
  · exact ⟨none, 0, by rw [h0]⟩
  · exact ⟨_, _, rfl⟩
theorem Bf.lb {B : Nat} {W w : World} {r : Option Nat} {v : Value} {bs : List UInt8} (h : Bf B W r v bs w) {L : Nat} {cs : Array Value} {T : TypeId} (hL : Lb W L cs T) (hne : some L ≠ r) : Lb w L cs T := hL.grown h.kept hne
theorem Bf.rd {B : Nat} {W w : World} {r : Option Nat} {v : Value} {bs : List UInt8} (h : Bf B W r v bs w) {S : Nat → Prop} {f : F} {x : Value} (hr : Rd S W f x) (hne : ∀ b, S b → some b ≠ r) : Rd S w f x := hr.grown h.kept hne
theorem Bf.tabs {B : Nat} {W w : World} {r : Option Nat} {v : Value} {bs : List UInt8} (h : Bf B W r v bs w) {tab : Nat → Int} (ht : Tabs tab W) (hr : ∀ j, r = some j → 6 < j) : Tabs tab w := by
  refine ⟨fun i hi => ?_, ht.bd, ?_, Nat.lt_of_lt_of_le ht.lt h.kept.size⟩
  · rw [← ht.big i hi]
    exact World.cell?_of_block (h.kept.block 6 ht.lt (fun e => by have := hr 6 e.symm; omega))
  · have h5 := h.kept.block 5 (by have := ht.lt; omega) (fun e => by have := hr 5 e.symm; omega)
    have hp := ht.pw
    unfold Lib.TabIs World.var? at hp ⊢
    rw [pow_named] at hp ⊢
    simp only [Option.bind_some] at hp ⊢
    rw [h5]
    exact hp
theorem info5 : (Tryz.prog.info? 5).map (fun i => (i.zero, i.size, i.bytes)) = some (some (.int .u8 0), 1, 1) := by kernel_rfl
/-- One byte more. -/
theorem Bf.byte {B : Nat} {W w : World} {r : Option Nat} {v : Value} {bs : List UInt8} (h : Bf B W r v bs w) (c : UInt8) (hlen : bs.length + 1 ≤ 140737488355328) :
    ∃ v' w', (Builtin.append_ #[32, 32] 32 #[v, .slice (some ⟨w.heap.size, 0, none⟩) 1 1]).run Tryz.prog (w.alloc (.cells #[.int .u8 (c.toNat : Int)] 5)) = .ok v' w' ∧ Bf B W r v' (bs ++ [c]) w' := by
  obtain ⟨i0, hi0, hz0, hz1, hz2⟩ := info_parts info5
  have h1 := h.here
  have h2 := h1.alloc (.cells #[.int .u8 (c.toNat : Int)] 5)
  obtain ⟨v', w', hrun, ho', hg, _, hat⟩ := run_append_own_at (P := Tryz.prog) (w.alloc (.cells #[.int .u8 (c.toNat : Int)] 5)) B 32 32 5 i0 (.int .u8 0) 1 1 Tryz.underlying32 hi0 hz0 hz1 hz2 rfl (by decide) v bs.length (bcells bs) h2.own
    ⟨w.heap.size, 0, none⟩ 1 1 [.int .u8 (c.toNat : Int)] rfl (fun j u hj => by
      rw [Addr.add_lit, World.cell?_alloc_at _ _ _ _ rfl]; simpa using hj) (by simp [Value.oneCell']) (by simp only [maxLen]; omega) (by omega) (Nat.le_trans h1.hB (by simp))
  refine ⟨v', w', hrun, h.then ⟨by simpa [bcells] using ho', h2.kept.andThen hg (fun j hj => h2.lies j hj), fun j hj => ?_, h1.hB⟩⟩
  rcases hat with e | e
  · exact .inr (e ▸ hj)
  · rw [e] at hj; simp at hj; exact .inl (by omega)
/-- A text more. -/
theorem Bf.text {B : Nat} {W w : World} {r : Option Nat} {v : Value} {bs : List UInt8} (h : Bf B W r v bs w) (s : ByteArray) (hlen : bs.length + s.size ≤ 140737488355328) :
    ∃ v' w', (Builtin.append_ #[32, 9] 32 #[v, .string s]).run Tryz.prog w = .ok v' w' ∧ Bf B W r v' (bs ++ s.data.toList) w' := by
  obtain ⟨i0, hi0, hz0, hz1, hz2⟩ := info_parts info5
  have h1 := h.here
  obtain ⟨v', w', hrun, ho', hg, hnil⟩ := Lib.run_append_own_string (P := Tryz.prog) w B 32 9 32 5 i0 Tryz.underlying32 Tryz.underlying9 hi0 hz0 hz1 hz2 v bs.length (bcells bs) h.own s (by simp only [maxLen]; omega) hlen (Nat.le_trans h1.hB (Nat.le_refl _))
  have hat : ∀ j, v'.ownBlock = some j → v.ownBlock = some j ∨ j = w.heap.size := by
    intro j hj
    rcases h.own.2 with ⟨rfl, h0⟩ | ⟨g, cap, cur, rfl, hbg, hgb, hnc, hcm, hcs, htake⟩
    · by_cases hm : s.size = 0
      · rw [hnil.2 ⟨rfl, hm⟩] at hj
        simp [Value.ownBlock] at hj
      · have hr := run_append_nil_string (P := Tryz.prog) w 32 9 32 5 i0 (.int .u8 0) Tryz.underlying32 Tryz.underlying9 hi0 hz0 s (by omega) (by omega) (by rw [hz2]; omega)
        rw [hrun] at hr
        simp only [Result.ok.injEq] at hr
        rw [hr.1] at hj
        simp [Value.ownBlock] at hj
        exact .inr hj.symm
    · have hcs' : cur.size = cap := by simpa using hcs
      by_cases hroom : bs.length + s.size ≤ cap
      · have hr := Lib.run_append_room_string (P := Tryz.prog) w 32 9 32 5 i0 Tryz.underlying32 Tryz.underlying9 hi0 hz1 g bs.length cap cur hgb s hroom (by omega)
        rw [hrun] at hr
        simp only [Result.ok.injEq] at hr
        rw [hr.1] at hj
        exact .inl (by simpa [Value.ownBlock] using hj)
      · have holds := h.own.cells (g := g) rfl
        have hr := Lib.run_append_grow_string (P := Tryz.prog) w 32 9 32 5 i0 (.int .u8 0) Tryz.underlying32 Tryz.underlying9 hi0 hz0 ⟨g, 0, none⟩ bs.length cap (bcells bs) (by rw [hz1]; simp [bcells]) holds s (by omega) (by omega) (by rw [hz2]; exact growslice_fits (by omega) (by omega))
        rw [hrun] at hr
        simp only [Result.ok.injEq] at hr
        rw [hr.1] at hj
        simp [Value.ownBlock] at hj
        exact .inr hj.symm
  refine ⟨v', w', hrun, h.then ⟨?_, hg, fun j hj => ?_, h1.hB⟩⟩
  · have e : bcells (bs ++ s.data.toList) = bcells bs ++ Lib.strCells s := by simp [bcells, Lib.strCells]
    have e2 : (bs ++ s.data.toList).length = bs.length + s.size := by
      rw [List.length_append, Array.length_toList]
      rfl
    rw [e, e2]
    exact ho'
  · rcases hat j hj with k | k
    · exact .inr k
    · exact .inl (by omega)
end Go.Proofs.YtahnhhkbdgaidaaGreatDoor
