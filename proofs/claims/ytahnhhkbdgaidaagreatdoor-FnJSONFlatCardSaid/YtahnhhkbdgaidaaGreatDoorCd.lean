/-
  Numbers in decimal: the digits with their point.
-/
import Derived.Test.YtahnhhkbdgaidaaGreatDoorCc
namespace Go.Proofs.YtahnhhkbdgaidaaGreatDoor
open Go.RowKit
set_option maxRecDepth 100000
/-- The sign; the whole part; the rest behind the point. -/
def signB (neg : Bool) : List UInt8 := if neg then [45] else []
def wholeB (ds : List UInt8) (dp : Int) (nd : Nat) : List UInt8 := if 0 < dp then ds.take (min nd dp.toNat) ++ List.replicate (dp.toNat - min nd dp.toNat) 48 else [48]
def restB (ds : List UInt8) (dp : Int) (nd : Nat) (pr : Int) : List UInt8 :=
  if 0 < pr then [46] ++ List.replicate (min pr (max 0 (-dp))).toNat 48 ++
    (ds.drop (dp + min pr (max 0 (-dp))).toNat).take (min (pr - min pr (max 0 (-dp))) (max 0 (nd - (dp + min pr (max 0 (-dp)))))).toNat ++
    List.replicate (max 0 (pr - min pr (max 0 (-dp)) - min (pr - min pr (max 0 (-dp))) (max 0 (nd - (dp + min pr (max 0 (-dp))))))).toNat 48
  else []
def fmtF (neg : Bool) (ds : List UInt8) (dp : Int) (nd : Nat) (pr : Int) : List UInt8 := signB neg ++ wholeB ds dp nd ++ restB ds dp nd pr
theorem take_drop_succ (ds : List UInt8) (o j : Nat) (h : o + j < ds.length) : (ds.drop o).take (j + 1) = (ds.drop o).take j ++ [ds[o + j]!] := by
  have h' : j < (ds.drop o).length := by simp; omega
  rw [List.take_succ_eq_append_getElem h', List.getElem_drop, getElem!_pos ds (o + j) h]
theorem take_succ_get (ds : List UInt8) (j : Nat) (h : j < ds.length) : ds.take (j + 1) = ds.take j ++ [ds[j]!] := by
  rw [List.take_succ_eq_append_getElem h, getElem!_pos ds j h]

set_option maxHeartbeats 4000000 in
theorem c313 (B D : Nat) (bs : List UInt8) (v : Value) (neg : Bool) (ds : List UInt8) (dp : Int) (nd : Nat) (pr : Int) (w : World)
    (hb : Bf B w v.ownBlock v bs w) (hlen : bs.length ≤ 100000000000000) (p0 : -1000 ≤ dp) (p1 : dp ≤ 1000) (q0 : -dp ≤ pr) (q0' : -1000 ≤ pr) (q1 : pr ≤ 2000)
    (hd : Bts w D ds) (hne : some D ≠ v.ownBlock) (hnd : nd ≤ ds.length) (h24 : ds.length ≤ 24) :
    Calls Tryz.prog 313 #[v, .bool neg, .slice (some ⟨D, 0, none⟩) 32 32, .int .i64 dp, .int .i64 nd, .int .i64 pr, .int .u8 102, .bool true] w fun e w' => ∃ v', e = .returned v' ∧ Bf B w v.ownBlock v' (bs ++ fmtF neg ds dp nd pr) w' := by
  have hD : Hid (∀ (v' : Value) (bs' : List UInt8) (wr : World), Bf B w v.ownBlock v' bs' wr → ∀ k, k < ds.length → wr.cell? ⟨D, k, none⟩ = some (.int .u8 ((ds[k]!).toNat : Int))) := Lib.hid fun v' bs' wr hR k hk => by
    rw [← hd.1 k hk]
    exact World.cell?_of_block (hR.kept.block D hd.2 hne)
  clear hd hne
  replace hb := Lib.hid hb
  by_cases hp : 0 < dp <;> by_cases hq : 0 < pr <;> cases neg
  · obtain ⟨p, rfl⟩ : ∃ p : Nat, dp = (p : Int) := ⟨dp.toNat, by omega⟩
    have hp0 : 0 < p := by omega
    have hpb : decide ((0 : Int) < (p : Int)) = true := by simpa using hp
    have hpb2 : decide (0 < p) = true := by simpa using hp0
    obtain ⟨m, hm⟩ : ∃ m : Nat, min nd p = m := ⟨_, rfl⟩
    have hmin : min (nd : Int) (p : Int) = (m : Int) := by omega
    obtain ⟨z0, hz0⟩ : ∃ z : Nat, z = p - m := ⟨_, rfl⟩
    have hz0' : (p : Int) - (m : Int) = (z0 : Int) := by omega
    have hmb : m ≤ ds.length := by omega
    have hm24 : m ≤ 32 := by omega
    have hm24' : (m : Int) ≤ 32 := by omega
    have hW : Hid (wholeB ds p nd = ds.take m ++ List.replicate z0 48) := Lib.hid (by unfold wholeB; rw [if_pos hp, hz0, Int.toNat_natCast, hm])
    have hqb : decide ((0 : Int) < pr) = true := by simpa using hq
    obtain ⟨z1, hz1⟩ : ∃ z : Nat, (z : Int) = min pr (max 0 (-(p : Int))) := ⟨(min pr (max 0 (-(p : Int)))).toNat, by omega⟩
    obtain ⟨o2, ho2⟩ : ∃ z : Nat, (z : Int) = (p : Int) + z1 := ⟨((p : Int) + z1).toNat, by omega⟩
    obtain ⟨z2, hz2⟩ : ∃ z : Nat, (z : Int) = min (pr - z1) (max 0 ((nd : Int) - o2)) := ⟨(min (pr - z1) (max 0 ((nd : Int) - o2))).toNat, by omega⟩
    obtain ⟨z3, hz3⟩ : ∃ z : Nat, (z : Int) = max 0 (pr - z1 - z2) := ⟨(max 0 (pr - z1 - z2)).toNat, by omega⟩
    have hb2 : z2 = 0 ∨ o2 + z2 ≤ ds.length := by omega
    have hF : Hid (restB ds (p : Int) nd pr = [46] ++ List.replicate z1 48 ++ (ds.drop o2).take z2 ++ List.replicate z3 48) := Lib.hid (by
      unfold restB; rw [if_pos hq, ← hz1, ← ho2, ← hz2, ← hz3]; simp)
    have k1 := hz1.symm; have k2 := ho2.symm; have k3 := hz2.symm; have k4 := hz3.symm
    have k5 : z1 ≤ 2000 := by omega
    have k6 : z2 ≤ 2000 := by omega
    have k7 : z3 ≤ 2000 := by omega
    clear hz1 ho2 hz2 hz3
    have hE : Hid (fmtF false ds (p : Int) nd pr = signB false ++ (ds.take m ++ List.replicate z0 48) ++ ([46] ++ List.replicate z1 48 ++ (ds.drop o2).take z2 ++ List.replicate z3 48)) := Lib.hid (by unfold fmtF; rw [hW.out, hF.out])
    clear hp hq hW hF
    go_enter Tryz.func313, Tryz.ntmps313
    go_wp2_with fail
    go_loopw [0, 191] (fun t i wr => ∃ j : Nat, j ≤ m ∧ i = .int .i64 j ∧ Bf B w v.ownBlock t (bs ++ ds.take j) wr) (fun _ i _ => m - (intOf i).toNat)
    case atStart => exact ⟨0, Nat.zero_le _, rfl, by simpa using hb.out⟩
    case round =>
    clear hb
    obtain ⟨j, hj, rfl, hb2⟩ := hrel
    have hcell := fun (k : Nat) (hk : k < ds.length) => hD.out _ _ wr hb2 k hk
    replace hb2 := Lib.hid hb2
    by_cases hlt : j < m
    · have c0 := hcell j (by omega)
      have hst := Lib.hid (take_succ_get ds j (by omega))
      generalize ds[j]! = x at *
      obtain ⟨v', w', hap, hb'⟩ := hb2.out.byte x (by simp; omega)
      replace hap := Lib.hid hap; replace hb' := Lib.hid hb'
      clear hcell
      go_wp2_with (at_builtin; refine wpList_append_eq rfl _ _ 32 rfl rfl rfl rfl hap.out ?_)
      go_roundw
      case rel =>
        refine ⟨j + 1, by omega, by go_num, ?_⟩
        have e := hb'.out
        rw [List.append_assoc, ← hst.out] at e
        exact e
      case measure => simp [intOf] <;> omega
    clear hcell
    obtain rfl : m = j := by omega
    have hdl : decide (((m : Nat) : Int) < ((m : Nat) : Int)) = false := by simp
    go_wp2_with fail
    go_loopw [0, 203] (fun t i wr => ∃ j : Nat, j ≤ z0 ∧ i = .int .i64 j ∧ Bf B w v.ownBlock t ((bs ++ ds.take m) ++ List.replicate j 48) wr) (fun _ i _ => z0 - (intOf i).toNat)
    case atStart => exact ⟨0, Nat.zero_le _, rfl, by simpa using hb2.out⟩
    case round =>
    clear hb2
    obtain ⟨j, hj, rfl, hb3⟩ := hrel
    replace hb3 := Lib.hid hb3
    by_cases hlt : j < z0
    · obtain ⟨v', w', hap, hb'⟩ := hb3.out.byte 48 (by simp; omega)
      replace hap := Lib.hid hap; replace hb' := Lib.hid hb'
      go_wp2_with (at_builtin; refine wpList_append_eq rfl _ _ 32 rfl rfl rfl rfl hap.out ?_)
      go_roundw
      case rel =>
        refine ⟨j + 1, by omega, by go_num, ?_⟩
        have e := hb'.out
        rw [List.append_assoc, ← List.replicate_succ'] at e
        exact e
      case measure => simp [intOf] <;> omega
    obtain rfl : z0 = j := by omega
    have hdl : decide (((z0 : Nat) : Int) < ((z0 : Nat) : Int)) = false := by simp
    obtain ⟨v4, w4, hap0, hb4⟩ := hb3.out.byte 46 (by simp; omega)
    replace hap0 := Lib.hid hap0; replace hb4 := Lib.hid hb4
    go_wp2_with (at_builtin; first | refine wpList_append_eq rfl _ _ 32 rfl rfl rfl rfl hap0.out ?_)
    clear hap0
    go_loopw [0, 240] (fun t i wr => ∃ j : Nat, j ≤ z1 ∧ i = .int .i64 j ∧ Bf B w v.ownBlock t ((((bs ++ ds.take m) ++ List.replicate z0 48) ++ [46]) ++ List.replicate j 48) wr) (fun _ i _ => z1 - (intOf i).toNat)
    case atStart => exact ⟨0, Nat.zero_le _, rfl, by simpa using hb4.out⟩
    case round =>
    clear hb4
    obtain ⟨j, hj, rfl, hb5⟩ := hrel
    replace hb5 := Lib.hid hb5
    by_cases hlt : j < z1
    · exfalso; omega
    obtain rfl : z1 = j := by omega
    have hdl : decide (((z1 : Nat) : Int) < ((z1 : Nat) : Int)) = false := by simp
    go_wp2_with fail
    go_loopw [0, 247] (fun t i wr => ∃ j : Nat, j ≤ z2 ∧ i = .int .i64 j ∧ Bf B w v.ownBlock t (((((bs ++ ds.take m) ++ List.replicate z0 48) ++ [46]) ++ List.replicate z1 48) ++ (ds.drop o2).take j) wr) (fun _ i _ => z2 - (intOf i).toNat)
    case atStart => exact ⟨0, Nat.zero_le _, rfl, by simpa using hb5.out⟩
    case round =>
    clear hb5
    obtain ⟨j, hj, rfl, hb6⟩ := hrel
    have hcell := fun (k : Nat) (hk : k < ds.length) => hD.out _ _ wr hb6 k hk
    replace hb6 := Lib.hid hb6
    by_cases hlt : j < z2
    · have c0 := hcell (o2 + j) (by omega)
      have hst := Lib.hid (take_drop_succ ds o2 j (by omega))
      generalize ds[(o2 + j)]! = x at *
      obtain ⟨v', w', hap, hb'⟩ := hb6.out.byte x (by simp; omega)
      replace hap := Lib.hid hap; replace hb' := Lib.hid hb'
      clear hcell
      go_wp2_with (at_builtin; refine wpList_append_eq rfl _ _ 32 rfl rfl rfl rfl hap.out ?_)
      go_roundw
      case rel =>
        refine ⟨j + 1, by omega, by go_num, ?_⟩
        have e := hb'.out
        rw [List.append_assoc, ← hst.out] at e
        exact e
      case measure => simp [intOf] <;> omega
    clear hcell
    obtain rfl : z2 = j := by omega
    have hdl : decide (((z2 : Nat) : Int) < ((z2 : Nat) : Int)) = false := by simp
    go_wp2_with fail
    go_loopw [0, 261] (fun t i wr => ∃ j : Nat, j ≤ z3 ∧ i = .int .i64 j ∧ Bf B w v.ownBlock t ((((((bs ++ ds.take m) ++ List.replicate z0 48) ++ [46]) ++ List.replicate z1 48) ++ (ds.drop o2).take z2) ++ List.replicate j 48) wr) (fun _ i _ => z3 - (intOf i).toNat)
    case atStart => exact ⟨0, Nat.zero_le _, rfl, by simpa using hb6.out⟩
    case round =>
    clear hb6
    obtain ⟨j, hj, rfl, hb7⟩ := hrel
    replace hb7 := Lib.hid hb7
    by_cases hlt : j < z3
    · obtain ⟨v', w', hap, hb'⟩ := hb7.out.byte 48 (by simp; omega)
      replace hap := Lib.hid hap; replace hb' := Lib.hid hb'
      go_wp2_with (at_builtin; refine wpList_append_eq rfl _ _ 32 rfl rfl rfl rfl hap.out ?_)
      go_roundw
      case rel =>
        refine ⟨j + 1, by omega, by go_num, ?_⟩
        have e := hb'.out
        rw [List.append_assoc, ← List.replicate_succ'] at e
        exact e
      case measure => simp [intOf] <;> omega
    obtain rfl : z3 = j := by omega
    have hdl : decide (((z3 : Nat) : Int) < ((z3 : Nat) : Int)) = false := by simp
    go_wp2_with fail
    go_ret
    exact ⟨_, rfl, by have e := hb7.out; rw [hE.out]; simpa [signB] using e⟩
  · obtain ⟨p, rfl⟩ : ∃ p : Nat, dp = (p : Int) := ⟨dp.toNat, by omega⟩
    have hp0 : 0 < p := by omega
    have hpb : decide ((0 : Int) < (p : Int)) = true := by simpa using hp
    have hpb2 : decide (0 < p) = true := by simpa using hp0
    obtain ⟨m, hm⟩ : ∃ m : Nat, min nd p = m := ⟨_, rfl⟩
    have hmin : min (nd : Int) (p : Int) = (m : Int) := by omega
    obtain ⟨z0, hz0⟩ : ∃ z : Nat, z = p - m := ⟨_, rfl⟩
    have hz0' : (p : Int) - (m : Int) = (z0 : Int) := by omega
    have hmb : m ≤ ds.length := by omega
    have hm24 : m ≤ 32 := by omega
    have hm24' : (m : Int) ≤ 32 := by omega
    have hW : Hid (wholeB ds p nd = ds.take m ++ List.replicate z0 48) := Lib.hid (by unfold wholeB; rw [if_pos hp, hz0, Int.toNat_natCast, hm])
    have hqb : decide ((0 : Int) < pr) = true := by simpa using hq
    obtain ⟨z1, hz1⟩ : ∃ z : Nat, (z : Int) = min pr (max 0 (-(p : Int))) := ⟨(min pr (max 0 (-(p : Int)))).toNat, by omega⟩
    obtain ⟨o2, ho2⟩ : ∃ z : Nat, (z : Int) = (p : Int) + z1 := ⟨((p : Int) + z1).toNat, by omega⟩
    obtain ⟨z2, hz2⟩ : ∃ z : Nat, (z : Int) = min (pr - z1) (max 0 ((nd : Int) - o2)) := ⟨(min (pr - z1) (max 0 ((nd : Int) - o2))).toNat, by omega⟩
    obtain ⟨z3, hz3⟩ : ∃ z : Nat, (z : Int) = max 0 (pr - z1 - z2) := ⟨(max 0 (pr - z1 - z2)).toNat, by omega⟩
    have hb2 : z2 = 0 ∨ o2 + z2 ≤ ds.length := by omega
    have hF : Hid (restB ds (p : Int) nd pr = [46] ++ List.replicate z1 48 ++ (ds.drop o2).take z2 ++ List.replicate z3 48) := Lib.hid (by
      unfold restB; rw [if_pos hq, ← hz1, ← ho2, ← hz2, ← hz3]; simp)
    have k1 := hz1.symm; have k2 := ho2.symm; have k3 := hz2.symm; have k4 := hz3.symm
    have k5 : z1 ≤ 2000 := by omega
    have k6 : z2 ≤ 2000 := by omega
    have k7 : z3 ≤ 2000 := by omega
    clear hz1 ho2 hz2 hz3
    have hE : Hid (fmtF true ds (p : Int) nd pr = signB true ++ (ds.take m ++ List.replicate z0 48) ++ ([46] ++ List.replicate z1 48 ++ (ds.drop o2).take z2 ++ List.replicate z3 48)) := Lib.hid (by unfold fmtF; rw [hW.out, hF.out])
    clear hp hq hW hF
    go_enter Tryz.func313, Tryz.ntmps313
    obtain ⟨v1, w1, hap0, hb1⟩ := hb.out.byte 45 (by simp; omega)
    replace hap0 := Lib.hid hap0; replace hb1 := Lib.hid hb1
    go_wp2_with (at_builtin; first | refine wpList_append_eq rfl _ _ 32 rfl rfl rfl rfl hap0.out ?_)
    clear hap0
    go_loopw [0, 191] (fun t i wr => ∃ j : Nat, j ≤ m ∧ i = .int .i64 j ∧ Bf B w v.ownBlock t (bs ++ [45] ++ ds.take j) wr) (fun _ i _ => m - (intOf i).toNat)
    case atStart => exact ⟨0, Nat.zero_le _, rfl, by simpa using hb1.out⟩
    case round =>
    clear hb1
    obtain ⟨j, hj, rfl, hb2⟩ := hrel
    have hcell := fun (k : Nat) (hk : k < ds.length) => hD.out _ _ wr hb2 k hk
    replace hb2 := Lib.hid hb2
    by_cases hlt : j < m
    · have c0 := hcell j (by omega)
      have hst := Lib.hid (take_succ_get ds j (by omega))
      generalize ds[j]! = x at *
      obtain ⟨v', w', hap, hb'⟩ := hb2.out.byte x (by simp; omega)
      replace hap := Lib.hid hap; replace hb' := Lib.hid hb'
      clear hcell
      go_wp2_with (at_builtin; refine wpList_append_eq rfl _ _ 32 rfl rfl rfl rfl hap.out ?_)
      go_roundw
      case rel =>
        refine ⟨j + 1, by omega, by go_num, ?_⟩
        have e := hb'.out
        rw [List.append_assoc, ← hst.out] at e
        exact e
      case measure => simp [intOf] <;> omega
    clear hcell
    obtain rfl : m = j := by omega
    have hdl : decide (((m : Nat) : Int) < ((m : Nat) : Int)) = false := by simp
    go_wp2_with fail
    go_loopw [0, 203] (fun t i wr => ∃ j : Nat, j ≤ z0 ∧ i = .int .i64 j ∧ Bf B w v.ownBlock t ((bs ++ [45] ++ ds.take m) ++ List.replicate j 48) wr) (fun _ i _ => z0 - (intOf i).toNat)
    case atStart => exact ⟨0, Nat.zero_le _, rfl, by simpa using hb2.out⟩
    case round =>
    clear hb2
    obtain ⟨j, hj, rfl, hb3⟩ := hrel
    replace hb3 := Lib.hid hb3
    by_cases hlt : j < z0
    · obtain ⟨v', w', hap, hb'⟩ := hb3.out.byte 48 (by simp; omega)
      replace hap := Lib.hid hap; replace hb' := Lib.hid hb'
      go_wp2_with (at_builtin; refine wpList_append_eq rfl _ _ 32 rfl rfl rfl rfl hap.out ?_)
      go_roundw
      case rel =>
        refine ⟨j + 1, by omega, by go_num, ?_⟩
        have e := hb'.out
        rw [List.append_assoc, ← List.replicate_succ'] at e
        exact e
      case measure => simp [intOf] <;> omega
    obtain rfl : z0 = j := by omega
    have hdl : decide (((z0 : Nat) : Int) < ((z0 : Nat) : Int)) = false := by simp
    obtain ⟨v4, w4, hap0, hb4⟩ := hb3.out.byte 46 (by simp; omega)
    replace hap0 := Lib.hid hap0; replace hb4 := Lib.hid hb4
    go_wp2_with (at_builtin; first | refine wpList_append_eq rfl _ _ 32 rfl rfl rfl rfl hap0.out ?_)
    clear hap0
    go_loopw [0, 240] (fun t i wr => ∃ j : Nat, j ≤ z1 ∧ i = .int .i64 j ∧ Bf B w v.ownBlock t ((((bs ++ [45] ++ ds.take m) ++ List.replicate z0 48) ++ [46]) ++ List.replicate j 48) wr) (fun _ i _ => z1 - (intOf i).toNat)
    case atStart => exact ⟨0, Nat.zero_le _, rfl, by simpa using hb4.out⟩
    case round =>
    clear hb4
    obtain ⟨j, hj, rfl, hb5⟩ := hrel
    replace hb5 := Lib.hid hb5
    by_cases hlt : j < z1
    · exfalso; omega
    obtain rfl : z1 = j := by omega
    have hdl : decide (((z1 : Nat) : Int) < ((z1 : Nat) : Int)) = false := by simp
    go_wp2_with fail
    go_loopw [0, 247] (fun t i wr => ∃ j : Nat, j ≤ z2 ∧ i = .int .i64 j ∧ Bf B w v.ownBlock t (((((bs ++ [45] ++ ds.take m) ++ List.replicate z0 48) ++ [46]) ++ List.replicate z1 48) ++ (ds.drop o2).take j) wr) (fun _ i _ => z2 - (intOf i).toNat)
    case atStart => exact ⟨0, Nat.zero_le _, rfl, by simpa using hb5.out⟩
    case round =>
    clear hb5
    obtain ⟨j, hj, rfl, hb6⟩ := hrel
    have hcell := fun (k : Nat) (hk : k < ds.length) => hD.out _ _ wr hb6 k hk
    replace hb6 := Lib.hid hb6
    by_cases hlt : j < z2
    · have c0 := hcell (o2 + j) (by omega)
      have hst := Lib.hid (take_drop_succ ds o2 j (by omega))
      generalize ds[(o2 + j)]! = x at *
      obtain ⟨v', w', hap, hb'⟩ := hb6.out.byte x (by simp; omega)
      replace hap := Lib.hid hap; replace hb' := Lib.hid hb'
      clear hcell
      go_wp2_with (at_builtin; refine wpList_append_eq rfl _ _ 32 rfl rfl rfl rfl hap.out ?_)
      go_roundw
      case rel =>
        refine ⟨j + 1, by omega, by go_num, ?_⟩
        have e := hb'.out
        rw [List.append_assoc, ← hst.out] at e
        exact e
      case measure => simp [intOf] <;> omega
    clear hcell
    obtain rfl : z2 = j := by omega
    have hdl : decide (((z2 : Nat) : Int) < ((z2 : Nat) : Int)) = false := by simp
    go_wp2_with fail
    go_loopw [0, 261] (fun t i wr => ∃ j : Nat, j ≤ z3 ∧ i = .int .i64 j ∧ Bf B w v.ownBlock t ((((((bs ++ [45] ++ ds.take m) ++ List.replicate z0 48) ++ [46]) ++ List.replicate z1 48) ++ (ds.drop o2).take z2) ++ List.replicate j 48) wr) (fun _ i _ => z3 - (intOf i).toNat)
    case atStart => exact ⟨0, Nat.zero_le _, rfl, by simpa using hb6.out⟩
    case round =>
    clear hb6
    obtain ⟨j, hj, rfl, hb7⟩ := hrel
    replace hb7 := Lib.hid hb7
    by_cases hlt : j < z3
    · obtain ⟨v', w', hap, hb'⟩ := hb7.out.byte 48 (by simp; omega)
      replace hap := Lib.hid hap; replace hb' := Lib.hid hb'
      go_wp2_with (at_builtin; refine wpList_append_eq rfl _ _ 32 rfl rfl rfl rfl hap.out ?_)
      go_roundw
      case rel =>
        refine ⟨j + 1, by omega, by go_num, ?_⟩
        have e := hb'.out
        rw [List.append_assoc, ← List.replicate_succ'] at e
        exact e
      case measure => simp [intOf] <;> omega
    obtain rfl : z3 = j := by omega
    have hdl : decide (((z3 : Nat) : Int) < ((z3 : Nat) : Int)) = false := by simp
    go_wp2_with fail
    go_ret
    exact ⟨_, rfl, by have e := hb7.out; rw [hE.out]; simpa [signB] using e⟩
  · obtain ⟨p, rfl⟩ : ∃ p : Nat, dp = (p : Int) := ⟨dp.toNat, by omega⟩
    have hp0 : 0 < p := by omega
    have hpb : decide ((0 : Int) < (p : Int)) = true := by simpa using hp
    have hpb2 : decide (0 < p) = true := by simpa using hp0
    obtain ⟨m, hm⟩ : ∃ m : Nat, min nd p = m := ⟨_, rfl⟩
    have hmin : min (nd : Int) (p : Int) = (m : Int) := by omega
    obtain ⟨z0, hz0⟩ : ∃ z : Nat, z = p - m := ⟨_, rfl⟩
    have hz0' : (p : Int) - (m : Int) = (z0 : Int) := by omega
    have hmb : m ≤ ds.length := by omega
    have hm24 : m ≤ 32 := by omega
    have hm24' : (m : Int) ≤ 32 := by omega
    have hW : Hid (wholeB ds p nd = ds.take m ++ List.replicate z0 48) := Lib.hid (by unfold wholeB; rw [if_pos hp, hz0, Int.toNat_natCast, hm])
    have hqb : decide ((0 : Int) < pr) = false := by simpa using hq
    have hF : Hid (restB ds (p : Int) nd pr = []) := Lib.hid (by unfold restB; rw [if_neg hq])
    have hE : Hid (fmtF false ds (p : Int) nd pr = signB false ++ (ds.take m ++ List.replicate z0 48) ++ []) := Lib.hid (by unfold fmtF; rw [hW.out, hF.out])
    clear hp hq hW hF
    go_enter Tryz.func313, Tryz.ntmps313
    go_wp2_with fail
    go_loopw [0, 191] (fun t i wr => ∃ j : Nat, j ≤ m ∧ i = .int .i64 j ∧ Bf B w v.ownBlock t (bs ++ ds.take j) wr) (fun _ i _ => m - (intOf i).toNat)
    case atStart => exact ⟨0, Nat.zero_le _, rfl, by simpa using hb.out⟩
    case round =>
    clear hb
    obtain ⟨j, hj, rfl, hb2⟩ := hrel
    have hcell := fun (k : Nat) (hk : k < ds.length) => hD.out _ _ wr hb2 k hk
    replace hb2 := Lib.hid hb2
    by_cases hlt : j < m
    · have c0 := hcell j (by omega)
      have hst := Lib.hid (take_succ_get ds j (by omega))
      generalize ds[j]! = x at *
      obtain ⟨v', w', hap, hb'⟩ := hb2.out.byte x (by simp; omega)
      replace hap := Lib.hid hap; replace hb' := Lib.hid hb'
      clear hcell
      go_wp2_with (at_builtin; refine wpList_append_eq rfl _ _ 32 rfl rfl rfl rfl hap.out ?_)
      go_roundw
      case rel =>
        refine ⟨j + 1, by omega, by go_num, ?_⟩
        have e := hb'.out
        rw [List.append_assoc, ← hst.out] at e
        exact e
      case measure => simp [intOf] <;> omega
    clear hcell
    obtain rfl : m = j := by omega
    have hdl : decide (((m : Nat) : Int) < ((m : Nat) : Int)) = false := by simp
    go_wp2_with fail
    go_loopw [0, 203] (fun t i wr => ∃ j : Nat, j ≤ z0 ∧ i = .int .i64 j ∧ Bf B w v.ownBlock t ((bs ++ ds.take m) ++ List.replicate j 48) wr) (fun _ i _ => z0 - (intOf i).toNat)
    case atStart => exact ⟨0, Nat.zero_le _, rfl, by simpa using hb2.out⟩
    case round =>
    clear hb2
    obtain ⟨j, hj, rfl, hb3⟩ := hrel
    replace hb3 := Lib.hid hb3
    by_cases hlt : j < z0
    · obtain ⟨v', w', hap, hb'⟩ := hb3.out.byte 48 (by simp; omega)
      replace hap := Lib.hid hap; replace hb' := Lib.hid hb'
      go_wp2_with (at_builtin; refine wpList_append_eq rfl _ _ 32 rfl rfl rfl rfl hap.out ?_)
      go_roundw
      case rel =>
        refine ⟨j + 1, by omega, by go_num, ?_⟩
        have e := hb'.out
        rw [List.append_assoc, ← List.replicate_succ'] at e
        exact e
      case measure => simp [intOf] <;> omega
    obtain rfl : z0 = j := by omega
    have hdl : decide (((z0 : Nat) : Int) < ((z0 : Nat) : Int)) = false := by simp
    go_wp2_with fail
    go_ret
    exact ⟨_, rfl, by have e := hb3.out; rw [hE.out]; simpa [signB] using e⟩
  · obtain ⟨p, rfl⟩ : ∃ p : Nat, dp = (p : Int) := ⟨dp.toNat, by omega⟩
    have hp0 : 0 < p := by omega
    have hpb : decide ((0 : Int) < (p : Int)) = true := by simpa using hp
    have hpb2 : decide (0 < p) = true := by simpa using hp0
    obtain ⟨m, hm⟩ : ∃ m : Nat, min nd p = m := ⟨_, rfl⟩
    have hmin : min (nd : Int) (p : Int) = (m : Int) := by omega
    obtain ⟨z0, hz0⟩ : ∃ z : Nat, z = p - m := ⟨_, rfl⟩
    have hz0' : (p : Int) - (m : Int) = (z0 : Int) := by omega
    have hmb : m ≤ ds.length := by omega
    have hm24 : m ≤ 32 := by omega
    have hm24' : (m : Int) ≤ 32 := by omega
    have hW : Hid (wholeB ds p nd = ds.take m ++ List.replicate z0 48) := Lib.hid (by unfold wholeB; rw [if_pos hp, hz0, Int.toNat_natCast, hm])
    have hqb : decide ((0 : Int) < pr) = false := by simpa using hq
    have hF : Hid (restB ds (p : Int) nd pr = []) := Lib.hid (by unfold restB; rw [if_neg hq])
    have hE : Hid (fmtF true ds (p : Int) nd pr = signB true ++ (ds.take m ++ List.replicate z0 48) ++ []) := Lib.hid (by unfold fmtF; rw [hW.out, hF.out])
    clear hp hq hW hF
    go_enter Tryz.func313, Tryz.ntmps313
    obtain ⟨v1, w1, hap0, hb1⟩ := hb.out.byte 45 (by simp; omega)
    replace hap0 := Lib.hid hap0; replace hb1 := Lib.hid hb1
    go_wp2_with (at_builtin; first | refine wpList_append_eq rfl _ _ 32 rfl rfl rfl rfl hap0.out ?_)
    clear hap0
    go_loopw [0, 191] (fun t i wr => ∃ j : Nat, j ≤ m ∧ i = .int .i64 j ∧ Bf B w v.ownBlock t (bs ++ [45] ++ ds.take j) wr) (fun _ i _ => m - (intOf i).toNat)
    case atStart => exact ⟨0, Nat.zero_le _, rfl, by simpa using hb1.out⟩
    case round =>
    clear hb1
    obtain ⟨j, hj, rfl, hb2⟩ := hrel
    have hcell := fun (k : Nat) (hk : k < ds.length) => hD.out _ _ wr hb2 k hk
    replace hb2 := Lib.hid hb2
    by_cases hlt : j < m
    · have c0 := hcell j (by omega)
      have hst := Lib.hid (take_succ_get ds j (by omega))
      generalize ds[j]! = x at *
      obtain ⟨v', w', hap, hb'⟩ := hb2.out.byte x (by simp; omega)
      replace hap := Lib.hid hap; replace hb' := Lib.hid hb'
      clear hcell
      go_wp2_with (at_builtin; refine wpList_append_eq rfl _ _ 32 rfl rfl rfl rfl hap.out ?_)
      go_roundw
      case rel =>
        refine ⟨j + 1, by omega, by go_num, ?_⟩
        have e := hb'.out
        rw [List.append_assoc, ← hst.out] at e
        exact e
      case measure => simp [intOf] <;> omega
    clear hcell
    obtain rfl : m = j := by omega
    have hdl : decide (((m : Nat) : Int) < ((m : Nat) : Int)) = false := by simp
    go_wp2_with fail
    go_loopw [0, 203] (fun t i wr => ∃ j : Nat, j ≤ z0 ∧ i = .int .i64 j ∧ Bf B w v.ownBlock t ((bs ++ [45] ++ ds.take m) ++ List.replicate j 48) wr) (fun _ i _ => z0 - (intOf i).toNat)
    case atStart => exact ⟨0, Nat.zero_le _, rfl, by simpa using hb2.out⟩
    case round =>
    clear hb2
    obtain ⟨j, hj, rfl, hb3⟩ := hrel
    replace hb3 := Lib.hid hb3
    by_cases hlt : j < z0
    · obtain ⟨v', w', hap, hb'⟩ := hb3.out.byte 48 (by simp; omega)
      replace hap := Lib.hid hap; replace hb' := Lib.hid hb'
      go_wp2_with (at_builtin; refine wpList_append_eq rfl _ _ 32 rfl rfl rfl rfl hap.out ?_)
      go_roundw
      case rel =>
        refine ⟨j + 1, by omega, by go_num, ?_⟩
        have e := hb'.out
        rw [List.append_assoc, ← List.replicate_succ'] at e
        exact e
      case measure => simp [intOf] <;> omega
    obtain rfl : z0 = j := by omega
    have hdl : decide (((z0 : Nat) : Int) < ((z0 : Nat) : Int)) = false := by simp
    go_wp2_with fail
    go_ret
    exact ⟨_, rfl, by have e := hb3.out; rw [hE.out]; simpa [signB] using e⟩
  · have hpb : decide ((0 : Int) < dp) = false := by simpa using hp
    have hW : Hid (wholeB ds dp nd = [48]) := Lib.hid (by unfold wholeB; rw [if_neg hp])
    have hqb : decide ((0 : Int) < pr) = true := by simpa using hq
    obtain ⟨z1, hz1⟩ : ∃ z : Nat, (z : Int) = min pr (max 0 (-dp)) := ⟨(min pr (max 0 (-dp))).toNat, by omega⟩
    obtain ⟨o2, ho2⟩ : ∃ z : Nat, (z : Int) = dp + z1 := ⟨(dp + z1).toNat, by omega⟩
    obtain ⟨z2, hz2⟩ : ∃ z : Nat, (z : Int) = min (pr - z1) (max 0 ((nd : Int) - o2)) := ⟨(min (pr - z1) (max 0 ((nd : Int) - o2))).toNat, by omega⟩
    obtain ⟨z3, hz3⟩ : ∃ z : Nat, (z : Int) = max 0 (pr - z1 - z2) := ⟨(max 0 (pr - z1 - z2)).toNat, by omega⟩
    have hb2 : z2 = 0 ∨ o2 + z2 ≤ ds.length := by omega
    have hF : Hid (restB ds dp nd pr = [46] ++ List.replicate z1 48 ++ (ds.drop o2).take z2 ++ List.replicate z3 48) := Lib.hid (by
      unfold restB; rw [if_pos hq, ← hz1, ← ho2, ← hz2, ← hz3]; simp)
    have k1 := hz1.symm; have k2 := ho2.symm; have k3 := hz2.symm; have k4 := hz3.symm
    have k5 : z1 ≤ 2000 := by omega
    have k6 : z2 ≤ 2000 := by omega
    have k7 : z3 ≤ 2000 := by omega
    clear hz1 ho2 hz2 hz3
    have hE : Hid (fmtF false ds dp nd pr = signB false ++ ([48]) ++ ([46] ++ List.replicate z1 48 ++ (ds.drop o2).take z2 ++ List.replicate z3 48)) := Lib.hid (by unfold fmtF; rw [hW.out, hF.out])
    clear hp hq hW hF
    go_enter Tryz.func313, Tryz.ntmps313
    obtain ⟨v3, w3, hap0, hb3⟩ := hb.out.byte 48 (by simp; omega)
    replace hap0 := Lib.hid hap0; replace hb3 := Lib.hid hb3
    obtain ⟨v4, w4, hap1, hb4⟩ := hb3.out.byte 46 (by simp; omega)
    replace hap1 := Lib.hid hap1; replace hb4 := Lib.hid hb4
    go_wp2_with (at_builtin; first | refine wpList_append_eq rfl _ _ 32 rfl rfl rfl rfl hap0.out ?_ | refine wpList_append_eq rfl _ _ 32 rfl rfl rfl rfl hap1.out ?_)
    clear hap0 hap1
    go_loopw [0, 240] (fun t i wr => ∃ j : Nat, j ≤ z1 ∧ i = .int .i64 j ∧ Bf B w v.ownBlock t (((bs ++ [48]) ++ [46]) ++ List.replicate j 48) wr) (fun _ i _ => z1 - (intOf i).toNat)
    case atStart => exact ⟨0, Nat.zero_le _, rfl, by simpa using hb4.out⟩
    case round =>
    clear hb4
    obtain ⟨j, hj, rfl, hb5⟩ := hrel
    replace hb5 := Lib.hid hb5
    by_cases hlt : j < z1
    · obtain ⟨v', w', hap, hb'⟩ := hb5.out.byte 48 (by simp; omega)
      replace hap := Lib.hid hap; replace hb' := Lib.hid hb'
      go_wp2_with (at_builtin; refine wpList_append_eq rfl _ _ 32 rfl rfl rfl rfl hap.out ?_)
      go_roundw
      case rel =>
        refine ⟨j + 1, by omega, by go_num, ?_⟩
        have e := hb'.out
        rw [List.append_assoc, ← List.replicate_succ'] at e
        exact e
      case measure => simp [intOf] <;> omega
    obtain rfl : z1 = j := by omega
    have hdl : decide (((z1 : Nat) : Int) < ((z1 : Nat) : Int)) = false := by simp
    go_wp2_with fail
    go_loopw [0, 247] (fun t i wr => ∃ j : Nat, j ≤ z2 ∧ i = .int .i64 j ∧ Bf B w v.ownBlock t ((((bs ++ [48]) ++ [46]) ++ List.replicate z1 48) ++ (ds.drop o2).take j) wr) (fun _ i _ => z2 - (intOf i).toNat)
    case atStart => exact ⟨0, Nat.zero_le _, rfl, by simpa using hb5.out⟩
    case round =>
    clear hb5
    obtain ⟨j, hj, rfl, hb6⟩ := hrel
    have hcell := fun (k : Nat) (hk : k < ds.length) => hD.out _ _ wr hb6 k hk
    replace hb6 := Lib.hid hb6
    by_cases hlt : j < z2
    · have c0 := hcell (o2 + j) (by omega)
      have hst := Lib.hid (take_drop_succ ds o2 j (by omega))
      generalize ds[(o2 + j)]! = x at *
      obtain ⟨v', w', hap, hb'⟩ := hb6.out.byte x (by simp; omega)
      replace hap := Lib.hid hap; replace hb' := Lib.hid hb'
      clear hcell
      go_wp2_with (at_builtin; refine wpList_append_eq rfl _ _ 32 rfl rfl rfl rfl hap.out ?_)
      go_roundw
      case rel =>
        refine ⟨j + 1, by omega, by go_num, ?_⟩
        have e := hb'.out
        rw [List.append_assoc, ← hst.out] at e
        exact e
      case measure => simp [intOf] <;> omega
    clear hcell
    obtain rfl : z2 = j := by omega
    have hdl : decide (((z2 : Nat) : Int) < ((z2 : Nat) : Int)) = false := by simp
    go_wp2_with fail
    go_loopw [0, 261] (fun t i wr => ∃ j : Nat, j ≤ z3 ∧ i = .int .i64 j ∧ Bf B w v.ownBlock t (((((bs ++ [48]) ++ [46]) ++ List.replicate z1 48) ++ (ds.drop o2).take z2) ++ List.replicate j 48) wr) (fun _ i _ => z3 - (intOf i).toNat)
    case atStart => exact ⟨0, Nat.zero_le _, rfl, by simpa using hb6.out⟩
    case round =>
    clear hb6
    obtain ⟨j, hj, rfl, hb7⟩ := hrel
    replace hb7 := Lib.hid hb7
    by_cases hlt : j < z3
    · obtain ⟨v', w', hap, hb'⟩ := hb7.out.byte 48 (by simp; omega)
      replace hap := Lib.hid hap; replace hb' := Lib.hid hb'
      go_wp2_with (at_builtin; refine wpList_append_eq rfl _ _ 32 rfl rfl rfl rfl hap.out ?_)
      go_roundw
      case rel =>
        refine ⟨j + 1, by omega, by go_num, ?_⟩
        have e := hb'.out
        rw [List.append_assoc, ← List.replicate_succ'] at e
        exact e
      case measure => simp [intOf] <;> omega
    obtain rfl : z3 = j := by omega
    have hdl : decide (((z3 : Nat) : Int) < ((z3 : Nat) : Int)) = false := by simp
    go_wp2_with fail
    go_ret
    exact ⟨_, rfl, by have e := hb7.out; rw [hE.out]; simpa [signB] using e⟩
  · have hpb : decide ((0 : Int) < dp) = false := by simpa using hp
    have hW : Hid (wholeB ds dp nd = [48]) := Lib.hid (by unfold wholeB; rw [if_neg hp])
    have hqb : decide ((0 : Int) < pr) = true := by simpa using hq
    obtain ⟨z1, hz1⟩ : ∃ z : Nat, (z : Int) = min pr (max 0 (-dp)) := ⟨(min pr (max 0 (-dp))).toNat, by omega⟩
    obtain ⟨o2, ho2⟩ : ∃ z : Nat, (z : Int) = dp + z1 := ⟨(dp + z1).toNat, by omega⟩
    obtain ⟨z2, hz2⟩ : ∃ z : Nat, (z : Int) = min (pr - z1) (max 0 ((nd : Int) - o2)) := ⟨(min (pr - z1) (max 0 ((nd : Int) - o2))).toNat, by omega⟩
    obtain ⟨z3, hz3⟩ : ∃ z : Nat, (z : Int) = max 0 (pr - z1 - z2) := ⟨(max 0 (pr - z1 - z2)).toNat, by omega⟩
    have hb2 : z2 = 0 ∨ o2 + z2 ≤ ds.length := by omega
    have hF : Hid (restB ds dp nd pr = [46] ++ List.replicate z1 48 ++ (ds.drop o2).take z2 ++ List.replicate z3 48) := Lib.hid (by
      unfold restB; rw [if_pos hq, ← hz1, ← ho2, ← hz2, ← hz3]; simp)
    have k1 := hz1.symm; have k2 := ho2.symm; have k3 := hz2.symm; have k4 := hz3.symm
    have k5 : z1 ≤ 2000 := by omega
    have k6 : z2 ≤ 2000 := by omega
    have k7 : z3 ≤ 2000 := by omega
    clear hz1 ho2 hz2 hz3
    have hE : Hid (fmtF true ds dp nd pr = signB true ++ ([48]) ++ ([46] ++ List.replicate z1 48 ++ (ds.drop o2).take z2 ++ List.replicate z3 48)) := Lib.hid (by unfold fmtF; rw [hW.out, hF.out])
    clear hp hq hW hF
    go_enter Tryz.func313, Tryz.ntmps313
    obtain ⟨v1, w1, hap0, hb1⟩ := hb.out.byte 45 (by simp; omega)
    replace hap0 := Lib.hid hap0; replace hb1 := Lib.hid hb1
    obtain ⟨v3, w3, hap1, hb3⟩ := hb1.out.byte 48 (by simp; omega)
    replace hap1 := Lib.hid hap1; replace hb3 := Lib.hid hb3
    obtain ⟨v4, w4, hap2, hb4⟩ := hb3.out.byte 46 (by simp; omega)
    replace hap2 := Lib.hid hap2; replace hb4 := Lib.hid hb4
    go_wp2_with (at_builtin; first | refine wpList_append_eq rfl _ _ 32 rfl rfl rfl rfl hap0.out ?_ | refine wpList_append_eq rfl _ _ 32 rfl rfl rfl rfl hap1.out ?_ | refine wpList_append_eq rfl _ _ 32 rfl rfl rfl rfl hap2.out ?_)
    clear hap0 hap1 hap2
    go_loopw [0, 240] (fun t i wr => ∃ j : Nat, j ≤ z1 ∧ i = .int .i64 j ∧ Bf B w v.ownBlock t (((bs ++ [45] ++ [48]) ++ [46]) ++ List.replicate j 48) wr) (fun _ i _ => z1 - (intOf i).toNat)
    case atStart => exact ⟨0, Nat.zero_le _, rfl, by simpa using hb4.out⟩
    case round =>
    clear hb4
    obtain ⟨j, hj, rfl, hb5⟩ := hrel
    replace hb5 := Lib.hid hb5
    by_cases hlt : j < z1
    · obtain ⟨v', w', hap, hb'⟩ := hb5.out.byte 48 (by simp; omega)
      replace hap := Lib.hid hap; replace hb' := Lib.hid hb'
      go_wp2_with (at_builtin; refine wpList_append_eq rfl _ _ 32 rfl rfl rfl rfl hap.out ?_)
      go_roundw
      case rel =>
        refine ⟨j + 1, by omega, by go_num, ?_⟩
        have e := hb'.out
        rw [List.append_assoc, ← List.replicate_succ'] at e
        exact e
      case measure => simp [intOf] <;> omega
    obtain rfl : z1 = j := by omega
    have hdl : decide (((z1 : Nat) : Int) < ((z1 : Nat) : Int)) = false := by simp
    go_wp2_with fail
    go_loopw [0, 247] (fun t i wr => ∃ j : Nat, j ≤ z2 ∧ i = .int .i64 j ∧ Bf B w v.ownBlock t ((((bs ++ [45] ++ [48]) ++ [46]) ++ List.replicate z1 48) ++ (ds.drop o2).take j) wr) (fun _ i _ => z2 - (intOf i).toNat)
    case atStart => exact ⟨0, Nat.zero_le _, rfl, by simpa using hb5.out⟩
    case round =>
    clear hb5
    obtain ⟨j, hj, rfl, hb6⟩ := hrel
    have hcell := fun (k : Nat) (hk : k < ds.length) => hD.out _ _ wr hb6 k hk
    replace hb6 := Lib.hid hb6
    by_cases hlt : j < z2
    · have c0 := hcell (o2 + j) (by omega)
      have hst := Lib.hid (take_drop_succ ds o2 j (by omega))
      generalize ds[(o2 + j)]! = x at *
      obtain ⟨v', w', hap, hb'⟩ := hb6.out.byte x (by simp; omega)
      replace hap := Lib.hid hap; replace hb' := Lib.hid hb'
      clear hcell
      go_wp2_with (at_builtin; refine wpList_append_eq rfl _ _ 32 rfl rfl rfl rfl hap.out ?_)
      go_roundw
      case rel =>
        refine ⟨j + 1, by omega, by go_num, ?_⟩
        have e := hb'.out
        rw [List.append_assoc, ← hst.out] at e
        exact e
      case measure => simp [intOf] <;> omega
    clear hcell
    obtain rfl : z2 = j := by omega
    have hdl : decide (((z2 : Nat) : Int) < ((z2 : Nat) : Int)) = false := by simp
    go_wp2_with fail
    go_loopw [0, 261] (fun t i wr => ∃ j : Nat, j ≤ z3 ∧ i = .int .i64 j ∧ Bf B w v.ownBlock t (((((bs ++ [45] ++ [48]) ++ [46]) ++ List.replicate z1 48) ++ (ds.drop o2).take z2) ++ List.replicate j 48) wr) (fun _ i _ => z3 - (intOf i).toNat)
    case atStart => exact ⟨0, Nat.zero_le _, rfl, by simpa using hb6.out⟩
    case round =>
    clear hb6
    obtain ⟨j, hj, rfl, hb7⟩ := hrel
    replace hb7 := Lib.hid hb7
    by_cases hlt : j < z3
    · obtain ⟨v', w', hap, hb'⟩ := hb7.out.byte 48 (by simp; omega)
      replace hap := Lib.hid hap; replace hb' := Lib.hid hb'
      go_wp2_with (at_builtin; refine wpList_append_eq rfl _ _ 32 rfl rfl rfl rfl hap.out ?_)
      go_roundw
      case rel =>
        refine ⟨j + 1, by omega, by go_num, ?_⟩
        have e := hb'.out
        rw [List.append_assoc, ← List.replicate_succ'] at e
        exact e
      case measure => simp [intOf] <;> omega
    obtain rfl : z3 = j := by omega
    have hdl : decide (((z3 : Nat) : Int) < ((z3 : Nat) : Int)) = false := by simp
    go_wp2_with fail
    go_ret
    exact ⟨_, rfl, by have e := hb7.out; rw [hE.out]; simpa [signB] using e⟩
  · have hpb : decide ((0 : Int) < dp) = false := by simpa using hp
    have hW : Hid (wholeB ds dp nd = [48]) := Lib.hid (by unfold wholeB; rw [if_neg hp])
    have hqb : decide ((0 : Int) < pr) = false := by simpa using hq
    have hF : Hid (restB ds dp nd pr = []) := Lib.hid (by unfold restB; rw [if_neg hq])
    have hE : Hid (fmtF false ds dp nd pr = signB false ++ ([48]) ++ []) := Lib.hid (by unfold fmtF; rw [hW.out, hF.out])
    clear hp hq hW hF
    go_enter Tryz.func313, Tryz.ntmps313
    obtain ⟨v3, w3, hap0, hb3⟩ := hb.out.byte 48 (by simp; omega)
    replace hap0 := Lib.hid hap0; replace hb3 := Lib.hid hb3
    go_wp2_with (at_builtin; first | refine wpList_append_eq rfl _ _ 32 rfl rfl rfl rfl hap0.out ?_)
    clear hap0
    go_ret
    exact ⟨_, rfl, by have e := hb3.out; rw [hE.out]; simpa [signB] using e⟩
  · have hpb : decide ((0 : Int) < dp) = false := by simpa using hp
    have hW : Hid (wholeB ds dp nd = [48]) := Lib.hid (by unfold wholeB; rw [if_neg hp])
    have hqb : decide ((0 : Int) < pr) = false := by simpa using hq
    have hF : Hid (restB ds dp nd pr = []) := Lib.hid (by unfold restB; rw [if_neg hq])
    have hE : Hid (fmtF true ds dp nd pr = signB true ++ ([48]) ++ []) := Lib.hid (by unfold fmtF; rw [hW.out, hF.out])
    clear hp hq hW hF
    go_enter Tryz.func313, Tryz.ntmps313
    obtain ⟨v1, w1, hap0, hb1⟩ := hb.out.byte 45 (by simp; omega)
    replace hap0 := Lib.hid hap0; replace hb1 := Lib.hid hb1
    obtain ⟨v3, w3, hap1, hb3⟩ := hb1.out.byte 48 (by simp; omega)
    replace hap1 := Lib.hid hap1; replace hb3 := Lib.hid hb3
    go_wp2_with (at_builtin; first | refine wpList_append_eq rfl _ _ 32 rfl rfl rfl rfl hap0.out ?_ | refine wpList_append_eq rfl _ _ 32 rfl rfl rfl rfl hap1.out ?_)
    clear hap0 hap1
    go_ret
    exact ⟨_, rfl, by have e := hb3.out; rw [hE.out]; simpa [signB] using e⟩
end Go.Proofs.YtahnhhkbdgaidaaGreatDoor
