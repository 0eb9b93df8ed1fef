/-
  GeoJSON: a list of sequences, a list of lists.
-/
import Derived.Test.YtahnhhkbdgaidaaGreatDoorDf
namespace Go.Proofs.YtahnhhkbdgaidaaGreatDoor
open Go.RowKit
set_option maxRecDepth 100000
theorem Bf.fresh' {B : Nat} {W w : World} {r : Option Nat} {v : Value} {bs : List UInt8} (h : Bf B W r v bs w) : some w.heap.size ≠ v.ownBlock := fun e => by have := (h.blk _ e.symm).2; omega
def jlnB (f : Nat → List UInt8) (l : Ln) : List UInt8 := jwrap ((plsOf l.t l.xs).map (jcrdC f))
def jpgB (f : Nat → List UInt8) (ls : List Ln) : List UInt8 := jwrap (ls.map (jlnB f))
def jmpB (f : Nat → List UInt8) (ls : List (List Ln)) : List UInt8 := jwrap (ls.map (jpgB f))
def Sq.fs (l : List Ln) : List F := [.list (l.map Ln.fs)]
theorem sqs_at {S : Nat → Prop} {w : World} {ls : List (List Ln)} {v : Value} (h : Rd S w (.list (ls.map Sq.fs)) v) : ∃ a c, v = .slice a ls.length c ∧ ls.length ≤ 17592186044416 ∧
    ∀ i (hi : i < ls.length), ∃ b off a' c', a = some ⟨b, off, none⟩ ∧ S b ∧ b < w.heap.size ∧ w.cell? ⟨b, off + i, none⟩ = some (.slice a' (ls[i]).length c') ∧ Rd S w (.list ((ls[i]).map Ln.fs)) (.slice a' (ls[i]).length c') := by
  obtain ⟨a, c, rfl, hm, hi⟩ := list_at h 1 (by simp [Sq.fs])
  simp only [List.length_map] at *
  refine ⟨a, c, rfl, hm, fun i hlt => ?_⟩
  obtain ⟨b, off, rfl, hS, hb, x, hx⟩ := hi i hlt
  have e : (ls.map Sq.fs)[i]'(by simpa using hlt) = [.list ((ls[i]).map Ln.fs)] := by simp [Sq.fs]
  obtain ⟨c0, r0⟩ := hx 0 (by rw [e]; simp)
  simp only [e, List.getElem_cons_zero] at r0
  obtain ⟨a', c', e1, _⟩ := lines_at r0
  rw [e1] at c0 r0
  exact ⟨b, off, a', c', rfl, hS, hb, by simpa using c0, r0⟩
set_option maxHeartbeats 2000000 in
theorem c93 (tab : Nat → Int) (f : Nat → List UInt8) (hF : PrintsJ tab f) (B : Nat) (S : Nat → Prop) (bs : List UInt8) (v : Value) (ls : List Ln) (a : Option Addr) (c : Nat) (w : World) (hT : Tabs tab w) (hB6 : 6 < B) (hb : Bf B w v.ownBlock v bs w)
    (hlen : bs.length + (jpgB f ls).length ≤ 75000000000000) (hok : ∀ l ∈ ls, l.ok) (hS : Off S v w) (h : Rd S w (.list (ls.map Ln.fs)) (.slice a ls.length c)) :
    Calls Tryz.prog 93 #[v, .slice a ls.length c] w fun e w' => ∃ v', e = .returned v' ∧ Bf B w v.ownBlock v' (bs ++ jpgB f ls) w' := by
  unfold jpgB at hlen ⊢
  have hqj0 : ∀ j (hj : j < (ls.map (jlnB f)).length) (hj' : j < ls.length), (ls.map (jlnB f))[j] = jlnB f (ls[j]'hj') := fun j hj hj' => by simp
  have hql : (ls.map (jlnB f)).length = ls.length := by simp
  generalize ls.map (jlnB f) = qs at *
  have hmax : ls.length ≤ 17592186044416 := by obtain ⟨_, _, _, hm, _⟩ := lines_at h; exact hm
  have hr6 : Hid (∀ j, v.ownBlock = some j → 6 < j) := Lib.hid fun j hj => by have := (hb.blk j hj).1; omega
  have hap : Hid (∀ b, S b → some b ≠ v.ownBlock) := Lib.hid (fun b hb => (hS b hb).2)
  have Hb0 := Lib.hid hb
  have Hrd : Hid (∀ (X : List UInt8) (v' : Value) (w' : World), Bf B w v.ownBlock v' X w' → Rd S w' (.list (ls.map Ln.fs)) (.slice a ls.length c)) := Lib.hid fun X v' w' hx => hx.rd h hap.out
  have Hel : Hid (∀ (X : List UInt8) (v' : Value) (j : Nat) (hj : j < ls.length) (hjq : j < qs.length) (a' : Option Addr) (c' : Nat) (w' : World), Bf B w v.ownBlock v' X w' → X.length + (qs[j]'hjq).length ≤ 75000000000000 → Rd S w' (fl (ls[j]).xs) (.slice a' (ls[j]).xs.length c') →
      Calls Tryz.prog 90 #[v', (.agg #[.int .u8 (ls[j]).t, .slice a' (ls[j]).xs.length c'])] w' fun e w2 => ∃ v2, e = .returned v2 ∧ Bf B w v.ownBlock v2 (X ++ qs[j]'hjq) w2) := Lib.hid fun X v' j hj hjq a' c' w' hx hl hel => by
    have hq := hqj0 j hjq hj
    refine (c90 tab f hF B S X v' (ls[j]).t (ls[j]).xs a' c' w' (hx.tabs hT hr6.out) hB6 hx.here (by rw [hq] at hl; exact Nat.le_trans hl (by decide)) (hok _ (List.getElem_mem hj)).1 (hok _ (List.getElem_mem hj)).2.1 (hx.off hS) hel).mono fun e w2 ⟨v2, he, h2⟩ => ⟨v2, he, ?_⟩
    rw [hq]
    exact hx.then h2
  have Hql := Lib.hid hql
  have HL := Lib.hid fun j => Jep_len bs qs j
  have HL2 := Lib.hid (Jep_len2 bs qs)
  have HX0 := Lib.hid hlen
  clear hb hqj0 h hlen hT hok hql
  go_enter Tryz.func93, Tryz.ntmps93
  obtain ⟨v2, w2, hap2, hx2⟩ := Hb0.out.byte 91 (by have := HX0.out; omega)
  have Hap2 := Lib.hid hap2
  have Hx2 := Lib.hid hx2; clear hx2 hap2
  go_wp2_with (at_builtin; refine wpList_append_eq rfl _ _ 32 rfl rfl rfl rfl Hap2.out ?_)
  go_loopw [0, 12] (fun v' i wr => ∃ j : Nat, j ≤ ls.length ∧ i = .int .i64 j ∧ Bf B w v.ownBlock v' (Jep bs qs j) wr) (fun _ i _ => ls.length - (intOf i).toNat)
  case atStart => exact ⟨0, Nat.zero_le _, rfl, by rw [Jep_zero]; exact Hx2.out⟩
  case round =>
    obtain ⟨j, hj, rfl, hx⟩ := hrel
    clear Hx2 Hap2
    by_cases hlt : j < ls.length
    · have hjq : j < qs.length := by have := Hql.out; omega
      have hr := Hrd.out _ _ _ hx
      obtain ⟨a0, c0, e0, hm, hat⟩ := lines_at hr
      obtain ⟨ea, _, ec⟩ := Value.slice.inj e0
      obtain ⟨b, off, a', c', eb, hSb, hbl, q0, q1, hel⟩ := hat j hlt
      obtain ⟨rfl⟩ : a = some ⟨b, off, none⟩ := ea.trans eb
      have hLj : (Jep bs qs j).length + 1 + (qs[j]'hjq).length ≤ 75000000000000 := by have := HL2.out j hjq; have := HX0.out; omega
      have hxe := hx.alloc (.cells #[.int .u8 (ls[j]).t, .slice a' (ls[j]).xs.length c'] 67)
      have hLe := Lb.new wr #[.int .u8 (ls[j]).t, .slice a' (ls[j]).xs.length c'] 67
      have hown := hx.fresh'
      have hele := Rd.alloc hel (.cells #[.int .u8 (ls[j]).t, .slice a' (ls[j]).xs.length c'] 67)
      have hap' := fun b hb => ((hx.off hS) b hb).2
      clear hx hr hat e0 hel ea eb ec
      by_cases hj0 : j = 0
      · have hd1 : decide ((0 : Int) < (j : Int)) = false := by simp; omega
        have hd2 : decide (0 < j) = false := by simp; omega
        have HS1 : Hid (Jep bs qs (j + 1) = Jep bs qs j ++ qs[j]'hjq) := Lib.hid (by subst hj0; exact Jep_one bs qs hjq)
        have He := Lib.hid hxe; have Hele := Lib.hid hele
        clear hxe hj0 hele hLe
        go_wp2_with fail
        refine (Hel.out (Jep bs qs j) _ j hlt hjq _ _ _ He.out (by omega) Hele.out).mono ?_
        rintro _ w3 ⟨v3, rfl, hx3⟩
        have Hx3 := Lib.hid hx3
        clear hx3 q0 q1
        go_wp2_with fail
        go_roundw
        case rel =>
          refine ⟨j + 1, by omega, by go_num, ?_⟩
          rw [HS1.out]
          exact Hx3.out
        case measure => simp [intOf]; omega
      · have hjp : 0 < j := by omega
        have hd1 : decide ((0 : Int) < (j : Int)) = true := by simpa using hjp
        have hd2 : decide (0 < j) = true := by simpa using hjp
        have Hjp := Lib.hid hjp
        obtain ⟨v4, w4, hap4, hx4⟩ := hxe.here.byte 44 (by omega)
        rw [World.size_alloc] at hap4
        have Hap4 := Lib.hid hap4
        obtain ⟨k4, _, _⟩ := (hx4.lb hLe hown).use
        have Hele := Lib.hid (hx4.rd hele hap')
        have Hx4 := Lib.hid (hxe.then hx4)
        clear hxe hap4 hx4 hj0 hjp hele hLe
        go_wp2_with (at_builtin; refine wpList_append_eq rfl _ _ 32 rfl rfl rfl rfl Hap4.out ?_)
        refine (Hel.out (Jep bs qs j ++ [44]) _ j hlt hjq _ _ _ Hx4.out (by simp only [List.length_append, List.length_cons, List.length_nil]; omega) Hele.out).mono ?_
        rintro _ w3 ⟨v3, rfl, hx3⟩
        have Hx3 := Lib.hid hx3
        clear hx3 k4 q0 q1
        go_wp2_with fail
        go_roundw
        case rel =>
          refine ⟨j + 1, by omega, by go_num, ?_⟩
          rw [Jep_step bs qs j hjq Hjp.out]
          exact Hx3.out
        case measure => simp [intOf]; omega
    · obtain rfl : j = ls.length := by omega
      have hdl : decide (((ls.length : Nat) : Int) < ls.length) = false := by simp
      obtain ⟨v5, w5, hap5, hx5⟩ := hx.byte 93 (by have := HL.out ls.length; have := HX0.out; omega)
      have Hap5 := Lib.hid hap5; have Hx5 := Lib.hid hx5
      clear hx hap5 hx5
      go_wp2_with (at_builtin; refine wpList_append_eq rfl _ _ 32 rfl rfl rfl rfl Hap5.out ?_)
      go_ret
      refine ⟨_, rfl, ?_⟩
      have e := Hx5.out
      have e2 := Jep_all bs qs
      rw [Hql.out] at e2
      rw [e2] at e
      exact e
set_option maxHeartbeats 2000000 in
theorem c103 (tab : Nat → Int) (f : Nat → List UInt8) (hF : PrintsJ tab f) (B : Nat) (S : Nat → Prop) (bs : List UInt8) (v : Value) (ls : List (List Ln)) (a : Option Addr) (c : Nat) (w : World) (hT : Tabs tab w) (hB6 : 6 < B) (hb : Bf B w v.ownBlock v bs w)
    (hlen : bs.length + (jmpB f ls).length ≤ 72000000000000) (hok : ∀ q ∈ ls, ∀ l ∈ q, l.ok) (hS : Off S v w) (h : Rd S w (.list (ls.map Sq.fs)) (.slice a ls.length c)) :
    Calls Tryz.prog 103 #[v, .slice a ls.length c] w fun e w' => ∃ v', e = .returned v' ∧ Bf B w v.ownBlock v' (bs ++ jmpB f ls) w' := by
  unfold jmpB at hlen ⊢
  have hqj0 : ∀ j (hj : j < (ls.map (jpgB f)).length) (hj' : j < ls.length), (ls.map (jpgB f))[j] = jpgB f (ls[j]'hj') := fun j hj hj' => by simp
  have hql : (ls.map (jpgB f)).length = ls.length := by simp
  generalize ls.map (jpgB f) = qs at *
  have hmax : ls.length ≤ 17592186044416 := by obtain ⟨_, _, _, hm, _⟩ := sqs_at h; exact hm
  have hr6 : Hid (∀ j, v.ownBlock = some j → 6 < j) := Lib.hid fun j hj => by have := (hb.blk j hj).1; omega
  have hap : Hid (∀ b, S b → some b ≠ v.ownBlock) := Lib.hid (fun b hb => (hS b hb).2)
  have Hb0 := Lib.hid hb
  have Hrd : Hid (∀ (X : List UInt8) (v' : Value) (w' : World), Bf B w v.ownBlock v' X w' → Rd S w' (.list (ls.map Sq.fs)) (.slice a ls.length c)) := Lib.hid fun X v' w' hx => hx.rd h hap.out
  have Hel : Hid (∀ (X : List UInt8) (v' : Value) (j : Nat) (hj : j < ls.length) (hjq : j < qs.length) (a' : Option Addr) (c' : Nat) (w' : World), Bf B w v.ownBlock v' X w' → X.length + (qs[j]'hjq).length ≤ 72000000000000 → Rd S w' (.list ((ls[j]).map Ln.fs)) (.slice a' (ls[j]).length c') →
      Calls Tryz.prog 93 #[v', (.slice a' (ls[j]).length c')] w' fun e w2 => ∃ v2, e = .returned v2 ∧ Bf B w v.ownBlock v2 (X ++ qs[j]'hjq) w2) := Lib.hid fun X v' j hj hjq a' c' w' hx hl hel => by
    have hq := hqj0 j hjq hj
    refine (c93 tab f hF B S X v' (ls[j]) a' c' w' (hx.tabs hT hr6.out) hB6 hx.here (by rw [hq] at hl; exact Nat.le_trans hl (by decide)) (hok _ (List.getElem_mem hj)) (hx.off hS) hel).mono fun e w2 ⟨v2, he, h2⟩ => ⟨v2, he, ?_⟩
    rw [hq]
    exact hx.then h2
  have Hql := Lib.hid hql
  have HL := Lib.hid fun j => Jep_len bs qs j
  have HL2 := Lib.hid (Jep_len2 bs qs)
  have HX0 := Lib.hid hlen
  clear hb hqj0 h hlen hT hok hql
  go_enter Tryz.func103, Tryz.ntmps103
  obtain ⟨v2, w2, hap2, hx2⟩ := Hb0.out.byte 91 (by have := HX0.out; omega)
  have Hap2 := Lib.hid hap2
  have Hx2 := Lib.hid hx2; clear hx2 hap2
  go_wp2_with (at_builtin; refine wpList_append_eq rfl _ _ 32 rfl rfl rfl rfl Hap2.out ?_)
  go_loopw [0, 12] (fun v' i wr => ∃ j : Nat, j ≤ ls.length ∧ i = .int .i64 j ∧ Bf B w v.ownBlock v' (Jep bs qs j) wr) (fun _ i _ => ls.length - (intOf i).toNat)
  case atStart => exact ⟨0, Nat.zero_le _, rfl, by rw [Jep_zero]; exact Hx2.out⟩
  case round =>
    obtain ⟨j, hj, rfl, hx⟩ := hrel
    clear Hx2 Hap2
    by_cases hlt : j < ls.length
    · have hjq : j < qs.length := by have := Hql.out; omega
      have hr := Hrd.out _ _ _ hx
      obtain ⟨a0, c0, e0, hm, hat⟩ := sqs_at hr
      obtain ⟨ea, _, ec⟩ := Value.slice.inj e0
      obtain ⟨b, off, a', c', eb, hSb, hbl, q0, hel⟩ := hat j hlt
      obtain ⟨rfl⟩ : a = some ⟨b, off, none⟩ := ea.trans eb
      have hLj : (Jep bs qs j).length + 1 + (qs[j]'hjq).length ≤ 72000000000000 := by have := HL2.out j hjq; have := HX0.out; omega
      have hxe := hx
      have hele := hel
      have hap' := fun b hb => ((hx.off hS) b hb).2
      clear hx hr hat e0 hel ea eb ec
      by_cases hj0 : j = 0
      · have hd1 : decide ((0 : Int) < (j : Int)) = false := by simp; omega
        have hd2 : decide (0 < j) = false := by simp; omega
        have HS1 : Hid (Jep bs qs (j + 1) = Jep bs qs j ++ qs[j]'hjq) := Lib.hid (by subst hj0; exact Jep_one bs qs hjq)
        have He := Lib.hid hxe; have Hele := Lib.hid hele
        clear hxe hj0 hele
        go_wp2_with fail
        refine (Hel.out (Jep bs qs j) _ j hlt hjq _ _ _ He.out (by omega) Hele.out).mono ?_
        rintro _ w3 ⟨v3, rfl, hx3⟩
        have Hx3 := Lib.hid hx3
        clear hx3 q0
        go_wp2_with fail
        go_roundw
        case rel =>
          refine ⟨j + 1, by omega, by go_num, ?_⟩
          rw [HS1.out]
          exact Hx3.out
        case measure => simp [intOf]; omega
      · have hjp : 0 < j := by omega
        have hd1 : decide ((0 : Int) < (j : Int)) = true := by simpa using hjp
        have hd2 : decide (0 < j) = true := by simpa using hjp
        have Hjp := Lib.hid hjp
        obtain ⟨v4, w4, hap4, hx4⟩ := hxe.here.byte 44 (by omega)
        have Hap4 := Lib.hid hap4
        have Hele := Lib.hid (hx4.rd hele hap')
        have Hx4 := Lib.hid (hxe.then hx4)
        clear hxe hap4 hx4 hj0 hjp hele
        go_wp2_with (at_builtin; refine wpList_append_eq rfl _ _ 32 rfl rfl rfl rfl Hap4.out ?_)
        refine (Hel.out (Jep bs qs j ++ [44]) _ j hlt hjq _ _ _ Hx4.out (by simp only [List.length_append, List.length_cons, List.length_nil]; omega) Hele.out).mono ?_
        rintro _ w3 ⟨v3, rfl, hx3⟩
        have Hx3 := Lib.hid hx3
        clear hx3 q0
        go_wp2_with fail
        go_roundw
        case rel =>
          refine ⟨j + 1, by omega, by go_num, ?_⟩
          rw [Jep_step bs qs j hjq Hjp.out]
          exact Hx3.out
        case measure => simp [intOf]; omega
    · obtain rfl : j = ls.length := by omega
      have hdl : decide (((ls.length : Nat) : Int) < ls.length) = false := by simp
      obtain ⟨v5, w5, hap5, hx5⟩ := hx.byte 93 (by have := HL.out ls.length; have := HX0.out; omega)
      have Hap5 := Lib.hid hap5; have Hx5 := Lib.hid hx5
      clear hx hap5 hx5
      go_wp2_with (at_builtin; refine wpList_append_eq rfl _ _ 32 rfl rfl rfl rfl Hap5.out ?_)
      go_ret
      refine ⟨_, rfl, ?_⟩
      have e := Hx5.out
      have e2 := Jep_all bs qs
      rw [Hql.out] at e2
      rw [e2] at e
      exact e
end Go.Proofs.YtahnhhkbdgaidaaGreatDoor
