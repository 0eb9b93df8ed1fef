/-
  Texts of multi geometries as the program appends them.
-/
import Derived.Test.YtahnhhkbdgaidaaGreatDoorCl
namespace Go.Proofs.YtahnhhkbdgaidaaGreatDoor
open Go.RowKit
set_option maxRecDepth 100000
theorem Bf.fresh {B : Nat} {W w : World} {r : Option Nat} {v : Value} {bs : List UInt8} (h : Bf B W r v bs w) : some w.heap.size ≠ v.ownBlock := fun e => by have := (h.blk _ e.symm).2; omega
set_option maxHeartbeats 4000000 in
theorem c131 (tab : Nat → Int) (f : Nat → List UInt8) (hF : Prints tab f) (B : Nat) (S : Nat → Prop) (bs : List UInt8) (v : Value) (ls : List Pt) (t : Int) (a : Option Addr) (c : Nat) (w : World) (hT : Tabs tab w) (hB6 : 6 < B) (hb : Bf B w v.ownBlock v bs w)
    (hlen : bs.length + (nameB 4 t (wrapB (ls.map (ptB f)))).length ≤ 70000000000000) (hok : ∀ p ∈ ls, p.ok) (h0 : 0 ≤ t) (h1 : t ≤ 3) (hS : ∀ b, S b → b < B) (h : Rd S w (.list (ls.map Pt.fs)) (.slice a ls.length c)) :
    Calls Tryz.prog 131 #[.agg #[.slice a ls.length c, .int .u8 t], v] w fun e w' => ∃ v', e = .returned v' ∧ Bf B w v.ownBlock v' (bs ++ nameB 4 t (wrapB (ls.map (ptB f)))) w' := by
  have hnl : (nameB 4 t (wrapB (ls.map (ptB f)))).length = (kindName 4).length + (hdrB t).length + (if t = 0 ∧ wrapB (ls.map (ptB f)) = emptyW then ([32] : List UInt8) else []).length + (wrapB (ls.map (ptB f))).length := by
    unfold nameB; simp only [List.length_append]
  have hX0 : (bs ++ kindName 4 ++ hdrB t).length + (wrapB (ls.map (ptB f))).length ≤ 70000000000000 := by
    rw [hnl] at hlen; simp only [List.length_append]; omega
  have hfin := tailB_name bs 4 t (wrapB (ls.map (ptB f))) h0 h1
  have hqj0 : ∀ j (hj : j < (ls.map (ptB f)).length) (hj' : j < ls.length), (ls.map (ptB f))[j] = ptB f (ls[j]'hj') := fun j hj hj' => by simp
  have hql : (ls.map (ptB f)).length = ls.length := by simp
  generalize ls.map (ptB f) = qs at *
  generalize hNN : nameB 4 t (wrapB qs) = NN at *
  have hlen178 : bs.length ≤ 100000000000000 := by omega
  have hbW := hb.alloc (.cells #[.slice a ls.length c, .int .u8 t] 77)
  have hTW := hT.blw (bl_a1 w (.cells #[.slice a ls.length c, .int .u8 t] 77))
  have hLW := Lb.new w #[.slice a ls.length c, .int .u8 t] 77
  have hrW := h.alloc (.cells #[.slice a ls.length c, .int .u8 t] 77)
  have hmax : ls.length ≤ 17592186044416 := by obtain ⟨_, _, _, hm, _⟩ := pts_at h; exact hm
  have hne : Hid (some w.heap.size ≠ v.ownBlock) := Lib.hid fun e => by have := (hb.blk _ e.symm).2; omega
  have hr6 : Hid (∀ j, v.ownBlock = some j → 6 < j) := Lib.hid fun j hj => by have := (hb.blk j hj).1; omega
  have hap : Hid (∀ b, S b → some b ≠ v.ownBlock) := Lib.hid (hb.apart hS)
  have hb0 := hbW.here
  have HW := Lib.hid hbW
  have hWW : w.alloc (.cells #[.slice a ls.length c, .int .u8 t] 77) = w.alloc (.cells #[.slice a ls.length c, .int .u8 t] 77) := rfl
  generalize hWW' : w.alloc (.cells #[.slice a ls.length c, .int .u8 t] 77) = W at hb0 HW hbW hTW hLW hrW
  have H178 : Hid (∀ w', Bf B W v.ownBlock v bs w' → Calls Tryz.prog 178 #[v, .string ⟨#[77, 85, 76, 84, 73, 80, 79, 73, 78, 84]⟩, .int .u8 t] w' fun e w2 => ∃ v2, e = .returned v2 ∧ Bf B W v.ownBlock v2 (bs ++ kindName 4 ++ hdrB t) w2) := Lib.hid fun w' hx =>
    (c178 B bs v ⟨#[77, 85, 76, 84, 73, 80, 79, 73, 78, 84]⟩ t w' hx.here hlen178 (by show #[77, 85, 76, 84, 73, 80, 79, 73, 78, 84].size ≤ 1000; simp) h0 h1).mono fun e w2 ⟨v2, he, h2⟩ => ⟨v2, he, hx.then h2⟩
  have Hb0 := Lib.hid hb0
  have Hlb : Hid (∀ (X : List UInt8) (v' : Value) (w' : World), Bf B W v.ownBlock v' X w' → Lb w' w.heap.size #[.slice a ls.length c, .int .u8 t] 77) := Lib.hid fun X v' w' hx => hx.lb hLW hne.out
  have Hrd : Hid (∀ (X : List UInt8) (v' : Value) (w' : World), Bf B W v.ownBlock v' X w' → Rd S w' (.list (ls.map Pt.fs)) (.slice a ls.length c)) := Lib.hid fun X v' w' hx => hx.rd hrW hap.out
  have H179 : Hid (∀ (X : List UInt8) (v' : Value) (w' : World), Bf B W v.ownBlock v' X w' → X.length ≤ 100000000000000 → Calls Tryz.prog 179 #[v'] w' fun e w2 => ∃ v2, e = .returned v2 ∧ Bf B W v.ownBlock v2 (X ++ emptyB X) w2) := Lib.hid fun X v' w' hx hl =>
    (c179 B X v' w' hx.here hl).mono fun e w2 ⟨v2, he, h2⟩ => ⟨v2, he, hx.then h2⟩
  have Hel : Hid (∀ (X : List UInt8) (s : UInt8) (v' : Value) (j : Nat) (hj : j < ls.length) (hjq : j < qs.length) (w' : World), s = 40 ∨ s = 44 ∨ s = 32 → Bf B W v.ownBlock v' (X ++ [s]) w' → (X ++ [s]).length + (qs[j]'hjq).length ≤ 70000000000000 → True →
      Calls Tryz.prog 181 #[.agg #[.float .f64 (ls[j]).c.x, .float .f64 (ls[j]).c.y, .float .f64 (ls[j]).c.z, .float .f64 (ls[j]).c.m, .int .u8 (ls[j]).c.t, .bool (ls[j]).full], v'] w' fun e w2 => ∃ v2, e = .returned v2 ∧ Bf B W v.ownBlock v2 (X ++ [s] ++ qs[j]'hjq) w2) := Lib.hid fun X s v' j hj hjq  w' hs hx hl hel => by
    have hq := hqj0 j hjq hj
    refine (c181 tab f hF B (X ++ [s]) v' ls[j] w' (hx.tabs hTW hr6.out) hB6 hx.here (by omega) (hok _ (List.getElem_mem hj))).mono fun e w2 ⟨v2, he, h2⟩ => ⟨v2, he, ?_⟩
    have h3 := hx.then h2
    rw [hq]
    rw [tailB_sep _ _ s hs] at h3
    exact h3
  have HX0 := Lib.hid hX0
  have Hql := Lib.hid hql
  have Hfin := Lib.hid hfin
  have hkl : Hid ((bs ++ kindName 4 ++ hdrB t).length ≤ 70000000000000) := Lib.hid (by omega)
  clear hb hTW hLW hrW hb0 hqj0 h hnl hX0 hfin hlen hNN hWW hlen178 hbW hT hok
  obtain ⟨n, hn⟩ : ∃ n, n = ls.length := ⟨_, rfl⟩
  have hsf := st_float
  by_cases hz : ls.length = 0
  · have hb1 : ((ls.length : Int) == 0) = true := by rw [hz]; rfl
    have Hz : Hid (wrapB qs = emptyW) := Lib.hid ((wrap_eq qs).2 (Hql.out.trans hz))
    clear hz hql hn
    subst hWW'
    go_enter Tryz.func131, Tryz.ntmps131
    go_wp2_with fail
    refine (c151 _ _ _ _ _).mono ?_
    rintro _ wq ⟨rfl, hbq⟩
    replace Hb0 := Lib.hid (Hb0.out.step hbq)
    clear hbq
    go_wp2_with fail
    refine (H178.out _ Hb0.out).mono ?_
    rintro _ w1 ⟨v1, rfl, hx1⟩
    have L1 := (Hlb.out _ _ _ hx1).use
    obtain ⟨kb, _, _⟩ := L1
    have Hx1 := Lib.hid hx1; clear hx1
    go_wp2_with fail
    refine (H179.out _ _ _ Hx1.out (by have := hkl.out; omega)).mono ?_
    rintro _ w2 ⟨v2, rfl, hx2⟩
    have Hx2 := Lib.hid hx2; clear hx2
    go_wp2_with fail
    go_ret
    refine ⟨_, rfl, ?_⟩
    have e := HW.out.then Hx2.out
    have ef := Hfin.out
    rw [Hz.out, tailB_empty] at ef
    rw [ef] at e
    exact e
  · have hb1 : ((ls.length : Int) == 0) = false := by rw [beq_eq_false_iff_ne]; omega
    have Hz : Hid (tailB (bs ++ kindName 4 ++ hdrB t) (wrapB qs) = wrapB qs) := Lib.hid (tailB_full _ (wrap_ne qs (by have := Hql.out; omega)))
    have Hnz : Hid (qs.length ≠ 0) := Lib.hid (by have := Hql.out; omega)
    generalize bs ++ kindName 4 ++ hdrB t = X at *
    have HL := Lib.hid fun j => Sep_len X qs j Hnz.out
    have HL2 := Lib.hid (Sep_len2 X qs)
    clear hql hn
    subst hWW'
    go_enter Tryz.func131, Tryz.ntmps131
    go_wp2_with fail
    refine (c151 _ _ _ _ _).mono ?_
    rintro _ wq ⟨rfl, hbq⟩
    replace Hb0 := Lib.hid (Hb0.out.step hbq)
    clear hbq
    go_wp2_with fail
    refine (H178.out _ Hb0.out).mono ?_
    rintro _ w1 ⟨v1, rfl, hx1⟩
    have hx1 : Bf B (w.alloc (.cells #[.slice a ls.length c, .int .u8 t] 77)) v.ownBlock v1 X w1 := by assumption
    obtain ⟨v2, w2, hap2, hx2⟩ := hx1.byte 40 (by have := HX0.out; omega)
    have L1 := (Hlb.out _ _ _ hx1).use
    have L2 := (Hlb.out _ _ _ hx2).use
    obtain ⟨kb, _, _⟩ := L1
    obtain ⟨kb2, _, _⟩ := L2
    have Hap2 := Lib.hid hap2
    have Hx2 := Lib.hid hx2; clear hx1 hx2 hap2
    go_wp2_with (at_builtin; refine wpList_append_eq rfl _ _ 32 rfl rfl rfl rfl Hap2.out ?_)
    go_loopw [1, 23] (fun v' i wr => ∃ j : Nat, j ≤ ls.length ∧ i = .int .i64 j ∧ Bf B (w.alloc (.cells #[.slice a ls.length c, .int .u8 t] 77)) v.ownBlock v' (Sep X qs j) wr) (fun _ i _ => ls.length - (intOf i).toNat)
    case atStart => exact ⟨0, Nat.zero_le _, rfl, by rw [Sep_zero]; exact Hx2.out⟩
    case round =>
      obtain ⟨j, hj, rfl, hx⟩ := hrel
      clear kb kb2 Hx2
      by_cases hlt : j < ls.length
      · have hr := Hrd.out _ _ _ hx
        obtain ⟨a0, c0, e0, hm, hat⟩ := pts_at hr
        obtain ⟨rfl, _, rfl⟩ := Value.slice.inj e0
        obtain ⟨b, off, rfl, hSb, hbl, q0, q1, q2, q3, q4, q5⟩ := hat j hlt
        have hLj : (Sep X qs j).length + 1 + (qs[j]'(by have := Hql.out; omega)).length ≤ 70000000000000 := by have := HL2.out j (by have := Hql.out; omega); have := HX0.out; omega
        have Hx := Lib.hid hx
        have hxe := hx.alloc (.cells #[.float .f64 (ls[j]).c.x, .float .f64 (ls[j]).c.y, .float .f64 (ls[j]).c.z, .float .f64 (ls[j]).c.m, .int .u8 (ls[j]).c.t, .bool (ls[j]).full] 63)
        have hLe := Lb.new wr #[.float .f64 (ls[j]).c.x, .float .f64 (ls[j]).c.y, .float .f64 (ls[j]).c.z, .float .f64 (ls[j]).c.m, .int .u8 (ls[j]).c.t, .bool (ls[j]).full] 63
        have hown := hx.fresh
        have hjq : j < qs.length := by have := Hql.out; omega
        skip
        clear hx hr hat e0
        by_cases hj0 : j = 0
        · have hd1 : decide ((0 : Int) < (j : Int)) = false := by simp; omega
          have hd2 : decide (0 < j) = false := by simp; omega
          have HS0 : Hid (Sep X qs j = X ++ [40]) := Lib.hid (by rw [hj0, Sep_zero])
          have HS1 : Hid (Sep X qs (j + 1) = X ++ [40] ++ qs[j]'hjq) := Lib.hid (by subst hj0; exact Sep_one X qs (by have := Hql.out; omega))
          have He := Lib.hid hxe; clear hxe hj0
          rw [HS0.out] at He hLj
          go_wp2_with fail
          refine (Hel.out X 40 _ j hlt (by have := Hql.out; omega)  _ (by simp) He.out (by omega) trivial).mono ?_
          rintro _ w3 ⟨v3, rfl, hx3⟩
          have Hx3 := Lib.hid hx3
          clear hx3 q0 q1 q2 q3 q4 q5
          go_wp2_with fail
          go_roundw
          case rel =>
            refine ⟨j + 1, by omega, by go_num, ?_⟩
            rw [HS1.out]
            exact Hx3.out
          case measure => simp [intOf]; omega
        · have hjp : 0 < j := by omega
          have hd1 : decide ((0 : Int) < (j : Int)) = true := by simpa using hjp
          have hd2 : decide (0 < j) = true := by simpa using hjp
          have Hjp := Lib.hid hjp
          obtain ⟨v4, w4, hap4, hx4⟩ := hxe.here.byte 44 (by omega)
          rw [World.size_alloc] at hap4
          have Hap4 := Lib.hid hap4
          have L4 := (hx4.lb hLe hown).use
          obtain ⟨k4, _, _⟩ := L4
          have Hx4 := Lib.hid (hxe.then hx4)
          skip
          clear hxe hLe hap4 hx4 hj0 hjp
          go_wp2_with (at_builtin; refine wpList_append_eq rfl _ _ 32 rfl rfl rfl rfl Hap4.out ?_)
          refine (Hel.out (Sep X qs j) 44 _ j hlt (by have := Hql.out; omega)  _ (by simp) Hx4.out (by simp only [List.length_append, List.length_cons, List.length_nil]; omega) trivial).mono ?_
          rintro _ w3 ⟨v3, rfl, hx3⟩
          have Hx3 := Lib.hid hx3
          clear hx3 k4 q0 q1 q2 q3 q4 q5
          go_wp2_with fail
          go_roundw
          case rel =>
            refine ⟨j + 1, by omega, by go_num, ?_⟩
            rw [Sep_step X qs j (by have := Hql.out; omega) Hjp.out]
            exact Hx3.out
          case measure => simp [intOf]; omega
      · obtain rfl : j = ls.length := by omega
        have hdl : decide (((ls.length : Nat) : Int) < ls.length) = false := by simp
        obtain ⟨v5, w5, hap5, hx5⟩ := hx.byte 41 (by have := HL.out ls.length; have := HX0.out; omega)
        have Hap5 := Lib.hid hap5; have Hx5 := Lib.hid hx5
        clear hx hap5 hx5
        go_wp2_with (at_builtin; refine wpList_append_eq rfl _ _ 32 rfl rfl rfl rfl Hap5.out ?_)
        go_ret
        refine ⟨_, rfl, ?_⟩
        have e := HW.out.then Hx5.out
        have e2 := Sep_all X qs Hnz.out
        rw [Hql.out] at e2
        rw [e2] at e
        have ef := Hfin.out
        rw [Hz.out] at ef
        rw [ef] at e
        exact e
set_option maxHeartbeats 4000000 in
theorem c132 (tab : Nat → Int) (f : Nat → List UInt8) (hF : Prints tab f) (B : Nat) (S : Nat → Prop) (bs : List UInt8) (v : Value) (ls : List Ln) (t : Int) (a : Option Addr) (c : Nat) (w : World) (hT : Tabs tab w) (hB6 : 6 < B) (hb : Bf B w v.ownBlock v bs w)
    (hlen : bs.length + (nameB 5 t (wrapB (ls.map (lnB f)))).length ≤ 70000000000000) (hok : ∀ p ∈ ls, p.ok) (h0 : 0 ≤ t) (h1 : t ≤ 3) (hS : ∀ b, S b → b < B) (h : Rd S w (.list (ls.map Ln.fs)) (.slice a ls.length c)) :
    Calls Tryz.prog 132 #[.agg #[.slice a ls.length c, .int .u8 t], v] w fun e w' => ∃ v', e = .returned v' ∧ Bf B w v.ownBlock v' (bs ++ nameB 5 t (wrapB (ls.map (lnB f)))) w' := by
  have hnl : (nameB 5 t (wrapB (ls.map (lnB f)))).length = (kindName 5).length + (hdrB t).length + (if t = 0 ∧ wrapB (ls.map (lnB f)) = emptyW then ([32] : List UInt8) else []).length + (wrapB (ls.map (lnB f))).length := by
    unfold nameB; simp only [List.length_append]
  have hX0 : (bs ++ kindName 5 ++ hdrB t).length + (wrapB (ls.map (lnB f))).length ≤ 70000000000000 := by
    rw [hnl] at hlen; simp only [List.length_append]; omega
  have hfin := tailB_name bs 5 t (wrapB (ls.map (lnB f))) h0 h1
  have hqj0 : ∀ j (hj : j < (ls.map (lnB f)).length) (hj' : j < ls.length), (ls.map (lnB f))[j] = lnB f (ls[j]'hj') := fun j hj hj' => by simp
  have hql : (ls.map (lnB f)).length = ls.length := by simp
  generalize ls.map (lnB f) = qs at *
  generalize hNN : nameB 5 t (wrapB qs) = NN at *
  have hlen178 : bs.length ≤ 100000000000000 := by omega
  have hbW := hb.alloc (.cells #[.slice a ls.length c, .int .u8 t] 80)
  have hTW := hT.blw (bl_a1 w (.cells #[.slice a ls.length c, .int .u8 t] 80))
  have hLW := Lb.new w #[.slice a ls.length c, .int .u8 t] 80
  have hrW := h.alloc (.cells #[.slice a ls.length c, .int .u8 t] 80)
  have hmax : ls.length ≤ 17592186044416 := by obtain ⟨_, _, _, hm, _⟩ := lines_at h; exact hm
  have hne : Hid (some w.heap.size ≠ v.ownBlock) := Lib.hid fun e => by have := (hb.blk _ e.symm).2; omega
  have hr6 : Hid (∀ j, v.ownBlock = some j → 6 < j) := Lib.hid fun j hj => by have := (hb.blk j hj).1; omega
  have hap : Hid (∀ b, S b → some b ≠ v.ownBlock) := Lib.hid (hb.apart hS)
  have hb0 := hbW.here
  have HW := Lib.hid hbW
  have hWW : w.alloc (.cells #[.slice a ls.length c, .int .u8 t] 80) = w.alloc (.cells #[.slice a ls.length c, .int .u8 t] 80) := rfl
  generalize hWW' : w.alloc (.cells #[.slice a ls.length c, .int .u8 t] 80) = W at hb0 HW hbW hTW hLW hrW
  have H178 : Hid (∀ w', Bf B W v.ownBlock v bs w' → Calls Tryz.prog 178 #[v, .string ⟨#[77, 85, 76, 84, 73, 76, 73, 78, 69, 83, 84, 82, 73, 78, 71]⟩, .int .u8 t] w' fun e w2 => ∃ v2, e = .returned v2 ∧ Bf B W v.ownBlock v2 (bs ++ kindName 5 ++ hdrB t) w2) := Lib.hid fun w' hx =>
    (c178 B bs v ⟨#[77, 85, 76, 84, 73, 76, 73, 78, 69, 83, 84, 82, 73, 78, 71]⟩ t w' hx.here hlen178 (by show #[77, 85, 76, 84, 73, 76, 73, 78, 69, 83, 84, 82, 73, 78, 71].size ≤ 1000; simp) h0 h1).mono fun e w2 ⟨v2, he, h2⟩ => ⟨v2, he, hx.then h2⟩
  have Hb0 := Lib.hid hb0
  have Hlb : Hid (∀ (X : List UInt8) (v' : Value) (w' : World), Bf B W v.ownBlock v' X w' → Lb w' w.heap.size #[.slice a ls.length c, .int .u8 t] 80) := Lib.hid fun X v' w' hx => hx.lb hLW hne.out
  have Hrd : Hid (∀ (X : List UInt8) (v' : Value) (w' : World), Bf B W v.ownBlock v' X w' → Rd S w' (.list (ls.map Ln.fs)) (.slice a ls.length c)) := Lib.hid fun X v' w' hx => hx.rd hrW hap.out
  have H179 : Hid (∀ (X : List UInt8) (v' : Value) (w' : World), Bf B W v.ownBlock v' X w' → X.length ≤ 100000000000000 → Calls Tryz.prog 179 #[v'] w' fun e w2 => ∃ v2, e = .returned v2 ∧ Bf B W v.ownBlock v2 (X ++ emptyB X) w2) := Lib.hid fun X v' w' hx hl =>
    (c179 B X v' w' hx.here hl).mono fun e w2 ⟨v2, he, h2⟩ => ⟨v2, he, hx.then h2⟩
  have Hel : Hid (∀ (X : List UInt8) (s : UInt8) (v' : Value) (j : Nat) (hj : j < ls.length) (hjq : j < qs.length) (a' : Option Addr) (c' : Nat) (w' : World), s = 40 ∨ s = 44 ∨ s = 32 → Bf B W v.ownBlock v' (X ++ [s]) w' → (X ++ [s]).length + (qs[j]'hjq).length ≤ 70000000000000 → Rd S w' (fl (ls[j]).xs) (.slice a' (ls[j]).xs.length c') →
      Calls Tryz.prog 182 #[.agg #[.int .u8 (ls[j]).t, .slice a' (ls[j]).xs.length c'], v'] w' fun e w2 => ∃ v2, e = .returned v2 ∧ Bf B W v.ownBlock v2 (X ++ [s] ++ qs[j]'hjq) w2) := Lib.hid fun X s v' j hj hjq a' c' w' hs hx hl hel => by
    have hq := hqj0 j hjq hj
    refine (c182 tab f hF B S (X ++ [s]) v' ls[j] a' c' w' (hx.tabs hTW hr6.out) hB6 hx.here (by rw [hq] at hl; omega) (hok _ (List.getElem_mem hj)) hS hel).mono fun e w2 ⟨v2, he, h2⟩ => ⟨v2, he, ?_⟩
    have h3 := hx.then h2
    rw [hq]
    rw [tailB_sep _ _ s hs] at h3
    exact h3
  have HX0 := Lib.hid hX0
  have Hql := Lib.hid hql
  have Hfin := Lib.hid hfin
  have hkl : Hid ((bs ++ kindName 5 ++ hdrB t).length ≤ 70000000000000) := Lib.hid (by omega)
  clear hb hTW hLW hrW hb0 hqj0 h hnl hX0 hfin hlen hNN hWW hlen178 hbW hT hok
  obtain ⟨n, hn⟩ : ∃ n, n = ls.length := ⟨_, rfl⟩
  skip
  by_cases hz : ls.length = 0
  · have hb1 : ((ls.length : Int) == 0) = true := by rw [hz]; rfl
    have Hz : Hid (wrapB qs = emptyW) := Lib.hid ((wrap_eq qs).2 (Hql.out.trans hz))
    clear hz hql hn
    subst hWW'
    go_enter Tryz.func132, Tryz.ntmps132
    go_wp2_with fail
    refine (H178.out _ Hb0.out).mono ?_
    rintro _ w1 ⟨v1, rfl, hx1⟩
    have L1 := (Hlb.out _ _ _ hx1).use
    obtain ⟨kb, _, _⟩ := L1
    have Hx1 := Lib.hid hx1; clear hx1
    go_wp2_with fail
    refine (H179.out _ _ _ Hx1.out (by have := hkl.out; omega)).mono ?_
    rintro _ w2 ⟨v2, rfl, hx2⟩
    have Hx2 := Lib.hid hx2; clear hx2
    go_wp2_with fail
    go_ret
    refine ⟨_, rfl, ?_⟩
    have e := HW.out.then Hx2.out
    have ef := Hfin.out
    rw [Hz.out, tailB_empty] at ef
    rw [ef] at e
    exact e
  · have hb1 : ((ls.length : Int) == 0) = false := by rw [beq_eq_false_iff_ne]; omega
    have Hz : Hid (tailB (bs ++ kindName 5 ++ hdrB t) (wrapB qs) = wrapB qs) := Lib.hid (tailB_full _ (wrap_ne qs (by have := Hql.out; omega)))
    have Hnz : Hid (qs.length ≠ 0) := Lib.hid (by have := Hql.out; omega)
    generalize bs ++ kindName 5 ++ hdrB t = X at *
    have HL := Lib.hid fun j => Sep_len X qs j Hnz.out
    have HL2 := Lib.hid (Sep_len2 X qs)
    clear hql hn
    subst hWW'
    go_enter Tryz.func132, Tryz.ntmps132
    go_wp2_with fail
    refine (H178.out _ Hb0.out).mono ?_
    rintro _ w1 ⟨v1, rfl, hx1⟩
    have hx1 : Bf B (w.alloc (.cells #[.slice a ls.length c, .int .u8 t] 80)) v.ownBlock v1 X w1 := by assumption
    obtain ⟨v2, w2, hap2, hx2⟩ := hx1.byte 40 (by have := HX0.out; omega)
    have L1 := (Hlb.out _ _ _ hx1).use
    have L2 := (Hlb.out _ _ _ hx2).use
    obtain ⟨kb, _, _⟩ := L1
    obtain ⟨kb2, _, _⟩ := L2
    have Hap2 := Lib.hid hap2
    have Hx2 := Lib.hid hx2; clear hx1 hx2 hap2
    go_wp2_with (at_builtin; refine wpList_append_eq rfl _ _ 32 rfl rfl rfl rfl Hap2.out ?_)
    go_loopw [1, 23] (fun v' i wr => ∃ j : Nat, j ≤ ls.length ∧ i = .int .i64 j ∧ Bf B (w.alloc (.cells #[.slice a ls.length c, .int .u8 t] 80)) v.ownBlock v' (Sep X qs j) wr) (fun _ i _ => ls.length - (intOf i).toNat)
    case atStart => exact ⟨0, Nat.zero_le _, rfl, by rw [Sep_zero]; exact Hx2.out⟩
    case round =>
      obtain ⟨j, hj, rfl, hx⟩ := hrel
      clear kb kb2 Hx2
      by_cases hlt : j < ls.length
      · have hr := Hrd.out _ _ _ hx
        obtain ⟨a0, c0, e0, hm, hat⟩ := lines_at hr
        obtain ⟨rfl, _, rfl⟩ := Value.slice.inj e0
        obtain ⟨b, off, a', c', rfl, hSb, hbl, q0, q1, hel⟩ := hat j hlt
        have hLj : (Sep X qs j).length + 1 + (qs[j]'(by have := Hql.out; omega)).length ≤ 70000000000000 := by have := HL2.out j (by have := Hql.out; omega); have := HX0.out; omega
        have Hx := Lib.hid hx
        have hxe := hx.alloc (.cells #[.int .u8 (ls[j]).t, .slice a' (ls[j]).xs.length c'] 69)
        have hLe := Lb.new wr #[.int .u8 (ls[j]).t, .slice a' (ls[j]).xs.length c'] 69
        have hown := hx.fresh
        have hjq : j < qs.length := by have := Hql.out; omega
        have Hele := Lib.hid (Rd.alloc hel (.cells #[.int .u8 (ls[j]).t, .slice a' (ls[j]).xs.length c'] 69))
        clear hx hr hat e0 hel
        by_cases hj0 : j = 0
        · have hd1 : decide ((0 : Int) < (j : Int)) = false := by simp; omega
          have hd2 : decide (0 < j) = false := by simp; omega
          have HS0 : Hid (Sep X qs j = X ++ [40]) := Lib.hid (by rw [hj0, Sep_zero])
          have HS1 : Hid (Sep X qs (j + 1) = X ++ [40] ++ qs[j]'hjq) := Lib.hid (by subst hj0; exact Sep_one X qs (by have := Hql.out; omega))
          have He := Lib.hid hxe; clear hxe hj0
          rw [HS0.out] at He hLj
          go_wp2_with fail
          refine (Hel.out X 40 _ j hlt (by have := Hql.out; omega) _ _ _ (by simp) He.out (by omega) Hele.out).mono ?_
          rintro _ w3 ⟨v3, rfl, hx3⟩
          have Hx3 := Lib.hid hx3
          clear hx3 q0 q1
          go_wp2_with fail
          go_roundw
          case rel =>
            refine ⟨j + 1, by omega, by go_num, ?_⟩
            rw [HS1.out]
            exact Hx3.out
          case measure => simp [intOf]; omega
        · have hjp : 0 < j := by omega
          have hd1 : decide ((0 : Int) < (j : Int)) = true := by simpa using hjp
          have hd2 : decide (0 < j) = true := by simpa using hjp
          have Hjp := Lib.hid hjp
          obtain ⟨v4, w4, hap4, hx4⟩ := hxe.here.byte 44 (by omega)
          rw [World.size_alloc] at hap4
          have Hap4 := Lib.hid hap4
          have L4 := (hx4.lb hLe hown).use
          obtain ⟨k4, _, _⟩ := L4
          have Hx4 := Lib.hid (hxe.then hx4)
          have Hele4 := Lib.hid (hx4.rd Hele.out (fun b hb e => by have := (Hx.out.blk b e.symm).1; have := hS b hb; omega))
          clear hxe hLe hap4 hx4 hj0 hjp
          go_wp2_with (at_builtin; refine wpList_append_eq rfl _ _ 32 rfl rfl rfl rfl Hap4.out ?_)
          refine (Hel.out (Sep X qs j) 44 _ j hlt (by have := Hql.out; omega) _ _ _ (by simp) Hx4.out (by simp only [List.length_append, List.length_cons, List.length_nil]; omega) Hele4.out).mono ?_
          rintro _ w3 ⟨v3, rfl, hx3⟩
          have Hx3 := Lib.hid hx3
          clear hx3 k4 q0 q1
          go_wp2_with fail
          go_roundw
          case rel =>
            refine ⟨j + 1, by omega, by go_num, ?_⟩
            rw [Sep_step X qs j (by have := Hql.out; omega) Hjp.out]
            exact Hx3.out
          case measure => simp [intOf]; omega
      · obtain rfl : j = ls.length := by omega
        have hdl : decide (((ls.length : Nat) : Int) < ls.length) = false := by simp
        obtain ⟨v5, w5, hap5, hx5⟩ := hx.byte 41 (by have := HL.out ls.length; have := HX0.out; omega)
        have Hap5 := Lib.hid hap5; have Hx5 := Lib.hid hx5
        clear hx hap5 hx5
        go_wp2_with (at_builtin; refine wpList_append_eq rfl _ _ 32 rfl rfl rfl rfl Hap5.out ?_)
        go_ret
        refine ⟨_, rfl, ?_⟩
        have e := HW.out.then Hx5.out
        have e2 := Sep_all X qs Hnz.out
        rw [Hql.out] at e2
        rw [e2] at e
        have ef := Hfin.out
        rw [Hz.out] at ef
        rw [ef] at e
        exact e
set_option maxHeartbeats 4000000 in
theorem c133 (tab : Nat → Int) (f : Nat → List UInt8) (hF : Prints tab f) (B : Nat) (S : Nat → Prop) (bs : List UInt8) (v : Value) (ls : List Pg) (t : Int) (a : Option Addr) (c : Nat) (w : World) (hT : Tabs tab w) (hB6 : 6 < B) (hb : Bf B w v.ownBlock v bs w)
    (hlen : bs.length + (nameB 6 t (wrapB (ls.map (pgB f)))).length ≤ 70000000000000) (hok : ∀ p ∈ ls, p.ok) (h0 : 0 ≤ t) (h1 : t ≤ 3) (hS : ∀ b, S b → b < B) (h : Rd S w (.list (ls.map Pg.fs)) (.slice a ls.length c)) :
    Calls Tryz.prog 133 #[.agg #[.slice a ls.length c, .int .u8 t], v] w fun e w' => ∃ v', e = .returned v' ∧ Bf B w v.ownBlock v' (bs ++ nameB 6 t (wrapB (ls.map (pgB f)))) w' := by
  have hnl : (nameB 6 t (wrapB (ls.map (pgB f)))).length = (kindName 6).length + (hdrB t).length + (if t = 0 ∧ wrapB (ls.map (pgB f)) = emptyW then ([32] : List UInt8) else []).length + (wrapB (ls.map (pgB f))).length := by
    unfold nameB; simp only [List.length_append]
  have hX0 : (bs ++ kindName 6 ++ hdrB t).length + (wrapB (ls.map (pgB f))).length ≤ 70000000000000 := by
    rw [hnl] at hlen; simp only [List.length_append]; omega
  have hfin := tailB_name bs 6 t (wrapB (ls.map (pgB f))) h0 h1
  have hqj0 : ∀ j (hj : j < (ls.map (pgB f)).length) (hj' : j < ls.length), (ls.map (pgB f))[j] = pgB f (ls[j]'hj') := fun j hj hj' => by simp
  have hql : (ls.map (pgB f)).length = ls.length := by simp
  generalize ls.map (pgB f) = qs at *
  generalize hNN : nameB 6 t (wrapB qs) = NN at *
  have hlen178 : bs.length ≤ 100000000000000 := by omega
  have hbW := hb.alloc (.cells #[.slice a ls.length c, .int .u8 t] 84)
  have hTW := hT.blw (bl_a1 w (.cells #[.slice a ls.length c, .int .u8 t] 84))
  have hLW := Lb.new w #[.slice a ls.length c, .int .u8 t] 84
  have hrW := h.alloc (.cells #[.slice a ls.length c, .int .u8 t] 84)
  have hmax : ls.length ≤ 17592186044416 := by obtain ⟨_, _, _, hm, _⟩ := pgs_at h; exact hm
  have hne : Hid (some w.heap.size ≠ v.ownBlock) := Lib.hid fun e => by have := (hb.blk _ e.symm).2; omega
  have hr6 : Hid (∀ j, v.ownBlock = some j → 6 < j) := Lib.hid fun j hj => by have := (hb.blk j hj).1; omega
  have hap : Hid (∀ b, S b → some b ≠ v.ownBlock) := Lib.hid (hb.apart hS)
  have hb0 := hbW.here
  have HW := Lib.hid hbW
  have hWW : w.alloc (.cells #[.slice a ls.length c, .int .u8 t] 84) = w.alloc (.cells #[.slice a ls.length c, .int .u8 t] 84) := rfl
  generalize hWW' : w.alloc (.cells #[.slice a ls.length c, .int .u8 t] 84) = W at hb0 HW hbW hTW hLW hrW
  have H178 : Hid (∀ w', Bf B W v.ownBlock v bs w' → Calls Tryz.prog 178 #[v, .string ⟨#[77, 85, 76, 84, 73, 80, 79, 76, 89, 71, 79, 78]⟩, .int .u8 t] w' fun e w2 => ∃ v2, e = .returned v2 ∧ Bf B W v.ownBlock v2 (bs ++ kindName 6 ++ hdrB t) w2) := Lib.hid fun w' hx =>
    (c178 B bs v ⟨#[77, 85, 76, 84, 73, 80, 79, 76, 89, 71, 79, 78]⟩ t w' hx.here hlen178 (by show #[77, 85, 76, 84, 73, 80, 79, 76, 89, 71, 79, 78].size ≤ 1000; simp) h0 h1).mono fun e w2 ⟨v2, he, h2⟩ => ⟨v2, he, hx.then h2⟩
  have Hb0 := Lib.hid hb0
  have Hlb : Hid (∀ (X : List UInt8) (v' : Value) (w' : World), Bf B W v.ownBlock v' X w' → Lb w' w.heap.size #[.slice a ls.length c, .int .u8 t] 84) := Lib.hid fun X v' w' hx => hx.lb hLW hne.out
  have Hrd : Hid (∀ (X : List UInt8) (v' : Value) (w' : World), Bf B W v.ownBlock v' X w' → Rd S w' (.list (ls.map Pg.fs)) (.slice a ls.length c)) := Lib.hid fun X v' w' hx => hx.rd hrW hap.out
  have H179 : Hid (∀ (X : List UInt8) (v' : Value) (w' : World), Bf B W v.ownBlock v' X w' → X.length ≤ 100000000000000 → Calls Tryz.prog 179 #[v'] w' fun e w2 => ∃ v2, e = .returned v2 ∧ Bf B W v.ownBlock v2 (X ++ emptyB X) w2) := Lib.hid fun X v' w' hx hl =>
    (c179 B X v' w' hx.here hl).mono fun e w2 ⟨v2, he, h2⟩ => ⟨v2, he, hx.then h2⟩
  have Hel : Hid (∀ (X : List UInt8) (s : UInt8) (v' : Value) (j : Nat) (hj : j < ls.length) (hjq : j < qs.length) (a' : Option Addr) (c' : Nat) (w' : World), s = 40 ∨ s = 44 ∨ s = 32 → Bf B W v.ownBlock v' (X ++ [s]) w' → (X ++ [s]).length + (qs[j]'hjq).length ≤ 70000000000000 → Rd S w' (.list ((ls[j]).rings.map Ln.fs)) (.slice a' (ls[j]).rings.length c') →
      Calls Tryz.prog 183 #[.agg #[.slice a' (ls[j]).rings.length c', .int .u8 (ls[j]).t], v'] w' fun e w2 => ∃ v2, e = .returned v2 ∧ Bf B W v.ownBlock v2 (X ++ [s] ++ qs[j]'hjq) w2) := Lib.hid fun X s v' j hj hjq a' c' w' hs hx hl hel => by
    have hq := hqj0 j hjq hj
    refine (c183 tab f hF B S (X ++ [s]) v' ls[j] a' c' w' (hx.tabs hTW hr6.out) hB6 hx.here (by rw [hq] at hl; omega) (hok _ (List.getElem_mem hj)) hS hel).mono fun e w2 ⟨v2, he, h2⟩ => ⟨v2, he, ?_⟩
    have h3 := hx.then h2
    rw [hq]
    rw [tailB_sep _ _ s hs] at h3
    exact h3
  have HX0 := Lib.hid hX0
  have Hql := Lib.hid hql
  have Hfin := Lib.hid hfin
  have hkl : Hid ((bs ++ kindName 6 ++ hdrB t).length ≤ 70000000000000) := Lib.hid (by omega)
  clear hb hTW hLW hrW hb0 hqj0 h hnl hX0 hfin hlen hNN hWW hlen178 hbW hT hok
  obtain ⟨n, hn⟩ : ∃ n, n = ls.length := ⟨_, rfl⟩
  skip
  by_cases hz : ls.length = 0
  · have hb1 : ((ls.length : Int) == 0) = true := by rw [hz]; rfl
    have Hz : Hid (wrapB qs = emptyW) := Lib.hid ((wrap_eq qs).2 (Hql.out.trans hz))
    clear hz hql hn
    subst hWW'
    go_enter Tryz.func133, Tryz.ntmps133
    go_wp2_with fail
    refine (H178.out _ Hb0.out).mono ?_
    rintro _ w1 ⟨v1, rfl, hx1⟩
    have L1 := (Hlb.out _ _ _ hx1).use
    obtain ⟨kb, _, _⟩ := L1
    have Hx1 := Lib.hid hx1; clear hx1
    go_wp2_with fail
    refine (H179.out _ _ _ Hx1.out (by have := hkl.out; omega)).mono ?_
    rintro _ w2 ⟨v2, rfl, hx2⟩
    have Hx2 := Lib.hid hx2; clear hx2
    go_wp2_with fail
    go_ret
    refine ⟨_, rfl, ?_⟩
    have e := HW.out.then Hx2.out
    have ef := Hfin.out
    rw [Hz.out, tailB_empty] at ef
    rw [ef] at e
    exact e
  · have hb1 : ((ls.length : Int) == 0) = false := by rw [beq_eq_false_iff_ne]; omega
    have Hz : Hid (tailB (bs ++ kindName 6 ++ hdrB t) (wrapB qs) = wrapB qs) := Lib.hid (tailB_full _ (wrap_ne qs (by have := Hql.out; omega)))
    have Hnz : Hid (qs.length ≠ 0) := Lib.hid (by have := Hql.out; omega)
    generalize bs ++ kindName 6 ++ hdrB t = X at *
    have HL := Lib.hid fun j => Sep_len X qs j Hnz.out
    have HL2 := Lib.hid (Sep_len2 X qs)
    clear hql hn
    subst hWW'
    go_enter Tryz.func133, Tryz.ntmps133
    go_wp2_with fail
    refine (H178.out _ Hb0.out).mono ?_
    rintro _ w1 ⟨v1, rfl, hx1⟩
    have hx1 : Bf B (w.alloc (.cells #[.slice a ls.length c, .int .u8 t] 84)) v.ownBlock v1 X w1 := by assumption
    obtain ⟨v2, w2, hap2, hx2⟩ := hx1.byte 40 (by have := HX0.out; omega)
    have L1 := (Hlb.out _ _ _ hx1).use
    have L2 := (Hlb.out _ _ _ hx2).use
    obtain ⟨kb, _, _⟩ := L1
    obtain ⟨kb2, _, _⟩ := L2
    have Hap2 := Lib.hid hap2
    have Hx2 := Lib.hid hx2; clear hx1 hx2 hap2
    go_wp2_with (at_builtin; refine wpList_append_eq rfl _ _ 32 rfl rfl rfl rfl Hap2.out ?_)
    go_loopw [1, 23] (fun v' i wr => ∃ j : Nat, j ≤ ls.length ∧ i = .int .i64 j ∧ Bf B (w.alloc (.cells #[.slice a ls.length c, .int .u8 t] 84)) v.ownBlock v' (Sep X qs j) wr) (fun _ i _ => ls.length - (intOf i).toNat)
    case atStart => exact ⟨0, Nat.zero_le _, rfl, by rw [Sep_zero]; exact Hx2.out⟩
    case round =>
      obtain ⟨j, hj, rfl, hx⟩ := hrel
      clear kb kb2 Hx2
      by_cases hlt : j < ls.length
      · have hr := Hrd.out _ _ _ hx
        obtain ⟨a0, c0, e0, hm, hat⟩ := pgs_at hr
        obtain ⟨rfl, _, rfl⟩ := Value.slice.inj e0
        obtain ⟨b, off, a', c', rfl, hSb, hbl, q0, q1, hel⟩ := hat j hlt
        have hLj : (Sep X qs j).length + 1 + (qs[j]'(by have := Hql.out; omega)).length ≤ 70000000000000 := by have := HL2.out j (by have := Hql.out; omega); have := HX0.out; omega
        have Hx := Lib.hid hx
        have hxe := hx.alloc (.cells #[.slice a' (ls[j]).rings.length c', .int .u8 (ls[j]).t] 73)
        have hLe := Lb.new wr #[.slice a' (ls[j]).rings.length c', .int .u8 (ls[j]).t] 73
        have hown := hx.fresh
        have hjq : j < qs.length := by have := Hql.out; omega
        have Hele := Lib.hid (Rd.alloc hel (.cells #[.slice a' (ls[j]).rings.length c', .int .u8 (ls[j]).t] 73))
        clear hx hr hat e0 hel
        by_cases hj0 : j = 0
        · have hd1 : decide ((0 : Int) < (j : Int)) = false := by simp; omega
          have hd2 : decide (0 < j) = false := by simp; omega
          have HS0 : Hid (Sep X qs j = X ++ [40]) := Lib.hid (by rw [hj0, Sep_zero])
          have HS1 : Hid (Sep X qs (j + 1) = X ++ [40] ++ qs[j]'hjq) := Lib.hid (by subst hj0; exact Sep_one X qs (by have := Hql.out; omega))
          have He := Lib.hid hxe; clear hxe hj0
          rw [HS0.out] at He hLj
          go_wp2_with fail
          refine (Hel.out X 40 _ j hlt (by have := Hql.out; omega) _ _ _ (by simp) He.out (by omega) Hele.out).mono ?_
          rintro _ w3 ⟨v3, rfl, hx3⟩
          have Hx3 := Lib.hid hx3
          clear hx3 q0 q1
          go_wp2_with fail
          go_roundw
          case rel =>
            refine ⟨j + 1, by omega, by go_num, ?_⟩
            rw [HS1.out]
            exact Hx3.out
          case measure => simp [intOf]; omega
        · have hjp : 0 < j := by omega
          have hd1 : decide ((0 : Int) < (j : Int)) = true := by simpa using hjp
          have hd2 : decide (0 < j) = true := by simpa using hjp
          have Hjp := Lib.hid hjp
          obtain ⟨v4, w4, hap4, hx4⟩ := hxe.here.byte 44 (by omega)
          rw [World.size_alloc] at hap4
          have Hap4 := Lib.hid hap4
          have L4 := (hx4.lb hLe hown).use
          obtain ⟨k4, _, _⟩ := L4
          have Hx4 := Lib.hid (hxe.then hx4)
          have Hele4 := Lib.hid (hx4.rd Hele.out (fun b hb e => by have := (Hx.out.blk b e.symm).1; have := hS b hb; omega))
          clear hxe hLe hap4 hx4 hj0 hjp
          go_wp2_with (at_builtin; refine wpList_append_eq rfl _ _ 32 rfl rfl rfl rfl Hap4.out ?_)
          refine (Hel.out (Sep X qs j) 44 _ j hlt (by have := Hql.out; omega) _ _ _ (by simp) Hx4.out (by simp only [List.length_append, List.length_cons, List.length_nil]; omega) Hele4.out).mono ?_
          rintro _ w3 ⟨v3, rfl, hx3⟩
          have Hx3 := Lib.hid hx3
          clear hx3 k4 q0 q1
          go_wp2_with fail
          go_roundw
          case rel =>
            refine ⟨j + 1, by omega, by go_num, ?_⟩
            rw [Sep_step X qs j (by have := Hql.out; omega) Hjp.out]
            exact Hx3.out
          case measure => simp [intOf]; omega
      · obtain rfl : j = ls.length := by omega
        have hdl : decide (((ls.length : Nat) : Int) < ls.length) = false := by simp
        obtain ⟨v5, w5, hap5, hx5⟩ := hx.byte 41 (by have := HL.out ls.length; have := HX0.out; omega)
        have Hap5 := Lib.hid hap5; have Hx5 := Lib.hid hx5
        clear hx hap5 hx5
        go_wp2_with (at_builtin; refine wpList_append_eq rfl _ _ 32 rfl rfl rfl rfl Hap5.out ?_)
        go_ret
        refine ⟨_, rfl, ?_⟩
        have e := HW.out.then Hx5.out
        have e2 := Sep_all X qs Hnz.out
        rw [Hql.out] at e2
        rw [e2] at e
        have ef := Hfin.out
        rw [Hz.out] at ef
        rw [ef] at e
        exact e
set_option maxHeartbeats 4000000 in
theorem c127 (tab : Nat → Int) (f : Nat → List UInt8) (hF : Prints tab f) (B : Nat) (S : Nat → Prop) (bs : List UInt8) (v : Value) (ls : List Geo) (t : Int) (a : Option Addr) (c : Nat) (w : World) (IH : ∀ (j : Nat) (hj : j < ls.length) (bs : List UInt8) (v x : Value) (w : World), Tabs tab w → Bf B w v.ownBlock v bs w → bs.length + (geoB f ls[j]).length ≤ 70000000000000 → GeoV S w ls[j] x → Calls Tryz.prog 180 #[.agg #[.int .i64 (ls[j]).kind, x], v] w fun e w' => ∃ v', e = .returned v' ∧ Bf B w v.ownBlock v' (bs ++ geoB f ls[j]) w') (hT : Tabs tab w) (hB6 : 6 < B) (hb : Bf B w v.ownBlock v bs w)
    (hlen : bs.length + (nameB 0 t (wrapB (ls.map (geoB f)))).length ≤ 70000000000000) (hok : ∀ p ∈ ls, p.ok) (h0 : 0 ≤ t) (h1 : t ≤ 3) (hS : ∀ b, S b → b < B) (h : Rd S w (.list (ls.map Geo.fs)) (.slice a ls.length c)) :
    Calls Tryz.prog 127 #[.agg #[.slice a ls.length c, .int .u8 t], v] w fun e w' => ∃ v', e = .returned v' ∧ Bf B w v.ownBlock v' (bs ++ nameB 0 t (wrapB (ls.map (geoB f)))) w' := by
  have hnl : (nameB 0 t (wrapB (ls.map (geoB f)))).length = (kindName 0).length + (hdrB t).length + (if t = 0 ∧ wrapB (ls.map (geoB f)) = emptyW then ([32] : List UInt8) else []).length + (wrapB (ls.map (geoB f))).length := by
    unfold nameB; simp only [List.length_append]
  have hX0 : (bs ++ kindName 0 ++ hdrB t).length + (wrapB (ls.map (geoB f))).length ≤ 70000000000000 := by
    rw [hnl] at hlen; simp only [List.length_append]; omega
  have hfin := tailB_name bs 0 t (wrapB (ls.map (geoB f))) h0 h1
  have hqj0 : ∀ j (hj : j < (ls.map (geoB f)).length) (hj' : j < ls.length), (ls.map (geoB f))[j] = geoB f (ls[j]'hj') := fun j hj hj' => by simp
  have hql : (ls.map (geoB f)).length = ls.length := by simp
  generalize ls.map (geoB f) = qs at *
  generalize hNN : nameB 0 t (wrapB qs) = NN at *
  have hlen178 : bs.length ≤ 100000000000000 := by omega
  have hbW := hb.alloc (.cells #[.slice a ls.length c, .int .u8 t] 104)
  have hTW := hT.blw (bl_a1 w (.cells #[.slice a ls.length c, .int .u8 t] 104))
  have hLW := Lb.new w #[.slice a ls.length c, .int .u8 t] 104
  have hrW := h.alloc (.cells #[.slice a ls.length c, .int .u8 t] 104)
  have hmax : ls.length ≤ 17592186044416 := by obtain ⟨_, _, _, hm, _⟩ := geos_at h; exact hm
  have hne : Hid (some w.heap.size ≠ v.ownBlock) := Lib.hid fun e => by have := (hb.blk _ e.symm).2; omega
  have hr6 : Hid (∀ j, v.ownBlock = some j → 6 < j) := Lib.hid fun j hj => by have := (hb.blk j hj).1; omega
  have hap : Hid (∀ b, S b → some b ≠ v.ownBlock) := Lib.hid (hb.apart hS)
  have hb0 := hbW.here
  have HW := Lib.hid hbW
  have hWW : w.alloc (.cells #[.slice a ls.length c, .int .u8 t] 104) = w.alloc (.cells #[.slice a ls.length c, .int .u8 t] 104) := rfl
  generalize hWW' : w.alloc (.cells #[.slice a ls.length c, .int .u8 t] 104) = W at hb0 HW hbW hTW hLW hrW
  have H178 : Hid (∀ w', Bf B W v.ownBlock v bs w' → Calls Tryz.prog 178 #[v, .string ⟨#[71, 69, 79, 77, 69, 84, 82, 89, 67, 79, 76, 76, 69, 67, 84, 73, 79, 78]⟩, .int .u8 t] w' fun e w2 => ∃ v2, e = .returned v2 ∧ Bf B W v.ownBlock v2 (bs ++ kindName 0 ++ hdrB t) w2) := Lib.hid fun w' hx =>
    (c178 B bs v ⟨#[71, 69, 79, 77, 69, 84, 82, 89, 67, 79, 76, 76, 69, 67, 84, 73, 79, 78]⟩ t w' hx.here hlen178 (by show #[71, 69, 79, 77, 69, 84, 82, 89, 67, 79, 76, 76, 69, 67, 84, 73, 79, 78].size ≤ 1000; simp) h0 h1).mono fun e w2 ⟨v2, he, h2⟩ => ⟨v2, he, hx.then h2⟩
  have Hb0 := Lib.hid hb0
  have Hlb : Hid (∀ (X : List UInt8) (v' : Value) (w' : World), Bf B W v.ownBlock v' X w' → Lb w' w.heap.size #[.slice a ls.length c, .int .u8 t] 104) := Lib.hid fun X v' w' hx => hx.lb hLW hne.out
  have Hrd : Hid (∀ (X : List UInt8) (v' : Value) (w' : World), Bf B W v.ownBlock v' X w' → Rd S w' (.list (ls.map Geo.fs)) (.slice a ls.length c)) := Lib.hid fun X v' w' hx => hx.rd hrW hap.out
  have H179 : Hid (∀ (X : List UInt8) (v' : Value) (w' : World), Bf B W v.ownBlock v' X w' → X.length ≤ 100000000000000 → Calls Tryz.prog 179 #[v'] w' fun e w2 => ∃ v2, e = .returned v2 ∧ Bf B W v.ownBlock v2 (X ++ emptyB X) w2) := Lib.hid fun X v' w' hx hl =>
    (c179 B X v' w' hx.here hl).mono fun e w2 ⟨v2, he, h2⟩ => ⟨v2, he, hx.then h2⟩
  have Hel : Hid (∀ (X : List UInt8) (s : UInt8) (v' : Value) (j : Nat) (hj : j < ls.length) (hjq : j < qs.length) (b' : Nat) (w' : World), s = 40 ∨ s = 44 ∨ s = 32 → Bf B W v.ownBlock v' (X ++ [s]) w' → (X ++ [s]).length + (qs[j]'hjq).length ≤ 70000000000000 → GeoV S w' ls[j] (.iface (ls[j]).tid (.pointer (some ⟨b', 0, none⟩))) →
      Calls Tryz.prog 180 #[.agg #[.int .i64 (ls[j]).kind, .iface (ls[j]).tid (.pointer (some ⟨b', 0, none⟩))], v'] w' fun e w2 => ∃ v2, e = .returned v2 ∧ Bf B W v.ownBlock v2 (X ++ [s] ++ qs[j]'hjq) w2) := Lib.hid fun X s v' j hj hjq b' w' hs hx hl hel => by
    have hq := hqj0 j hjq hj
    refine (IH j hj (X ++ [s]) v' _ w' (hx.tabs hTW hr6.out) hx.here (by rw [hq] at hl; omega) hel).mono fun e w2 ⟨v2, he, h2⟩ => ⟨v2, he, ?_⟩
    have h3 := hx.then h2
    rw [hq]
    skip
    exact h3
  have HX0 := Lib.hid hX0
  have Hql := Lib.hid hql
  have Hfin := Lib.hid hfin
  have hkl : Hid ((bs ++ kindName 0 ++ hdrB t).length ≤ 70000000000000) := Lib.hid (by omega)
  clear hb hTW hLW hrW hb0 hqj0 h hnl hX0 hfin hlen hNN hWW hlen178 hbW hT hok IH
  obtain ⟨n, hn⟩ : ∃ n, n = ls.length := ⟨_, rfl⟩
  skip
  by_cases hz : ls.length = 0
  · have hb1 : ((ls.length : Int) == 0) = true := by rw [hz]; rfl
    have Hz : Hid (wrapB qs = emptyW) := Lib.hid ((wrap_eq qs).2 (Hql.out.trans hz))
    clear hz hql hn
    subst hWW'
    go_enter Tryz.func127, Tryz.ntmps127
    go_wp2_with fail
    refine (H178.out _ Hb0.out).mono ?_
    rintro _ w1 ⟨v1, rfl, hx1⟩
    have L1 := (Hlb.out _ _ _ hx1).use
    obtain ⟨kb, _, _⟩ := L1
    have Hx1 := Lib.hid hx1; clear hx1
    go_wp2_with fail
    refine (H179.out _ _ _ Hx1.out (by have := hkl.out; omega)).mono ?_
    rintro _ w2 ⟨v2, rfl, hx2⟩
    have Hx2 := Lib.hid hx2; clear hx2
    go_wp2_with fail
    go_ret
    refine ⟨_, rfl, ?_⟩
    have e := HW.out.then Hx2.out
    have ef := Hfin.out
    rw [Hz.out, tailB_empty] at ef
    rw [ef] at e
    exact e
  · have hb1 : ((ls.length : Int) == 0) = false := by rw [beq_eq_false_iff_ne]; omega
    have Hz : Hid (tailB (bs ++ kindName 0 ++ hdrB t) (wrapB qs) = wrapB qs) := Lib.hid (tailB_full _ (wrap_ne qs (by have := Hql.out; omega)))
    have Hnz : Hid (qs.length ≠ 0) := Lib.hid (by have := Hql.out; omega)
    generalize bs ++ kindName 0 ++ hdrB t = X at *
    have HL := Lib.hid fun j => Sep_len X qs j Hnz.out
    have HL2 := Lib.hid (Sep_len2 X qs)
    clear hql hn
    subst hWW'
    go_enter Tryz.func127, Tryz.ntmps127
    go_wp2_with fail
    refine (H178.out _ Hb0.out).mono ?_
    rintro _ w1 ⟨v1, rfl, hx1⟩
    have hx1 : Bf B (w.alloc (.cells #[.slice a ls.length c, .int .u8 t] 104)) v.ownBlock v1 X w1 := by assumption
    obtain ⟨v2, w2, hap2, hx2⟩ := hx1.byte 40 (by have := HX0.out; omega)
    have L1 := (Hlb.out _ _ _ hx1).use
    have L2 := (Hlb.out _ _ _ hx2).use
    obtain ⟨kb, _, _⟩ := L1
    obtain ⟨kb2, _, _⟩ := L2
    have Hap2 := Lib.hid hap2
    have Hx2 := Lib.hid hx2; clear hx1 hx2 hap2
    go_wp2_with (at_builtin; refine wpList_append_eq rfl _ _ 32 rfl rfl rfl rfl Hap2.out ?_)
    go_loopw [1, 23] (fun v' i wr => ∃ j : Nat, j ≤ ls.length ∧ i = .int .i64 j ∧ Bf B (w.alloc (.cells #[.slice a ls.length c, .int .u8 t] 104)) v.ownBlock v' (Sep X qs j) wr) (fun _ i _ => ls.length - (intOf i).toNat)
    case atStart => exact ⟨0, Nat.zero_le _, rfl, by rw [Sep_zero]; exact Hx2.out⟩
    case round =>
      obtain ⟨j, hj, rfl, hx⟩ := hrel
      clear kb kb2 Hx2
      by_cases hlt : j < ls.length
      · have hr := Hrd.out _ _ _ hx
        obtain ⟨a0, c0, e0, hm, hat⟩ := geos_at hr
        obtain ⟨rfl, _, rfl⟩ := Value.slice.inj e0
        obtain ⟨b, off, b', rfl, hSb, hbl, q0, q1, hel⟩ := hat j hlt
        have hLj : (Sep X qs j).length + 1 + (qs[j]'(by have := Hql.out; omega)).length ≤ 70000000000000 := by have := HL2.out j (by have := Hql.out; omega); have := HX0.out; omega
        have Hx := Lib.hid hx
        have hxe := hx.alloc (.cells #[.int .i64 (ls[j]).kind, .iface (ls[j]).tid (.pointer (some ⟨b', 0, none⟩))] 47)
        have hLe := Lb.new wr #[.int .i64 (ls[j]).kind, .iface (ls[j]).tid (.pointer (some ⟨b', 0, none⟩))] 47
        have hown := hx.fresh
        have hjq : j < qs.length := by have := Hql.out; omega
        have Hele : Hid (GeoV S (wr.alloc (.cells #[.int .i64 (ls[j]).kind, .iface (ls[j]).tid (.pointer (some ⟨b', 0, none⟩))] 47)) ls[j] _) := Lib.hid (Rd.alloc hel _)
        clear hx hr hat e0 hel
        by_cases hj0 : j = 0
        · have hd1 : decide ((0 : Int) < (j : Int)) = false := by simp; omega
          have hd2 : decide (0 < j) = false := by simp; omega
          have HS0 : Hid (Sep X qs j = X ++ [40]) := Lib.hid (by rw [hj0, Sep_zero])
          have HS1 : Hid (Sep X qs (j + 1) = X ++ [40] ++ qs[j]'hjq) := Lib.hid (by subst hj0; exact Sep_one X qs (by have := Hql.out; omega))
          have He := Lib.hid hxe; clear hxe hj0
          rw [HS0.out] at He hLj
          go_wp2_with fail
          refine (Hel.out X 40 _ j hlt (by have := Hql.out; omega) _ _ (by simp) He.out (by omega) Hele.out).mono ?_
          rintro _ w3 ⟨v3, rfl, hx3⟩
          have Hx3 := Lib.hid hx3
          clear hx3 q0 q1
          go_wp2_with fail
          go_roundw
          case rel =>
            refine ⟨j + 1, by omega, by go_num, ?_⟩
            rw [HS1.out]
            exact Hx3.out
          case measure => simp [intOf]; omega
        · have hjp : 0 < j := by omega
          have hd1 : decide ((0 : Int) < (j : Int)) = true := by simpa using hjp
          have hd2 : decide (0 < j) = true := by simpa using hjp
          have Hjp := Lib.hid hjp
          obtain ⟨v4, w4, hap4, hx4⟩ := hxe.here.byte 44 (by omega)
          rw [World.size_alloc] at hap4
          have Hap4 := Lib.hid hap4
          have L4 := (hx4.lb hLe hown).use
          obtain ⟨k4, _, _⟩ := L4
          have Hx4 := Lib.hid (hxe.then hx4)
          have Hele4 : Hid (GeoV S w4 ls[j] _) := Lib.hid (hx4.rd Hele.out (fun b hb e => by have := (Hx.out.blk b e.symm).1; have := hS b hb; omega))
          clear hxe hLe hap4 hx4 hj0 hjp
          go_wp2_with (at_builtin; refine wpList_append_eq rfl _ _ 32 rfl rfl rfl rfl Hap4.out ?_)
          refine (Hel.out (Sep X qs j) 44 _ j hlt (by have := Hql.out; omega) _ _ (by simp) Hx4.out (by simp only [List.length_append, List.length_cons, List.length_nil]; omega) Hele4.out).mono ?_
          rintro _ w3 ⟨v3, rfl, hx3⟩
          have Hx3 := Lib.hid hx3
          clear hx3 k4 q0 q1
          go_wp2_with fail
          go_roundw
          case rel =>
            refine ⟨j + 1, by omega, by go_num, ?_⟩
            rw [Sep_step X qs j (by have := Hql.out; omega) Hjp.out]
            exact Hx3.out
          case measure => simp [intOf]; omega
      · obtain rfl : j = ls.length := by omega
        have hdl : decide (((ls.length : Nat) : Int) < ls.length) = false := by simp
        obtain ⟨v5, w5, hap5, hx5⟩ := hx.byte 41 (by have := HL.out ls.length; have := HX0.out; omega)
        have Hap5 := Lib.hid hap5; have Hx5 := Lib.hid hx5
        clear hx hap5 hx5
        go_wp2_with (at_builtin; refine wpList_append_eq rfl _ _ 32 rfl rfl rfl rfl Hap5.out ?_)
        go_ret
        refine ⟨_, rfl, ?_⟩
        have e := HW.out.then Hx5.out
        have e2 := Sep_all X qs Hnz.out
        rw [Hql.out] at e2
        rw [e2] at e
        have ef := Hfin.out
        rw [Hz.out] at ef
        rw [ef] at e
        exact e
end Go.Proofs.YtahnhhkbdgaidaaGreatDoor
