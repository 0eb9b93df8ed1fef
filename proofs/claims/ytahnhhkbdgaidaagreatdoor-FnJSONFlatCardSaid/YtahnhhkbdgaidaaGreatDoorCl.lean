/-
  The text of a polygon as the program appends it.
-/
import Derived.Test.YtahnhhkbdgaidaaGreatDoorCk
namespace Go.Proofs.YtahnhhkbdgaidaaGreatDoor
open Go.RowKit
set_option maxRecDepth 100000
/-- What stands so far in brackets, the comma with it. -/
def SepC (bs : List UInt8) (l : List (List UInt8)) (j : Nat) : List UInt8 := if j = 0 then bs ++ [40] else if j < l.length then Sep bs l j ++ [44] else Sep bs l j
theorem SepC_el (bs : List UInt8) (l : List (List UInt8)) (j : Nat) (h : j < l.length) : ∃ X s, (s = 40 ∨ s = 44 ∨ s = 32) ∧ SepC bs l j = X ++ [s] ∧ Sep bs l (j + 1) = X ++ [s] ++ l[j] := by
  by_cases h0 : j = 0
  · subst h0; exact ⟨bs, 40, by simp, by simp [SepC], Sep_one bs l h⟩
  · exact ⟨Sep bs l j, 44, by simp, by simp [SepC, h0, h], Sep_step bs l j h (by omega)⟩
set_option maxHeartbeats 4000000 in
theorem c183 (tab : Nat → Int) (f : Nat → List UInt8) (hF : Prints tab f) (B : Nat) (S : Nat → Prop) (bs : List UInt8) (v : Value) (p : Pg) (a : Option Addr) (c : Nat) (w : World) (hT : Tabs tab w) (hB6 : 6 < B) (hb : Bf B w v.ownBlock v bs w)
    (hlen : bs.length + (pgB f p).length ≤ 72000000000000) (hok : p.ok) (hS : ∀ b, S b → b < B) (h : Rd S w (.list (p.rings.map Ln.fs)) (.slice a p.rings.length c)) :
    Calls Tryz.prog 183 #[.agg #[.slice a p.rings.length c, .int .u8 p.t], v] w fun e w' => ∃ v', e = .returned v' ∧ Bf B w v.ownBlock v' (bs ++ tailB bs (pgB f p)) w' := by
  unfold pgB at hlen ⊢
  have hqj0 : ∀ j (hj : j < (p.rings.map (lnB f)).length) (hj' : j < p.rings.length), (p.rings.map (lnB f))[j] = lnB f (p.rings[j]'hj') := fun j hj hj' => by simp
  have hql : (p.rings.map (lnB f)).length = p.rings.length := by simp
  generalize p.rings.map (lnB f) = qs at *
  have hbW := hb.alloc (.cells #[.slice a p.rings.length c, .int .u8 p.t] 73)
  have hTW := hT.blw (bl_a1 w (.cells #[.slice a p.rings.length c, .int .u8 p.t] 73))
  have hLW := Lb.new w #[.slice a p.rings.length c, .int .u8 p.t] 73
  have hrW := h.alloc (.cells #[.slice a p.rings.length c, .int .u8 p.t] 73)
  have hmax : p.rings.length ≤ 17592186044416 := by obtain ⟨_, _, _, hm, _⟩ := lines_at h; exact hm
  have hne : Hid (some w.heap.size ≠ v.ownBlock) := Lib.hid fun e => by have := (hb.blk _ e.symm).2; omega
  have hr6 : Hid (∀ j, v.ownBlock = some j → 6 < j) := Lib.hid fun j hj => by have := (hb.blk j hj).1; omega
  have hap : Hid (∀ b, S b → some b ≠ v.ownBlock) := Lib.hid (hb.apart hS)
  have H227 := Lib.hid (c227 a p.rings.length c p.t (w.alloc (.cells #[.slice a p.rings.length c, .int .u8 p.t] 73)))
  have hb0 := hbW.here
  have HW := Lib.hid hbW
  generalize hWW' : w.alloc (.cells #[.slice a p.rings.length c, .int .u8 p.t] 73) = W at hb0 HW hbW hTW hLW hrW H227
  have Hb0 := Lib.hid hb0
  have Hlb : Hid (∀ (X : List UInt8) (v' : Value) (w' : World), Bf B W v.ownBlock v' X w' → Lb w' w.heap.size #[.slice a p.rings.length c, .int .u8 p.t] 73) := Lib.hid fun X v' w' hx => hx.lb hLW hne.out
  have Hrd : Hid (∀ (X : List UInt8) (v' : Value) (w' : World), Bf B W v.ownBlock v' X w' → Rd S w' (.list (p.rings.map Ln.fs)) (.slice a p.rings.length c)) := Lib.hid fun X v' w' hx => hx.rd hrW hap.out
  have H179 : Hid (∀ (X : List UInt8) (v' : Value) (w' : World), Bf B W v.ownBlock v' X w' → X.length ≤ 100000000000000 → Calls Tryz.prog 179 #[v'] w' fun e w2 => ∃ v2, e = .returned v2 ∧ Bf B W v.ownBlock v2 (X ++ emptyB X) w2) := Lib.hid fun X v' w' hx hl =>
    (c179 B X v' w' hx.here hl).mono fun e w2 ⟨v2, he, h2⟩ => ⟨v2, he, hx.then h2⟩
  have Hel : Hid (∀ (X : List UInt8) (s : UInt8) (v' : Value) (j : Nat) (hj : j < p.rings.length) (hjq : j < qs.length) (a' : Option Addr) (c' : Nat) (w' : World), s = 40 ∨ s = 44 ∨ s = 32 → Bf B W v.ownBlock v' (X ++ [s]) w' → (X ++ [s]).length + (qs[j]'hjq).length ≤ 72000000000000 → Rd S w' (fl (p.rings[j]).xs) (.slice a' (p.rings[j]).xs.length c') →
      Calls Tryz.prog 182 #[.agg #[.int .u8 (p.rings[j]).t, .slice a' (p.rings[j]).xs.length c'], v'] w' fun e w2 => ∃ v2, e = .returned v2 ∧ Bf B W v.ownBlock v2 (X ++ [s] ++ qs[j]'hjq) w2) := Lib.hid fun X s v' j hj hjq a' c' w' hs hx hl hel => by
    have hq := hqj0 j hjq hj
    refine (c182 tab f hF B S (X ++ [s]) v' p.rings[j] a' c' w' (hx.tabs hTW hr6.out) hB6 hx.here (by rw [hq] at hl; omega) (hok.1 _ (List.getElem_mem hj)) hS hel).mono fun e w2 ⟨v2, he, h2⟩ => ⟨v2, he, ?_⟩
    have h3 := hx.then h2
    rw [hq]
    rw [tailB_sep _ _ s hs] at h3
    exact h3
  have Hql := Lib.hid hql
  have Hlen := Lib.hid hlen
  have hkl : Hid (bs.length ≤ 72000000000000) := Lib.hid (by omega)
  clear hb hTW hLW hrW hb0 hqj0 h hlen hbW hT hok
  obtain ⟨n, hn⟩ : ∃ n, n = p.rings.length := ⟨_, rfl⟩
  by_cases hz : p.rings.length = 0
  · have hb1 : ((p.rings.length : Int) == 0) = true := by rw [hz]; rfl
    have Hz : Hid (wrapB qs = emptyW) := Lib.hid ((wrap_eq qs).2 (Hql.out.trans hz))
    clear hz hql hn
    subst hWW'
    go_enter Tryz.func183, Tryz.ntmps183
    go_wp2_with fail
    refine H227.out.mono ?_
    rintro _ w1 ⟨rfl, hbq⟩
    have Hx1 := Lib.hid (Hb0.out.step hbq); clear hbq
    go_wp2_with fail
    refine (H179.out _ _ _ Hx1.out (by have := hkl.out; omega)).mono ?_
    rintro _ w2 ⟨v2, rfl, hx2⟩
    have Hx2 := Lib.hid hx2; clear hx2
    go_wp2_with fail
    go_ret
    refine ⟨_, rfl, ?_⟩
    have e := HW.out.then Hx2.out
    rw [Hz.out, tailB_empty]
    exact e
  · have hb1 : ((p.rings.length : Int) == 0) = false := by rw [beq_eq_false_iff_ne]; omega
    have Hnz : Hid (qs.length ≠ 0) := Lib.hid (by have := Hql.out; omega)
    have Hz : Hid (tailB bs (wrapB qs) = wrapB qs) := Lib.hid (tailB_full _ (wrap_ne qs Hnz.out))
    have HL := Lib.hid fun j => Sep_len bs qs j Hnz.out
    have HL2 := Lib.hid (Sep_len2 bs qs)
    clear hql hn hz
    subst hWW'
    go_enter Tryz.func183, Tryz.ntmps183
    go_wp2_with fail
    refine H227.out.mono ?_
    rintro _ w1 ⟨rfl, hbq⟩
    have hx1 := Hb0.out.step hbq
    obtain ⟨v2, w2, hap2, hx2⟩ := hx1.byte 40 (by have := hkl.out; omega)
    have L2 := (Hlb.out _ _ _ hx2).use
    obtain ⟨kb2, _, _⟩ := L2
    have Hap2 := Lib.hid hap2
    have Hx2 := Lib.hid hx2; clear hx1 hx2 hap2 hbq
    go_wp2_with (at_builtin; refine wpList_append_eq rfl _ _ 32 rfl rfl rfl rfl Hap2.out ?_)
    go_loopw [1, 17] (fun v' i wr => ∃ j : Nat, j ≤ p.rings.length ∧ i = .int .i64 j ∧ Bf B (w.alloc (.cells #[.slice a p.rings.length c, .int .u8 p.t] 73)) v.ownBlock v' (SepC bs qs j) wr) (fun _ i _ => p.rings.length - (intOf i).toNat)
    case atStart => exact ⟨0, Nat.zero_le _, rfl, by simpa [SepC] using Hx2.out⟩
    case round =>
      obtain ⟨j, hj, rfl, hx⟩ := hrel
      clear kb2 Hx2
      by_cases hlt : j < p.rings.length
      · have hr := Hrd.out _ _ _ hx
        obtain ⟨a0, c0, e0, hm, hat⟩ := lines_at hr
        obtain ⟨ea, _, ec⟩ := Value.slice.inj e0
        obtain ⟨b, off, a', c', eb, hSb, hbl, q0, q1, hel⟩ := hat j hlt
        have HLj : Hid ((Sep bs qs (j + 1)).length + 1 ≤ 72000000000000) := Lib.hid (by have := HL.out (j + 1); have := Hlen.out; omega)
        obtain ⟨X, s, hs, hX1, hX2⟩ := SepC_el bs qs j (by have := Hql.out; omega)
        have Hs := Lib.hid hs; have HX1 := Lib.hid hX1; have HX2 := Lib.hid hX2
        obtain ⟨rfl⟩ : a = some ⟨b, off, none⟩ := ea.trans eb
        have Hx := Lib.hid hx
        have hxe := hx.alloc (.cells #[.int .u8 (p.rings[j]).t, .slice a' (p.rings[j]).xs.length c'] 69)
        rw [hX1] at hxe
        have He := Lib.hid hxe
        have L1 := (Hlb.out _ _ _ hx).use
        obtain ⟨kb, _, _⟩ := L1
        have Hele := Lib.hid (Rd.alloc hel (.cells #[.int .u8 (p.rings[j]).t, .slice a' (p.rings[j]).xs.length c'] 69))
        clear hx hr hat e0 hel hxe ea eb ec hs hX1 hX2
        go_wp2_with fail
        refine (Hel.out X s _ j hlt (by have := Hql.out; omega) _ _ _ Hs.out He.out (by have := HLj.out; rw [HX2.out] at this; rw [List.length_append] at this; omega) Hele.out).mono ?_
        rintro _ w3 ⟨v3, rfl, hx3⟩
        rw [← HX2.out] at hx3
        obtain ⟨kb3, _, _⟩ := (Hlb.out _ _ _ hx3).use
        have Hx3 := Lib.hid hx3
        by_cases hj1 : j + 1 < p.rings.length
        · have hd1 : decide ((j : Int) + 1 < (p.rings.length : Int)) = true := by simp; omega
          have HC : Hid (SepC bs qs (j + 1) = Sep bs qs (j + 1) ++ [44]) := Lib.hid (by unfold SepC; rw [if_neg (by omega), if_pos (by have := Hql.out; omega)])
          obtain ⟨v4, w4, hap4, hx4⟩ := hx3.byte 44 (by have := HLj.out; omega)
          have Hap4 := Lib.hid hap4; have Hx4 := Lib.hid hx4
          clear hx3 hap4 hx4 q0 q1 kb
          go_wp2_with (at_builtin; refine wpList_append_eq rfl _ _ 32 rfl rfl rfl rfl Hap4.out ?_)
          go_roundw
          case rel =>
            refine ⟨j + 1, by omega, by go_num, ?_⟩
            rw [HC.out]
            exact Hx4.out
          case measure => simp [intOf]; omega
        · have hd1 : decide ((j : Int) + 1 < (p.rings.length : Int)) = false := by simp; omega
          have HC : Hid (SepC bs qs (j + 1) = Sep bs qs (j + 1)) := Lib.hid (by unfold SepC; rw [if_neg (by omega), if_neg (by have := Hql.out; omega)])
          clear hx3 q0 q1 kb
          go_wp2_with fail
          go_roundw
          case rel =>
            refine ⟨j + 1, by omega, by go_num, ?_⟩
            rw [HC.out]
            exact Hx3.out
          case measure => simp [intOf]; omega
      · obtain rfl : j = p.rings.length := by omega
        have hdl : decide (((p.rings.length : Nat) : Int) < p.rings.length) = false := by simp
        have HC : Hid (SepC bs qs p.rings.length = Sep bs qs qs.length) := Lib.hid (by rw [← Hql.out]; unfold SepC; rw [if_neg Hnz.out, if_neg (by omega)])
        rw [HC.out] at hx
        obtain ⟨v5, w5, hap5, hx5⟩ := hx.byte 41 (by have := HL.out qs.length; have := Hlen.out; omega)
        have Hap5 := Lib.hid hap5; have Hx5 := Lib.hid hx5
        clear hx hap5 hx5
        go_wp2_with (at_builtin; refine wpList_append_eq rfl _ _ 32 rfl rfl rfl rfl Hap5.out ?_)
        go_ret
        refine ⟨_, rfl, ?_⟩
        have e := HW.out.then Hx5.out
        rw [Sep_all bs qs Hnz.out] at e
        rw [Hz.out]
        exact e
end Go.Proofs.YtahnhhkbdgaidaaGreatDoor
