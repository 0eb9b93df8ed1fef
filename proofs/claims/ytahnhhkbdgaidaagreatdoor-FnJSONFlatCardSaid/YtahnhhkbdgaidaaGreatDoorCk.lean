/-
  Texts of points, lines and polygons as the program appends them.
-/
import Derived.Test.YtahnhhkbdgaidaaGreatDoorCj
namespace Go.Proofs.YtahnhhkbdgaidaaGreatDoor
open Go.RowKit
set_option maxRecDepth 100000
/-- How numbers are printed, and places; what is known of it. -/
structure Prints (tab : Nat → Int) (f : Nat → List UInt8) : Prop where
  len : ∀ x, (f x).length ≤ 7100
  place : ∀ (B : Nat) (bs : List UInt8) (v : Value) (par : Bool) (x y z m : Nat) (t : Int) (w : World), Tabs tab w → 6 < B → Bf B w v.ownBlock v bs w → bs.length ≤ 90000000000000 → 0 ≤ t → t ≤ 3 →
    Calls Tryz.prog 224 #[v, .agg #[.float .f64 x, .float .f64 y, .float .f64 z, .float .f64 m, .int .u8 t], .bool par] w fun e w' => ∃ v', e = .returned v' ∧ Bf B w v.ownBlock v' (bs ++ crdB f par x y z m t) w'
  num : ∀ (x : Nat) (w : World), Tabs tab w → Calls Tryz.prog 134 #[.float .f64 x] w fun e w' => e = .returned (.string ⟨(f x).toArray⟩) ∧ Below w.heap.size w w'
theorem prints (tab : Nat → Int) : Prints tab (ftxt tab) :=
  ⟨ftxt_len tab, fun B bs v par x y z m t w hT hB hb hl h0 h1 => c224 tab B bs v par x y z m t w hT hB hb hl h0 h1, fun x w hT => c134 tab x w hT⟩
/-- A body behind what stands ahead of it: the word for what is empty may want a blank. -/
def tailB (bs body : List UInt8) : List UInt8 := if body = emptyW then emptyB bs else body
theorem tailB_empty (bs : List UInt8) : tailB bs emptyW = emptyB bs := if_pos rfl
theorem tailB_full (bs : List UInt8) {body : List UInt8} (h : body ≠ emptyW) : tailB bs body = body := if_neg h
theorem emptyB_sep (bs : List UInt8) (c : UInt8) (h : c = 40 ∨ c = 44 ∨ c = 32) : emptyB (bs ++ [c]) = emptyW := by
  unfold emptyB
  rw [if_pos (by rcases h with rfl | rfl | rfl <;> simp)]; rfl
theorem tailB_sep (bs body : List UInt8) (c : UInt8) (h : c = 40 ∨ c = 44 ∨ c = 32) : tailB (bs ++ [c]) body = body := by
  unfold tailB
  split
  · next e => rw [emptyB_sep bs c h, e]
  · rfl
theorem tailB_len (bs body : List UInt8) : (tailB bs body).length ≤ body.length + 1 := by
  unfold tailB
  split
  · next e => have := emptyB_len bs; rw [e]; exact this
  · omega
theorem kindName_end (k : Int) : ∃ l x, kindName k = l ++ [x] ∧ x ≠ 40 ∧ x ≠ 44 ∧ x ≠ 32 := by
  unfold kindName
  by_cases h1 : k = 1
  · rw [if_pos h1]; exact ⟨[80, 79, 73, 78], 84, rfl, by decide, by decide, by decide⟩
  rw [if_neg h1]
  by_cases h1 : k = 2
  · rw [if_pos h1]; exact ⟨[76, 73, 78, 69, 83, 84, 82, 73, 78], 71, rfl, by decide, by decide, by decide⟩
  rw [if_neg h1]
  by_cases h1 : k = 3
  · rw [if_pos h1]; exact ⟨[80, 79, 76, 89, 71, 79], 78, rfl, by decide, by decide, by decide⟩
  rw [if_neg h1]
  by_cases h1 : k = 4
  · rw [if_pos h1]; exact ⟨[77, 85, 76, 84, 73, 80, 79, 73, 78], 84, rfl, by decide, by decide, by decide⟩
  rw [if_neg h1]
  by_cases h1 : k = 5
  · rw [if_pos h1]; exact ⟨[77, 85, 76, 84, 73, 76, 73, 78, 69, 83, 84, 82, 73, 78], 71, rfl, by decide, by decide, by decide⟩
  rw [if_neg h1]
  by_cases h1 : k = 6
  · rw [if_pos h1]; exact ⟨[77, 85, 76, 84, 73, 80, 79, 76, 89, 71, 79], 78, rfl, by decide, by decide, by decide⟩
  rw [if_neg h1]
  exact ⟨[71, 69, 79, 77, 69, 84, 82, 89, 67, 79, 76, 76, 69, 67, 84, 73, 79], 78, rfl, by decide, by decide, by decide⟩
theorem tailB_name (bs : List UInt8) (k t : Int) (body : List UInt8) (h0 : 0 ≤ t) (h1 : t ≤ 3) : bs ++ kindName k ++ hdrB t ++ tailB (bs ++ kindName k ++ hdrB t) body = bs ++ nameB k t body := by
  have key : tailB (bs ++ kindName k ++ hdrB t) body = (if t = 0 ∧ body = emptyW then [32] else []) ++ body := by
    unfold tailB
    by_cases hb : body = emptyW
    · rw [if_pos hb]
      subst hb
      rcases four t h0 h1 with rfl | rfl | rfl | rfl
      · obtain ⟨l, x, hl, n1, n2, n3⟩ := kindName_end k
        rw [hl]
        have e : bs ++ (l ++ [x]) ++ hdrB 0 = (bs ++ l) ++ [x] := by simp [hdrB]
        rw [e]
        unfold emptyB
        rw [if_neg (by simp [n1, n2, n3])]
        simp [emptyW]
      · rw [show bs ++ kindName k ++ hdrB 1 = (bs ++ kindName k ++ [32, 90]) ++ [32] by simp [hdrB], emptyB_sep _ _ (by simp)]; simp
      · rw [show bs ++ kindName k ++ hdrB 2 = (bs ++ kindName k ++ [32, 77]) ++ [32] by simp [hdrB], emptyB_sep _ _ (by simp)]; simp
      · rw [show bs ++ kindName k ++ hdrB 3 = (bs ++ kindName k ++ [32, 90, 77]) ++ [32] by simp [hdrB], emptyB_sep _ _ (by simp)]; simp
    · rw [if_neg hb, if_neg (fun h => hb h.2)]; rfl
  rw [key]
  unfold nameB
  simp only [List.append_assoc]
/-- What stands so far in brackets. -/
def Sep (bs : List UInt8) (l : List (List UInt8)) (j : Nat) : List UInt8 := bs ++ [40] ++ sepB 44 (l.take j)
theorem Sep_zero (bs : List UInt8) (l : List (List UInt8)) : Sep bs l 0 = bs ++ [40] := by simp [Sep, sepB]
theorem Sep_one (bs : List UInt8) (l : List (List UInt8)) (h : 0 < l.length) : Sep bs l 1 = bs ++ [40] ++ l[(0 : Nat)] := by
  have := sepB_take 44 l 0 h
  unfold Sep; rw [this]; simp [sepB]
theorem Sep_step (bs : List UInt8) (l : List (List UInt8)) (j : Nat) (h : j < l.length) (hj : 0 < j) : Sep bs l (j + 1) = Sep bs l j ++ [44] ++ l[j] := by
  unfold Sep; rw [sepB_take 44 l j h, if_neg (by omega)]; simp
theorem Sep_all (bs : List UInt8) (l : List (List UInt8)) (h : l.length ≠ 0) : Sep bs l l.length ++ [41] = bs ++ wrapB l := by
  unfold Sep wrapB; rw [if_neg h, List.take_length]; simp
theorem sepB_pre (s : UInt8) (a b : List (List UInt8)) : ∃ c, sepB s (a ++ b) = sepB s a ++ c := by
  cases a with
  | nil => exact ⟨sepB s b, by simp [sepB]⟩
  | cons x r => exact ⟨b.flatMap (fun y => s :: y), by simp [sepB]⟩
theorem Sep_len (bs : List UInt8) (l : List (List UInt8)) (j : Nat) (h : l.length ≠ 0) : (Sep bs l j).length + 1 ≤ bs.length + (wrapB l).length := by
  obtain ⟨c, hc⟩ := sepB_pre 44 (l.take j) (l.drop j)
  rw [List.take_append_drop] at hc
  unfold Sep wrapB
  rw [if_neg h, hc]
  simp only [List.length_append, List.length_cons, List.length_nil]; omega
theorem Sep_len2 (bs : List UInt8) (l : List (List UInt8)) (j : Nat) (h : j < l.length) : (Sep bs l j).length + 1 + l[j].length ≤ bs.length + (wrapB l).length := by
  have := Sep_len bs l (j + 1) (by omega)
  rcases Nat.eq_zero_or_pos j with rfl | hj
  · rw [Sep_one bs l h] at this
    rw [Sep_zero]
    simp only [List.length_append, List.length_cons, List.length_nil] at *; omega
  · rw [Sep_step bs l j h hj] at this
    simp only [List.length_append, List.length_cons, List.length_nil] at *; omega
theorem wrapB_pos (l : List (List UInt8)) (h : l.length ≠ 0) : 2 ≤ (wrapB l).length := by
  unfold wrapB; rw [if_neg h]; simp
theorem crdB_ne (f : Nat → List UInt8) (x y z m : Nat) (t : Int) : crdB f true x y z m t ≠ emptyW := by
  intro e
  have := congrArg List.head? e
  unfold crdB at this
  simp [parB, emptyW] at this
theorem ptB_empty (f : Nat → List UInt8) (c : Crd) : ptB f ⟨c, false⟩ = emptyW := rfl
theorem ptB_full (f : Nat → List UInt8) (x y z m : Nat) (t : Int) : ptB f ⟨⟨x, y, z, m, t⟩, true⟩ = crdB f true x y z m t := rfl

set_option maxHeartbeats 1000000 in
theorem c181 (tab : Nat → Int) (f : Nat → List UInt8) (hF : Prints tab f) (B : Nat) (bs : List UInt8) (v : Value) (p : Pt) (w : World) (hT : Tabs tab w) (hB6 : 6 < B) (hb : Bf B w v.ownBlock v bs w) (hlen : bs.length ≤ 80000000000000) (hp : p.ok) :
    Calls Tryz.prog 181 #[.agg p.cells, v] w fun e w' => ∃ v', e = .returned v' ∧ Bf B w v.ownBlock v' (bs ++ tailB bs (ptB f p)) w' := by
  obtain ⟨⟨x, y, z, m, t⟩, full⟩ := p
  obtain ⟨h0, h1⟩ := hp
  simp only at h0 h1
  simp only [Pt.cells]
  cases full
  · have hbW := hb.alloc (.cells #[.float .f64 x, .float .f64 y, .float .f64 z, .float .f64 m, .int .u8 t, .bool false] 63)
    have H := Lib.hid (c179 B bs v _ hbW.here (by omega))
    have HW := Lib.hid hbW
    have hE : Hid (tailB bs (ptB f ⟨⟨x, y, z, m, t⟩, false⟩) = emptyB bs) := Lib.hid (by rw [ptB_empty, tailB_empty])
    clear hb hbW hT
    go_enter Tryz.func181, Tryz.ntmps181
    go_wp2_with fail
    refine H.out.mono ?_
    rintro _ w1 ⟨v', rfl, h⟩
    have h2 := Lib.hid (HW.out.then h)
    clear h
    go_wp2_with fail
    go_ret
    exact ⟨_, rfl, by rw [hE.out]; exact h2.out⟩
  · have hbW := hb.alloc (.cells #[.float .f64 x, .float .f64 y, .float .f64 z, .float .f64 m, .int .u8 t, .bool true] 63)
    have H := Lib.hid (hF.place B bs v true x y z m t _ (hT.blw (bl_a1 w (.cells #[.float .f64 x, .float .f64 y, .float .f64 z, .float .f64 m, .int .u8 t, .bool true] 63))) hB6 hbW.here (by omega) h0 h1)
    have HW := Lib.hid hbW
    have hne := crdB_ne f x y z m t
    have hE : Hid (tailB bs (ptB f ⟨⟨x, y, z, m, t⟩, true⟩) = crdB f true x y z m t) := Lib.hid (by rw [ptB_full, tailB_full bs hne])
    clear hb hbW hT hne
    go_enter Tryz.func181, Tryz.ntmps181
    go_wp2_with fail
    refine H.out.mono ?_
    rintro _ w1 ⟨v', rfl, h⟩
    have h2 := Lib.hid (HW.out.then h)
    clear h
    go_wp2_with fail
    go_ret
    exact ⟨_, rfl, by rw [hE.out]; exact h2.out⟩
theorem c225 (t : Int) (a : Option Addr) (n c : Nat) (w : World) (h0 : 0 ≤ t) (h1 : t ≤ 3) (hn : n ≤ 17592186044416) :
    Calls Tryz.prog 225 #[.agg #[.int .u8 t, .slice a n c]] w fun e w' => e = .returned (.bool (((n / dN t : Nat) : Int) == 0)) ∧ Below w.heap.size w w' := by
  have H := Lib.hid (c84 t a n c (w.alloc (.cells #[.int .u8 t, .slice a n c] 69)) h0 h1 hn)
  have HB := Lib.hid (bl_a1 w (.cells #[.int .u8 t, .slice a n c] 69))
  generalize n / dN t = q at *
  go_enter Tryz.func225, Tryz.ntmps225
  go_wp2_with fail
  refine H.out.mono ?_
  rintro _ w1 ⟨rfl, h⟩
  have h2 := Lib.hid (HB.out.trans (h.mono (by simp)))
  clear h
  go_wp2_with fail
  go_ret
  exact ⟨rfl, h2.out⟩
theorem c227 (a : Option Addr) (n c : Nat) (t : Int) (w : World) :
    Calls Tryz.prog 227 #[.agg #[.slice a n c, .int .u8 t]] w fun e w' => e = .returned (.bool ((n : Int) == 0)) ∧ Below w.heap.size w w' := by
  have HB := Lib.hid (bl_a1 w (.cells #[.slice a n c, .int .u8 t] 73))
  go_enter Tryz.func227, Tryz.ntmps227
  go_wp2_with fail
  go_ret
  exact ⟨rfl, HB.out⟩
/-- What a row's block lacks. -/
theorem Bf.apart {B : Nat} {W w : World} {r : Option Nat} {v : Value} {bs : List UInt8} (h : Bf B W r v bs w) {S : Nat → Prop} (hS : ∀ b, S b → b < B) : ∀ b, S b → some b ≠ v.ownBlock := fun b hb e => by
  have := (h.blk b e.symm).1; have := hS b hb; omega
set_option maxHeartbeats 2000000 in
theorem c226 (tab : Nat → Int) (f : Nat → List UInt8) (hF : Prints tab f) (B : Nat) (S : Nat → Prop) (bs : List UInt8) (v : Value) (t : Int) (xs : List Nat) (a : Option Addr) (c : Nat) (w : World) (hT : Tabs tab w) (hB6 : 6 < B) (hb : Bf B w v.ownBlock v bs w)
    (hlen : bs.length + (wrapB ((plsOf t xs).map (crdC f false))).length ≤ 80000000000000) (h0 : 0 ≤ t) (h1 : t ≤ 3) (hn : xs.length / dN t ≠ 0) (hS : ∀ b, S b → b < B) (h : Rd S w (fl xs) (.slice a xs.length c)) :
    Calls Tryz.prog 226 #[v, .agg #[.int .u8 t, .slice a xs.length c], .bool false] w fun e w' => ∃ v', e = .returned v' ∧ Bf B w v.ownBlock v' (bs ++ wrapB ((plsOf t xs).map (crdC f false))) w' := by
  have hmax : xs.length ≤ 17592186044416 := by obtain ⟨_, _, _, hm, _⟩ := fl_inv h; exact hm
  have hdm := Nat.div_mul_le_self xs.length (dN t)
  have hpj0 : ∀ j (hj : j < ((plsOf t xs).map (crdC f false)).length), ((plsOf t xs).map (crdC f false))[j] = crdC f false (crdOf t xs j) := fun j hj => by simp [plsOf]
  have hpl0 : ((plsOf t xs).map (crdC f false)).length = xs.length / dN t := by simp [plsOf]
  generalize (plsOf t xs).map (crdC f false) = ps at *
  have hps0 : ps.length ≠ 0 := by omega
  have hpsm : ps.length ≤ 17592186044416 := by have := Nat.div_le_self xs.length (dN t); omega
  have Hpj : Hid (∀ j (hj : j < ps.length), ps[j] = crdC f false (crdOf t xs j)) := Lib.hid hpj0
  have Hi : Hid (∀ j, j < ps.length → j * dN t + dN t ≤ xs.length) := Lib.hid fun j hj => by
    rw [hpl0] at hj
    have := Nat.mul_le_mul_right (dN t) (Nat.succ_le_of_lt hj)
    rw [Nat.succ_mul] at this; omega
  have hbW := hb.alloc (.cells #[.int .u8 t, .slice a xs.length c] 67)
  have hTW := hT.blw (bl_a1 w (.cells #[.int .u8 t, .slice a xs.length c] 67))
  have hLW := Lb.new w #[.int .u8 t, .slice a xs.length c] 67
  have hrW := h.alloc (.cells #[.int .u8 t, .slice a xs.length c] 67)
  have H84 := Lib.hid (c84 t a xs.length c (w.alloc (.cells #[.int .u8 t, .slice a xs.length c] 67)) h0 h1 hmax)
  rw [← hpl0] at H84
  have hne : Hid (some w.heap.size ≠ v.ownBlock) := Lib.hid fun e => by have := (hb.blk _ e.symm).2; omega
  have hr6 : Hid (∀ j, v.ownBlock = some j → 6 < j) := Lib.hid fun j hj => by have := (hb.blk j hj).1; omega
  have hap : Hid (∀ b, S b → some b ≠ v.ownBlock) := Lib.hid (hb.apart hS)
  have hb0 := hbW.here
  have HW := Lib.hid hbW
  generalize hWW : w.alloc (.cells #[.int .u8 t, .slice a xs.length c] 67) = W at *
  have Hlb : Hid (∀ (X : List UInt8) (v' : Value) (w' : World), Bf B W v.ownBlock v' X w' → Lb w' w.heap.size #[.int .u8 t, .slice a xs.length c] 67) := Lib.hid fun X v' w' hx => hx.lb hLW hne.out
  have Hrd : Hid (∀ (X : List UInt8) (v' : Value) (w' : World), Bf B W v.ownBlock v' X w' → Rd S w' (fl xs) (.slice a xs.length c)) := Lib.hid fun X v' w' hx => hx.rd hrW hap.out
  have H87 : Hid (∀ (j : Nat) (w' : World), j < ps.length → Rd S w' (fl xs) (.slice a xs.length c) → Calls Tryz.prog 87 #[.agg #[.int .u8 t, .slice a xs.length c], .int .i64 j] w' fun e w'' =>
      e = .returned (.agg #[.float .f64 (crdOf t xs j).x, .float .f64 (crdOf t xs j).y, .float .f64 (crdOf t xs j).z, .float .f64 (crdOf t xs j).m, .int .u8 t]) ∧ Below w'.heap.size w' w'') := Lib.hid fun j w' hj hr => c87 S t xs a c j w' h0 h1 hr (Hi.out j hj)
  have H224 : Hid (∀ (X : List UInt8) (v' : Value) (j : Nat) (hj : j < ps.length) (w' : World), Bf B W v.ownBlock v' X w' → X.length ≤ 90000000000000 →
      Calls Tryz.prog 224 #[v', .agg #[.float .f64 (crdOf t xs j).x, .float .f64 (crdOf t xs j).y, .float .f64 (crdOf t xs j).z, .float .f64 (crdOf t xs j).m, .int .u8 t], .bool false] w' fun e w2 => ∃ v2, e = .returned v2 ∧ Bf B W v.ownBlock v2 (X ++ ps[j]) w2) := Lib.hid fun X v' j hj w' hx hl =>
    (hF.place B X v' false _ _ _ _ t w' (hx.tabs hTW hr6.out) hB6 hx.here hl h0 h1).mono fun e w2 ⟨v2, he, h2⟩ => ⟨v2, he, by rw [Hpj.out j hj]; exact hx.then h2⟩
  have HL := Lib.hid fun j => Sep_len bs ps j hps0
  have HL2 := Lib.hid (Sep_len2 bs ps)
  have Hb0 := Lib.hid hb0
  have hW0 := Lib.hid hWW
  clear hb hbW hT hTW hLW hrW hb0 hpj0 hpl0 hdm Hi h
  subst hWW
  go_enter Tryz.func226, Tryz.ntmps226
  go_wp2_with fail
  refine H84.out.mono ?_
  rintro _ w1 ⟨rfl, hb1⟩
  have hx1 := Hb0.out.step hb1
  obtain ⟨v2, w2, hap2, hb2⟩ := hx1.byte 40 (by have := HL.out 0; rw [Sep_zero] at this; simp only [List.length_append, List.length_cons, List.length_nil] at this; omega)
  have Hap2 := Lib.hid hap2; have Hb2 := Lib.hid hb2
  clear hap2 hb2 hx1 hb1
  go_wp2_with (at_builtin; refine wpList_append_eq rfl _ _ 32 rfl rfl rfl rfl Hap2.out ?_)
  clear H84
  go_loopw [0, 8] (fun v' i wr => ∃ j : Nat, j ≤ ps.length ∧ i = .int .i64 j ∧ Bf B (w.alloc (.cells #[.int .u8 t, .slice a xs.length c] 67)) v.ownBlock v' (Sep bs ps j) wr) (fun _ i _ => ps.length - (intOf i).toNat)
  case atStart => exact ⟨0, Nat.zero_le _, rfl, by rw [Sep_zero]; exact Hb2.out⟩
  case round =>
    clear Hb0 Hb2 Hap2
    obtain ⟨j, hj, rfl, hx⟩ := hrel
    by_cases hlt : j < ps.length
    · obtain ⟨kb, _, _⟩ := (Hlb.out _ _ _ hx).use
      have hLj := HL2.out j hlt
      have Hx := Lib.hid hx
      by_cases hj0 : j = 0
      · have hd1 : decide ((0 : Int) < (j : Int)) = false := by simp; omega
        have hd2 : decide (0 < j) = false := by simp; omega
        have HS1 : Hid (Sep bs ps (j + 1) = Sep bs ps j ++ ps[j]) := Lib.hid (by subst hj0; rw [Sep_one bs ps hlt, Sep_zero])
        clear hx hj0
        go_wp2_with fail
        refine (H87.out j _ hlt (Hrd.out _ _ _ Hx.out)).mono ?_
        rintro _ w2 ⟨rfl, hbq⟩
        have Hx2 := Lib.hid (Hx.out.step hbq)
        clear hbq kb
        go_wp2_with fail
        refine (H224.out _ _ j hlt _ Hx2.out (by omega)).mono ?_
        rintro _ w3 ⟨v3, rfl, hx3⟩
        have Hx3 := Lib.hid hx3
        clear hx3
        go_wp2_with fail
        go_roundw
        case rel => exact ⟨j + 1, by omega, by go_num, by rw [HS1.out]; exact Hx3.out⟩
        case measure => simp [intOf]; omega
      · have hjp : 0 < j := by omega
        have hd1 : decide ((0 : Int) < (j : Int)) = true := by simpa using hjp
        have hd2 : decide (0 < j) = true := by simpa using hjp
        have HS1 : Hid (Sep bs ps (j + 1) = Sep bs ps j ++ [44] ++ ps[j]) := Lib.hid (Sep_step bs ps j hlt hjp)
        obtain ⟨v4, w4, hap4, hx4⟩ := hx.byte 44 (by omega)
        obtain ⟨kb4, _, _⟩ := (Hlb.out _ _ _ hx4).use
        have Hap4 := Lib.hid hap4; have Hx4 := Lib.hid hx4
        clear hx hj0 hjp hap4 hx4
        go_wp2_with (at_builtin; refine wpList_append_eq rfl _ _ 32 rfl rfl rfl rfl Hap4.out ?_)
        refine (H87.out j _ hlt (Hrd.out _ _ _ Hx4.out)).mono ?_
        rintro _ w2 ⟨rfl, hbq⟩
        have Hx2 := Lib.hid (Hx4.out.step hbq)
        clear hbq kb kb4
        go_wp2_with fail
        refine (H224.out _ _ j hlt _ Hx2.out (by simp only [List.length_append, List.length_cons, List.length_nil]; omega)).mono ?_
        rintro _ w3 ⟨v3, rfl, hx3⟩
        have Hx3 := Lib.hid hx3
        clear hx3
        go_wp2_with fail
        go_roundw
        case rel => exact ⟨j + 1, by omega, by go_num, by rw [HS1.out]; exact Hx3.out⟩
        case measure => simp [intOf]; omega
    · obtain rfl : j = ps.length := by omega
      have hdl : decide (((ps.length : Nat) : Int) < ps.length) = false := by simp
      obtain ⟨v5, w5, hap5, hx5⟩ := hx.byte 41 (by have := HL.out ps.length; omega)
      have Hap5 := Lib.hid hap5; have Hx5 := Lib.hid hx5
      clear hx hap5 hx5
      go_wp2_with (at_builtin; refine wpList_append_eq rfl _ _ 32 rfl rfl rfl rfl Hap5.out ?_)
      go_ret
      refine ⟨_, rfl, ?_⟩
      have e := HW.out.then Hx5.out
      rw [Sep_all bs ps hps0] at e
      exact e
theorem plsOf_len (t : Int) (xs : List Nat) : (plsOf t xs).length = xs.length / dN t := by simp [plsOf]
set_option maxHeartbeats 1000000 in
theorem c182 (tab : Nat → Int) (f : Nat → List UInt8) (hF : Prints tab f) (B : Nat) (S : Nat → Prop) (bs : List UInt8) (v : Value) (l : Ln) (a : Option Addr) (c : Nat) (w : World) (hT : Tabs tab w) (hB6 : 6 < B) (hb : Bf B w v.ownBlock v bs w)
    (hlen : bs.length + (lnB f l).length ≤ 75000000000000) (hok : l.ok) (hS : ∀ b, S b → b < B) (h : Rd S w (fl l.xs) (.slice a l.xs.length c)) :
    Calls Tryz.prog 182 #[.agg #[.int .u8 l.t, .slice a l.xs.length c], v] w fun e w' => ∃ v', e = .returned v' ∧ Bf B w v.ownBlock v' (bs ++ tailB bs (lnB f l)) w' := by
  obtain ⟨t, xs⟩ := l
  obtain ⟨h0, h1, hm, _⟩ := hok
  simp only at h0 h1 hm h ⊢
  unfold lnB at hlen ⊢
  simp only at hlen ⊢
  have hmax : xs.length ≤ 17592186044416 := by obtain ⟨_, _, _, hm, _⟩ := fl_inv h; exact hm
  have hbW := hb.alloc (.cells #[.int .u8 t, .slice a xs.length c] 69)
  have hTW := hT.blw (bl_a1 w (.cells #[.int .u8 t, .slice a xs.length c] 69))
  have hLW := Lb.new w #[.int .u8 t, .slice a xs.length c] 69
  have hrW := h.alloc (.cells #[.int .u8 t, .slice a xs.length c] 69)
  have H225 := Lib.hid (c225 t a xs.length c (w.alloc (.cells #[.int .u8 t, .slice a xs.length c] 69)) h0 h1 hmax)
  have HW := Lib.hid hbW
  have hpl := plsOf_len t xs
  have Hlb : Hid (∀ w', Below (w.alloc (.cells #[.int .u8 t, .slice a xs.length c] 69)).heap.size (w.alloc (.cells #[.int .u8 t, .slice a xs.length c] 69)) w' → Lb w' w.heap.size #[.int .u8 t, .slice a xs.length c] 69) := Lib.hid fun w' hx => hLW.blw hx
  by_cases hz : xs.length / dN t = 0
  · have hb1 : (((xs.length / dN t : Nat) : Int) == 0) = true := by rw [hz]; rfl
    have hE : Hid (tailB bs (wrapB ((plsOf t xs).map (crdC f false))) = emptyB bs) := Lib.hid (by rw [(wrap_eq _).2 (by simp [hpl, hz]), tailB_empty])
    have H179 : Hid (∀ w', Bf B w v.ownBlock v bs w' → Calls Tryz.prog 179 #[v] w' fun e w2 => ∃ v2, e = .returned v2 ∧ Bf B w v.ownBlock v2 (bs ++ emptyB bs) w2) := Lib.hid fun w' hx =>
      (c179 B bs v w' hx.here (by omega)).mono fun e w2 ⟨v2, he, h2⟩ => ⟨v2, he, hx.then h2⟩
    clear hb hT hbW hTW hLW hrW h hpl hz hm
    generalize xs.length / dN t = q at *
    go_enter Tryz.func182, Tryz.ntmps182
    go_wp2_with fail
    refine H225.out.mono ?_
    rintro _ w1 ⟨rfl, hb2⟩
    have Hb2 := Lib.hid hb2
    clear hb2
    go_wp2_with fail
    refine (H179.out _ (HW.out.step Hb2.out)).mono ?_
    rintro _ w2 ⟨v2, rfl, hx2⟩
    have Hx2 := Lib.hid hx2
    clear hx2
    go_wp2_with fail
    go_ret
    exact ⟨_, rfl, by rw [hE.out]; exact Hx2.out⟩
  · have hb1 : (((xs.length / dN t : Nat) : Int) == 0) = false := by rw [beq_eq_false_iff_ne]; omega
    have hE : Hid (tailB bs (wrapB ((plsOf t xs).map (crdC f false))) = wrapB ((plsOf t xs).map (crdC f false))) := Lib.hid (tailB_full _ (wrap_ne _ (by simpa [hpl] using hz)))
    have H226 : Hid (∀ w', Below (w.alloc (.cells #[.int .u8 t, .slice a xs.length c] 69)).heap.size (w.alloc (.cells #[.int .u8 t, .slice a xs.length c] 69)) w' → Calls Tryz.prog 226 #[v, .agg #[.int .u8 t, .slice a xs.length c], .bool false] w' fun e w2 => ∃ v2, e = .returned v2 ∧ Bf B w v.ownBlock v2 (bs ++ wrapB ((plsOf t xs).map (crdC f false))) w2) := Lib.hid fun w' hx =>
      (c226 tab f hF B S bs v t xs a c w' (hTW.blw hx) hB6 (hbW.step hx).here (by omega) h0 h1 hz hS (hrW.blw hx)).mono fun e w2 ⟨v2, he, h2⟩ => ⟨v2, he, (hbW.step hx).then h2⟩
    clear hb hT hbW hTW hLW hrW h hpl hz hm
    generalize xs.length / dN t = q at *
    go_enter Tryz.func182, Tryz.ntmps182
    go_wp2_with fail
    refine H225.out.mono ?_
    rintro _ w1 ⟨rfl, hb2⟩
    obtain ⟨kb, _, _⟩ := (Hlb.out _ hb2).use
    have Hb2 := Lib.hid hb2
    clear hb2
    go_wp2_with fail
    refine (H226.out _ Hb2.out).mono ?_
    rintro _ w2 ⟨v2, rfl, hx2⟩
    have Hx2 := Lib.hid hx2
    clear hx2
    go_wp2_with fail
    go_ret
    exact ⟨_, rfl, by rw [hE.out]; exact Hx2.out⟩
end Go.Proofs.YtahnhhkbdgaidaaGreatDoor
