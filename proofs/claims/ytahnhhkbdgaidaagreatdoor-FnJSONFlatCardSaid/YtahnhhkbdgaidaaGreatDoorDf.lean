/-
  GeoJSON: a sequence, a list of sequences, a list of lists.
-/
import Derived.Test.YtahnhhkbdgaidaaGreatDoorCk
namespace Go.Proofs.YtahnhhkbdgaidaaGreatDoor
open Go.RowKit
set_option maxRecDepth 100000
/-- A place in GeoJSON. -/
def jcrdB (f : Nat → List UInt8) (x y z : Nat) (t : Int) : List UInt8 := [91] ++ f x ++ [44] ++ f y ++ optB (hasZ t) ([44] ++ f z) ++ [93]
theorem jcrdB_len (f : Nat → List UInt8) (hf : ∀ x, (f x).length ≤ 7100) (x y z : Nat) (t : Int) : (jcrdB f x y z t).length ≤ 21400 := by
  have lx := hf x; have ly := hf y; have lz := hf z
  have := optB_len (hasZ t) ([44] ++ f z)
  unfold jcrdB
  simp only [List.length_append, List.length_cons, List.length_nil] at *; omega
set_option maxHeartbeats 1000000 in
theorem c88_n (f : Nat → List UInt8) (hf : ∀ x, (f x).length ≤ 7100) (B : Nat) (bs : List UInt8) (v : Value) (x y z m : Nat) (t : Int) (w : World)
    (H138 : Hid (∀ w, Calls Tryz.prog 138 #[.int .u8 t] w fun e w' => e = .returned (.bool false) ∧ w = w'))
    (HW : Hid (Bf B w v.ownBlock v bs (w.alloc (.cells #[.float .f64 x, .float .f64 y, .float .f64 z, .float .f64 m, .int .u8 t] 61)))) (hlen : bs.length ≤ 90000000000000)
    (Hcall : Hid (∀ (X : List UInt8) (v' : Value) (u : Nat) (w' : World), Bf B (w.alloc (.cells #[.float .f64 x, .float .f64 y, .float .f64 z, .float .f64 m, .int .u8 t] 61)) v.ownBlock v' X w' → X.length ≤ 100000000000000 → Calls Tryz.prog 137 #[v', .float .f64 u] w' fun e w2 => ∃ v2, e = .returned v2 ∧ Bf B (w.alloc (.cells #[.float .f64 x, .float .f64 y, .float .f64 z, .float .f64 m, .int .u8 t] 61)) v.ownBlock v2 (X ++ f u) w2))
    (Hcell : Hid (∀ (X : List UInt8) (v' : Value) (w' : World), Bf B (w.alloc (.cells #[.float .f64 x, .float .f64 y, .float .f64 z, .float .f64 m, .int .u8 t] 61)) v.ownBlock v' X w' → (∀ o, w'.cell? ⟨w.heap.size, o, none⟩ = #[.float .f64 x, .float .f64 y, .float .f64 z, .float .f64 m, .int .u8 t][o]?))) :
    Calls Tryz.prog 88 #[v, .agg #[.float .f64 x, .float .f64 y, .float .f64 z, .float .f64 m, .int .u8 t]] w fun e w' => ∃ v', e = .returned v' ∧ Bf B w v.ownBlock v' (bs ++ [91] ++ f x ++ [44] ++ f y ++ [93]) w' := by
  have lx := hf x; have ly := hf y; have lz := hf z; have lm := hf m
  have Hb0 : Hid (Bf B (w.alloc (.cells #[.float .f64 x, .float .f64 y, .float .f64 z, .float .f64 m, .int .u8 t] 61)) v.ownBlock v bs (w.alloc (.cells #[.float .f64 x, .float .f64 y, .float .f64 z, .float .f64 m, .int .u8 t] 61))) := Lib.hid HW.out.here
  have k0 := Hcell.out _ _ _ Hb0.out
  go_enter Tryz.func88, Tryz.ntmps88
  obtain ⟨v1, w1, hap, hb1⟩ := Hb0.out.byte 91 (by first | omega | (simp only [List.length_append, List.length_cons, List.length_nil]; omega))
  rw [World.size_alloc] at hap
  have k1 := Hcell.out _ _ _ hb1
  replace hap := Lib.hid hap; replace hb1 := Lib.hid hb1
  go_wp2_with (first | (go_at_call 138; refine (H138.out _).mono ?_; rintro _ _ ⟨rfl, rfl⟩) | (at_builtin; refine wpList_append_eq rfl _ _ 32 rfl rfl rfl rfl hap.out ?_))
  clear hap k0
  refine (Hcall.out _ _ x _ hb1.out (by first | omega | (simp only [List.length_append, List.length_cons, List.length_nil]; omega))).mono ?_
  rintro _ w2 ⟨v2, rfl, hb2⟩
  clear k1
  have k2 := Hcell.out _ _ _ hb2
  replace hb2 := Lib.hid hb2
  obtain ⟨v3, w3, hap, hb3⟩ := hb2.out.byte 44 (by first | omega | (simp only [List.length_append, List.length_cons, List.length_nil]; omega))
  have k3 := Hcell.out _ _ _ hb3
  replace hap := Lib.hid hap; replace hb3 := Lib.hid hb3
  go_wp2_with (first | (go_at_call 138; refine (H138.out _).mono ?_; rintro _ _ ⟨rfl, rfl⟩) | (at_builtin; refine wpList_append_eq rfl _ _ 32 rfl rfl rfl rfl hap.out ?_))
  clear hap k2
  refine (Hcall.out _ _ y _ hb3.out (by first | omega | (simp only [List.length_append, List.length_cons, List.length_nil]; omega))).mono ?_
  rintro _ w4 ⟨v4, rfl, hb4⟩
  clear k3
  have k4 := Hcell.out _ _ _ hb4
  replace hb4 := Lib.hid hb4
  obtain ⟨v5, w5, hap, hb5⟩ := hb4.out.byte 93 (by first | omega | (simp only [List.length_append, List.length_cons, List.length_nil]; omega))
  have k5 := Hcell.out _ _ _ hb5
  replace hap := Lib.hid hap; replace hb5 := Lib.hid hb5
  go_wp2_with (first | (go_at_call 138; refine (H138.out _).mono ?_; rintro _ _ ⟨rfl, rfl⟩) | (at_builtin; refine wpList_append_eq rfl _ _ 32 rfl rfl rfl rfl hap.out ?_))
  clear hap k4
  go_ret
  exact ⟨_, rfl, by have e := HW.out.then hb5.out; simpa using e⟩
set_option maxHeartbeats 1000000 in
theorem c88_z (f : Nat → List UInt8) (hf : ∀ x, (f x).length ≤ 7100) (B : Nat) (bs : List UInt8) (v : Value) (x y z m : Nat) (t : Int) (w : World)
    (H138 : Hid (∀ w, Calls Tryz.prog 138 #[.int .u8 t] w fun e w' => e = .returned (.bool true) ∧ w = w'))
    (HW : Hid (Bf B w v.ownBlock v bs (w.alloc (.cells #[.float .f64 x, .float .f64 y, .float .f64 z, .float .f64 m, .int .u8 t] 61)))) (hlen : bs.length ≤ 90000000000000)
    (Hcall : Hid (∀ (X : List UInt8) (v' : Value) (u : Nat) (w' : World), Bf B (w.alloc (.cells #[.float .f64 x, .float .f64 y, .float .f64 z, .float .f64 m, .int .u8 t] 61)) v.ownBlock v' X w' → X.length ≤ 100000000000000 → Calls Tryz.prog 137 #[v', .float .f64 u] w' fun e w2 => ∃ v2, e = .returned v2 ∧ Bf B (w.alloc (.cells #[.float .f64 x, .float .f64 y, .float .f64 z, .float .f64 m, .int .u8 t] 61)) v.ownBlock v2 (X ++ f u) w2))
    (Hcell : Hid (∀ (X : List UInt8) (v' : Value) (w' : World), Bf B (w.alloc (.cells #[.float .f64 x, .float .f64 y, .float .f64 z, .float .f64 m, .int .u8 t] 61)) v.ownBlock v' X w' → (∀ o, w'.cell? ⟨w.heap.size, o, none⟩ = #[.float .f64 x, .float .f64 y, .float .f64 z, .float .f64 m, .int .u8 t][o]?))) :
    Calls Tryz.prog 88 #[v, .agg #[.float .f64 x, .float .f64 y, .float .f64 z, .float .f64 m, .int .u8 t]] w fun e w' => ∃ v', e = .returned v' ∧ Bf B w v.ownBlock v' (bs ++ [91] ++ f x ++ [44] ++ f y ++ [44] ++ f z ++ [93]) w' := by
  have lx := hf x; have ly := hf y; have lz := hf z; have lm := hf m
  have Hb0 : Hid (Bf B (w.alloc (.cells #[.float .f64 x, .float .f64 y, .float .f64 z, .float .f64 m, .int .u8 t] 61)) v.ownBlock v bs (w.alloc (.cells #[.float .f64 x, .float .f64 y, .float .f64 z, .float .f64 m, .int .u8 t] 61))) := Lib.hid HW.out.here
  have k0 := Hcell.out _ _ _ Hb0.out
  go_enter Tryz.func88, Tryz.ntmps88
  obtain ⟨v1, w1, hap, hb1⟩ := Hb0.out.byte 91 (by first | omega | (simp only [List.length_append, List.length_cons, List.length_nil]; omega))
  rw [World.size_alloc] at hap
  have k1 := Hcell.out _ _ _ hb1
  replace hap := Lib.hid hap; replace hb1 := Lib.hid hb1
  go_wp2_with (first | (go_at_call 138; refine (H138.out _).mono ?_; rintro _ _ ⟨rfl, rfl⟩) | (at_builtin; refine wpList_append_eq rfl _ _ 32 rfl rfl rfl rfl hap.out ?_))
  clear hap k0
  refine (Hcall.out _ _ x _ hb1.out (by first | omega | (simp only [List.length_append, List.length_cons, List.length_nil]; omega))).mono ?_
  rintro _ w2 ⟨v2, rfl, hb2⟩
  clear k1
  have k2 := Hcell.out _ _ _ hb2
  replace hb2 := Lib.hid hb2
  obtain ⟨v3, w3, hap, hb3⟩ := hb2.out.byte 44 (by first | omega | (simp only [List.length_append, List.length_cons, List.length_nil]; omega))
  have k3 := Hcell.out _ _ _ hb3
  replace hap := Lib.hid hap; replace hb3 := Lib.hid hb3
  go_wp2_with (first | (go_at_call 138; refine (H138.out _).mono ?_; rintro _ _ ⟨rfl, rfl⟩) | (at_builtin; refine wpList_append_eq rfl _ _ 32 rfl rfl rfl rfl hap.out ?_))
  clear hap k2
  refine (Hcall.out _ _ y _ hb3.out (by first | omega | (simp only [List.length_append, List.length_cons, List.length_nil]; omega))).mono ?_
  rintro _ w4 ⟨v4, rfl, hb4⟩
  clear k3
  have k4 := Hcell.out _ _ _ hb4
  replace hb4 := Lib.hid hb4
  obtain ⟨v5, w5, hap, hb5⟩ := hb4.out.byte 44 (by first | omega | (simp only [List.length_append, List.length_cons, List.length_nil]; omega))
  have k5 := Hcell.out _ _ _ hb5
  replace hap := Lib.hid hap; replace hb5 := Lib.hid hb5
  go_wp2_with (first | (go_at_call 138; refine (H138.out _).mono ?_; rintro _ _ ⟨rfl, rfl⟩) | (at_builtin; refine wpList_append_eq rfl _ _ 32 rfl rfl rfl rfl hap.out ?_))
  clear hap k4
  refine (Hcall.out _ _ z _ hb5.out (by first | omega | (simp only [List.length_append, List.length_cons, List.length_nil]; omega))).mono ?_
  rintro _ w6 ⟨v6, rfl, hb6⟩
  clear k5
  have k6 := Hcell.out _ _ _ hb6
  replace hb6 := Lib.hid hb6
  obtain ⟨v7, w7, hap, hb7⟩ := hb6.out.byte 93 (by first | omega | (simp only [List.length_append, List.length_cons, List.length_nil]; omega))
  have k7 := Hcell.out _ _ _ hb7
  replace hap := Lib.hid hap; replace hb7 := Lib.hid hb7
  go_wp2_with (first | (go_at_call 138; refine (H138.out _).mono ?_; rintro _ _ ⟨rfl, rfl⟩) | (at_builtin; refine wpList_append_eq rfl _ _ 32 rfl rfl rfl rfl hap.out ?_))
  clear hap k6
  go_ret
  exact ⟨_, rfl, by have e := HW.out.then hb7.out; simpa using e⟩
theorem c88' (f : Nat → List UInt8) (hf : ∀ x, (f x).length ≤ 7100) (B : Nat) (bs : List UInt8) (v : Value) (x y z m : Nat) (t : Int) (w : World)
    (H138 : ∀ w, Calls Tryz.prog 138 #[.int .u8 t] w fun e w' => e = .returned (.bool (hasZ t)) ∧ w = w')
    (HW : Bf B w v.ownBlock v bs (w.alloc (.cells #[.float .f64 x, .float .f64 y, .float .f64 z, .float .f64 m, .int .u8 t] 61))) (hlen : bs.length ≤ 90000000000000)
    (Hcall : Hid (∀ (X : List UInt8) (v' : Value) (u : Nat) (w' : World), Bf B (w.alloc (.cells #[.float .f64 x, .float .f64 y, .float .f64 z, .float .f64 m, .int .u8 t] 61)) v.ownBlock v' X w' → X.length ≤ 100000000000000 → Calls Tryz.prog 137 #[v', .float .f64 u] w' fun e w2 => ∃ v2, e = .returned v2 ∧ Bf B (w.alloc (.cells #[.float .f64 x, .float .f64 y, .float .f64 z, .float .f64 m, .int .u8 t] 61)) v.ownBlock v2 (X ++ f u) w2))
    (Hcell : Hid (∀ (X : List UInt8) (v' : Value) (w' : World), Bf B (w.alloc (.cells #[.float .f64 x, .float .f64 y, .float .f64 z, .float .f64 m, .int .u8 t] 61)) v.ownBlock v' X w' → (∀ o, w'.cell? ⟨w.heap.size, o, none⟩ = #[.float .f64 x, .float .f64 y, .float .f64 z, .float .f64 m, .int .u8 t][o]?))) :
    Calls Tryz.prog 88 #[v, .agg #[.float .f64 x, .float .f64 y, .float .f64 z, .float .f64 m, .int .u8 t]] w fun e w' => ∃ v', e = .returned v' ∧ Bf B w v.ownBlock v' (bs ++ jcrdB f x y z t) w' := by
  unfold jcrdB
  generalize hasZ t = hz at *
  cases hz
  · simpa [optB] using c88_n f hf B bs v x y z m t w (Lib.hid H138) (Lib.hid HW) hlen Hcall Hcell
  · simpa [optB] using c88_z f hf B bs v x y z m t w (Lib.hid H138) (Lib.hid HW) hlen Hcall Hcell
theorem c88 (tab : Nat → Int) (B : Nat) (bs : List UInt8) (v : Value) (x y z m : Nat) (t : Int) (w : World) (hT : Tabs tab w) (hB6 : 6 < B) (hb : Bf B w v.ownBlock v bs w) (hlen : bs.length ≤ 90000000000000) (h0 : 0 ≤ t) (h1 : t ≤ 3) :
    Calls Tryz.prog 88 #[v, .agg #[.float .f64 x, .float .f64 y, .float .f64 z, .float .f64 m, .int .u8 t]] w fun e w' => ∃ v', e = .returned v' ∧ Bf B w v.ownBlock v' (bs ++ jcrdB (ftxt tab) x y z t) w' := by
  have hne : some w.heap.size ≠ v.ownBlock := fun e => by have := (hb.blk _ e.symm).2; omega
  have hr6 : ∀ j, v.ownBlock = some j → 6 < j := fun j hj => by have := (hb.blk j hj).1; omega
  have hbW := hb.alloc (.cells #[.float .f64 x, .float .f64 y, .float .f64 z, .float .f64 m, .int .u8 t] 61)
  have hTW := hT.blw (bl_a1 w (.cells #[.float .f64 x, .float .f64 y, .float .f64 z, .float .f64 m, .int .u8 t] 61))
  have hLW := Lb.new w #[.float .f64 x, .float .f64 y, .float .f64 z, .float .f64 m, .int .u8 t] 61
  exact c88' (ftxt tab) (ftxt_len tab) B bs v x y z m t w (fun w => c138 t w h0 h1) hbW hlen
    (Lib.hid fun X v' u w' h hl => (c137 tab B X v' u w' (h.tabs hTW hr6) hB6 h.here hl).mono fun e w2 ⟨v2, he, h2⟩ => ⟨v2, he, h.then h2⟩)
    (Lib.hid fun X v' w' h => (h.lb hLW hne).use.1)
/-- How numbers are printed, places in GeoJSON with them. -/
structure PrintsJ (tab : Nat → Int) (f : Nat → List UInt8) : Prop where
  len : ∀ x, (f x).length ≤ 7100
  place : ∀ (B : Nat) (bs : List UInt8) (v : Value) (x y z m : Nat) (t : Int) (w : World), Tabs tab w → 6 < B → Bf B w v.ownBlock v bs w → bs.length ≤ 90000000000000 → 0 ≤ t → t ≤ 3 →
    Calls Tryz.prog 88 #[v, .agg #[.float .f64 x, .float .f64 y, .float .f64 z, .float .f64 m, .int .u8 t]] w fun e w' => ∃ v', e = .returned v' ∧ Bf B w v.ownBlock v' (bs ++ jcrdB f x y z t) w'
theorem printsJ (tab : Nat → Int) : PrintsJ tab (ftxt tab) := ⟨ftxt_len tab, fun B bs v x y z m t w hT hB hb hl h0 h1 => c88 tab B bs v x y z m t w hT hB hb hl h0 h1⟩
/-- A list in brackets. -/
def jwrap (ps : List (List UInt8)) : List UInt8 := [91] ++ sepB 44 ps ++ [93]
/-- What stands so far in brackets. -/
def Jep (bs : List UInt8) (l : List (List UInt8)) (j : Nat) : List UInt8 := bs ++ [91] ++ sepB 44 (l.take j)
theorem Jep_zero (bs : List UInt8) (l : List (List UInt8)) : Jep bs l 0 = bs ++ [91] := by simp [Jep, sepB]
theorem Jep_one (bs : List UInt8) (l : List (List UInt8)) (h : 0 < l.length) : Jep bs l 1 = Jep bs l 0 ++ l[(0 : Nat)] := by
  have := sepB_take 44 l 0 h
  unfold Jep; rw [this]; simp [sepB]
theorem Jep_step (bs : List UInt8) (l : List (List UInt8)) (j : Nat) (h : j < l.length) (hj : 0 < j) : Jep bs l (j + 1) = Jep bs l j ++ [44] ++ l[j] := by
  unfold Jep; rw [sepB_take 44 l j h, if_neg (by omega)]; simp
theorem Jep_all (bs : List UInt8) (l : List (List UInt8)) : Jep bs l l.length ++ [93] = bs ++ jwrap l := by
  unfold Jep jwrap; rw [List.take_length]; simp
theorem Jep_len (bs : List UInt8) (l : List (List UInt8)) (j : Nat) : (Jep bs l j).length + 1 ≤ bs.length + (jwrap l).length := by
  obtain ⟨c, hc⟩ := sepB_pre 44 (l.take j) (l.drop j)
  rw [List.take_append_drop] at hc
  unfold Jep jwrap
  rw [hc]
  simp only [List.length_append, List.length_cons, List.length_nil]; omega
theorem Jep_len2 (bs : List UInt8) (l : List (List UInt8)) (j : Nat) (h : j < l.length) : (Jep bs l j).length + 1 + l[j].length ≤ bs.length + (jwrap l).length := by
  have := Jep_len bs l (j + 1)
  rcases Nat.eq_zero_or_pos j with rfl | hj
  · rw [Jep_one bs l h] at this
    simp only [List.length_append] at *; omega
  · rw [Jep_step bs l j h hj] at this
    simp only [List.length_append, List.length_cons, List.length_nil] at *; omega
end Go.Proofs.YtahnhhkbdgaidaaGreatDoor
namespace Go.Proofs.YtahnhhkbdgaidaaGreatDoor
open Go.RowKit
set_option maxRecDepth 100000
/-- Blocks that are there, and are not the slice's. -/
def Off (S : Nat → Prop) (v : Value) (w : World) : Prop := ∀ b, S b → b < w.heap.size ∧ some b ≠ v.ownBlock
theorem Bf.off {B : Nat} {W w : World} {v v' : Value} {bs : List UInt8} (h : Bf B W v.ownBlock v' bs w) {S : Nat → Prop} (hS : Off S v W) : Off S v' w := fun b hb => by
  obtain ⟨h1, h2⟩ := hS b hb
  refine ⟨Nat.lt_of_lt_of_le h1 h.kept.size, fun e => ?_⟩
  rcases h.lies b e.symm with k | k
  · omega
  · exact h2 k.symm
def jcrdC (f : Nat → List UInt8) (c : Crd) : List UInt8 := jcrdB f c.x c.y c.z c.t
set_option maxHeartbeats 2000000 in
theorem c90 (tab : Nat → Int) (f : Nat → List UInt8) (hF : PrintsJ tab f) (B : Nat) (S : Nat → Prop) (bs : List UInt8) (v : Value) (t : Int) (xs : List Nat) (a : Option Addr) (c : Nat) (w : World) (hT : Tabs tab w) (hB6 : 6 < B) (hb : Bf B w v.ownBlock v bs w)
    (hlen : bs.length + (jwrap ((plsOf t xs).map (jcrdC f))).length ≤ 80000000000000) (h0 : 0 ≤ t) (h1 : t ≤ 3) (hS : Off S v w) (h : Rd S w (fl xs) (.slice a xs.length c)) :
    Calls Tryz.prog 90 #[v, .agg #[.int .u8 t, .slice a xs.length c]] w fun e w' => ∃ v', e = .returned v' ∧ Bf B w v.ownBlock v' (bs ++ jwrap ((plsOf t xs).map (jcrdC f))) w' := by
  have hmax : xs.length ≤ 17592186044416 := by obtain ⟨_, _, _, hm, _⟩ := fl_inv h; exact hm
  have hdm := Nat.div_mul_le_self xs.length (dN t)
  have hpj0 : ∀ j (hj : j < ((plsOf t xs).map (jcrdC f)).length), ((plsOf t xs).map (jcrdC f))[j] = jcrdC f (crdOf t xs j) := fun j hj => by simp [plsOf]
  have hpl0 : ((plsOf t xs).map (jcrdC f)).length = xs.length / dN t := by simp [plsOf]
  generalize (plsOf t xs).map (jcrdC f) = ps at *
  have hpsm : ps.length ≤ 17592186044416 := by have := Nat.div_le_self xs.length (dN t); omega
  have Hpj : Hid (∀ j (hj : j < ps.length), ps[j] = jcrdC f (crdOf t xs j)) := Lib.hid hpj0
  have Hi : Hid (∀ j, j < ps.length → j * dN t + dN t ≤ xs.length) := Lib.hid fun j hj => by
    rw [hpl0] at hj
    have := Nat.mul_le_mul_right (dN t) (Nat.succ_le_of_lt hj)
    rw [Nat.succ_mul] at this; omega
  have hbW := hb.alloc (.cells #[.int .u8 t, .slice a xs.length c] 67)
  have hTW := hT.blw (bl_a1 w (.cells #[.int .u8 t, .slice a xs.length c] 67))
  have hLW := Lb.new w #[.int .u8 t, .slice a xs.length c] 67
  have hrW := h.alloc (.cells #[.int .u8 t, .slice a xs.length c] 67)
  have H84 := fun w => c84 t a xs.length c w h0 h1 hmax
  rw [← hpl0] at H84
  replace H84 := Lib.hid H84
  have hne : Hid (some w.heap.size ≠ v.ownBlock) := Lib.hid fun e => by have := (hb.blk _ e.symm).2; omega
  have hr6 : Hid (∀ j, v.ownBlock = some j → 6 < j) := Lib.hid fun j hj => by have := (hb.blk j hj).1; omega
  have hap : Hid (∀ b, S b → some b ≠ v.ownBlock) := Lib.hid (fun b hb => (hS b hb).2)
  have hb0 := hbW.here
  have HW := Lib.hid hbW
  generalize hWW : w.alloc (.cells #[.int .u8 t, .slice a xs.length c] 67) = W at *
  have Hlb : Hid (∀ (X : List UInt8) (v' : Value) (w' : World), Bf B W v.ownBlock v' X w' → Lb w' w.heap.size #[.int .u8 t, .slice a xs.length c] 67) := Lib.hid fun X v' w' hx => hx.lb hLW hne.out
  have Hrd : Hid (∀ (X : List UInt8) (v' : Value) (w' : World), Bf B W v.ownBlock v' X w' → Rd S w' (fl xs) (.slice a xs.length c)) := Lib.hid fun X v' w' hx => hx.rd hrW hap.out
  have H87 : Hid (∀ (j : Nat) (w' : World), j < ps.length → Rd S w' (fl xs) (.slice a xs.length c) → Calls Tryz.prog 87 #[.agg #[.int .u8 t, .slice a xs.length c], .int .i64 j] w' fun e w'' =>
      e = .returned (.agg #[.float .f64 (crdOf t xs j).x, .float .f64 (crdOf t xs j).y, .float .f64 (crdOf t xs j).z, .float .f64 (crdOf t xs j).m, .int .u8 t]) ∧ Below w'.heap.size w' w'') := Lib.hid fun j w' hj hr => c87 S t xs a c j w' h0 h1 hr (Hi.out j hj)
  have H88 : Hid (∀ (X : List UInt8) (v' : Value) (j : Nat) (hj : j < ps.length) (w' : World), Bf B W v.ownBlock v' X w' → X.length ≤ 90000000000000 →
      Calls Tryz.prog 88 #[v', .agg #[.float .f64 (crdOf t xs j).x, .float .f64 (crdOf t xs j).y, .float .f64 (crdOf t xs j).z, .float .f64 (crdOf t xs j).m, .int .u8 t]] w' fun e w2 => ∃ v2, e = .returned v2 ∧ Bf B W v.ownBlock v2 (X ++ ps[j]) w2) := Lib.hid fun X v' j hj w' hx hl =>
    (hF.place B X v' _ _ _ _ t w' (hx.tabs hTW hr6.out) hB6 hx.here hl h0 h1).mono fun e w2 ⟨v2, he, h2⟩ => ⟨v2, he, by rw [Hpj.out j hj]; exact hx.then h2⟩
  have HL := Lib.hid fun j => Jep_len bs ps j
  have HL2 := Lib.hid (Jep_len2 bs ps)
  have Hb0 := Lib.hid hb0
  have hW0 := Lib.hid hWW
  clear hb hbW hT hTW hLW hrW hb0 hpj0 hpl0 hdm Hi h
  subst hWW
  go_enter Tryz.func90, Tryz.ntmps90
  obtain ⟨v2, w2, hap2, hb2⟩ := Hb0.out.byte 91 (by have := HL.out 0; rw [Jep_zero] at this; simp only [List.length_append, List.length_cons, List.length_nil] at this; omega)
  rw [World.size_alloc] at hap2
  obtain ⟨kb2, _, _⟩ := (Hlb.out _ _ _ hb2).use
  have Hap2 := Lib.hid hap2; have Hb2 := Lib.hid hb2
  clear hap2 hb2
  go_wp2_with (at_builtin; refine wpList_append_eq rfl _ _ 32 rfl rfl rfl rfl Hap2.out ?_)
  refine (H84.out _).mono ?_
  rintro _ w1 ⟨rfl, hb1⟩
  replace Hb2 := Lib.hid (Hb2.out.step hb1)
  clear H84 hb1 kb2
  go_wp2_with fail
  go_loopw [0, 6] (fun v' i wr => ∃ j : Nat, j ≤ ps.length ∧ i = .int .i64 j ∧ Bf B (w.alloc (.cells #[.int .u8 t, .slice a xs.length c] 67)) v.ownBlock v' (Jep bs ps j) wr) (fun _ i _ => ps.length - (intOf i).toNat)
  case atStart => exact ⟨0, Nat.zero_le _, rfl, by rw [Jep_zero]; exact Hb2.out⟩
  case round =>
    clear Hb0 Hb2 Hap2
    obtain ⟨j, hj, rfl, hx⟩ := hrel
    by_cases hlt : j < ps.length
    · obtain ⟨kb, _, _⟩ := (Hlb.out _ _ _ hx).use
      have hLj := HL2.out j hlt
      have Hx := Lib.hid hx
      by_cases hj0 : j = 0
      · have hd1 : decide ((0 : Int) < (j : Int)) = false := by simp; omega
        have hd2 : decide (0 < j) = false := by simp; omega
        have HS1 : Hid (Jep bs ps (j + 1) = Jep bs ps j ++ ps[j]) := Lib.hid (by subst hj0; rw [Jep_one bs ps hlt, Jep_zero])
        clear hx hj0
        go_wp2_with fail
        refine (H87.out j _ hlt (Hrd.out _ _ _ Hx.out)).mono ?_
        rintro _ w2 ⟨rfl, hbq⟩
        have Hx2 := Lib.hid (Hx.out.step hbq)
        clear hbq kb
        go_wp2_with fail
        refine (H88.out _ _ j hlt _ Hx2.out (by omega)).mono ?_
        rintro _ w3 ⟨v3, rfl, hx3⟩
        have Hx3 := Lib.hid hx3
        clear hx3
        go_wp2_with fail
        go_roundw
        case rel => exact ⟨j + 1, by omega, by go_num, by rw [HS1.out]; exact Hx3.out⟩
        case measure => simp [intOf]; omega
      · have hjp : 0 < j := by omega
        have hd1 : decide ((0 : Int) < (j : Int)) = true := by simpa using hjp
        have hd2 : decide (0 < j) = true := by simpa using hjp
        have HS1 : Hid (Jep bs ps (j + 1) = Jep bs ps j ++ [44] ++ ps[j]) := Lib.hid (Jep_step bs ps j hlt hjp)
        obtain ⟨v4, w4, hap4, hx4⟩ := hx.byte 44 (by omega)
        obtain ⟨kb4, _, _⟩ := (Hlb.out _ _ _ hx4).use
        have Hap4 := Lib.hid hap4; have Hx4 := Lib.hid hx4
        clear hx hj0 hjp hap4 hx4
        go_wp2_with (at_builtin; refine wpList_append_eq rfl _ _ 32 rfl rfl rfl rfl Hap4.out ?_)
        refine (H87.out j _ hlt (Hrd.out _ _ _ Hx4.out)).mono ?_
        rintro _ w2 ⟨rfl, hbq⟩
        have Hx2 := Lib.hid (Hx4.out.step hbq)
        clear hbq kb kb4
        go_wp2_with fail
        refine (H88.out _ _ j hlt _ Hx2.out (by simp only [List.length_append, List.length_cons, List.length_nil]; omega)).mono ?_
        rintro _ w3 ⟨v3, rfl, hx3⟩
        have Hx3 := Lib.hid hx3
        clear hx3
        go_wp2_with fail
        go_roundw
        case rel => exact ⟨j + 1, by omega, by go_num, by rw [HS1.out]; exact Hx3.out⟩
        case measure => simp [intOf]; omega
    · obtain rfl : j = ps.length := by omega
      have hdl : decide (((ps.length : Nat) : Int) < ps.length) = false := by simp
      obtain ⟨v5, w5, hap5, hx5⟩ := hx.byte 93 (by have := HL.out ps.length; omega)
      have Hap5 := Lib.hid hap5; have Hx5 := Lib.hid hx5
      clear hx hap5 hx5
      go_wp2_with (at_builtin; refine wpList_append_eq rfl _ _ 32 rfl rfl rfl rfl Hap5.out ?_)
      go_ret
      refine ⟨_, rfl, ?_⟩
      have e := HW.out.then Hx5.out
      rw [Jep_all bs ps] at e
      exact e
end Go.Proofs.YtahnhhkbdgaidaaGreatDoor
