/-
  Text of geometries: a place.
-/
import Derived.Test.YtahnhhkbdgaidaaGreatDoorCi
namespace Go.Proofs.YtahnhhkbdgaidaaGreatDoor
open Go.RowKit
set_option maxRecDepth 100000
set_option maxHeartbeats 1000000 in
theorem c224_n (f : Nat → List UInt8) (hf : ∀ x, (f x).length ≤ 7100) (B : Nat) (bs : List UInt8) (v : Value) (x y z m : Nat) (t : Int) (w : World)
    (H138 : Hid (∀ w, Calls Tryz.prog 138 #[.int .u8 t] w fun e w' => e = .returned (.bool false) ∧ w = w')) (H148 : Hid (∀ w, Calls Tryz.prog 148 #[.int .u8 t] w fun e w' => e = .returned (.bool false) ∧ w = w'))
    (HW : Hid (Bf B w v.ownBlock v bs (w.alloc (.cells #[.float .f64 x, .float .f64 y, .float .f64 z, .float .f64 m, .int .u8 t] 61)))) (hlen : bs.length ≤ 90000000000000)
    (Hcall : Hid (∀ (X : List UInt8) (v' : Value) (u : Nat) (w' : World), Bf B (w.alloc (.cells #[.float .f64 x, .float .f64 y, .float .f64 z, .float .f64 m, .int .u8 t] 61)) v.ownBlock v' X w' → X.length ≤ 100000000000000 → Calls Tryz.prog 137 #[v', .float .f64 u] w' fun e w2 => ∃ v2, e = .returned v2 ∧ Bf B (w.alloc (.cells #[.float .f64 x, .float .f64 y, .float .f64 z, .float .f64 m, .int .u8 t] 61)) v.ownBlock v2 (X ++ f u) w2))
    (Hcell : Hid (∀ (X : List UInt8) (v' : Value) (w' : World), Bf B (w.alloc (.cells #[.float .f64 x, .float .f64 y, .float .f64 z, .float .f64 m, .int .u8 t] 61)) v.ownBlock v' X w' → (∀ o, w'.cell? ⟨w.heap.size, o, none⟩ = #[.float .f64 x, .float .f64 y, .float .f64 z, .float .f64 m, .int .u8 t][o]?))) :
    Calls Tryz.prog 224 #[v, .agg #[.float .f64 x, .float .f64 y, .float .f64 z, .float .f64 m, .int .u8 t], .bool false] w fun e w' => ∃ v', e = .returned v' ∧ Bf B w v.ownBlock v' (bs ++ f x ++ [32] ++ f y) w' := by
  have lx := hf x; have ly := hf y; have lz := hf z; have lm := hf m
  have Hb0 : Hid (Bf B (w.alloc (.cells #[.float .f64 x, .float .f64 y, .float .f64 z, .float .f64 m, .int .u8 t] 61)) v.ownBlock v bs (w.alloc (.cells #[.float .f64 x, .float .f64 y, .float .f64 z, .float .f64 m, .int .u8 t] 61))) := Lib.hid HW.out.here
  have k0 := Hcell.out _ _ _ Hb0.out
  go_enter Tryz.func224, Tryz.ntmps224
  go_wp2_with fail
  refine (Hcall.out _ _ x _ Hb0.out (by first | omega | (simp only [List.length_append, List.length_cons, List.length_nil]; omega))).mono ?_
  rintro _ w1 ⟨v1, rfl, hb1⟩
  clear k0
  have k1 := Hcell.out _ _ _ hb1
  replace hb1 := Lib.hid hb1
  obtain ⟨v2, w2, hap, hb2⟩ := hb1.out.byte 32 (by first | omega | (simp only [List.length_append, List.length_cons, List.length_nil]; omega))
  have k2 := Hcell.out _ _ _ hb2
  replace hap := Lib.hid hap; replace hb2 := Lib.hid hb2
  go_wp2_with (first | (at_builtin; refine wpList_append_eq rfl _ _ 32 rfl rfl rfl rfl hap.out ?_))
  clear hap k1
  refine (Hcall.out _ _ y _ hb2.out (by first | omega | (simp only [List.length_append, List.length_cons, List.length_nil]; omega))).mono ?_
  rintro _ w3 ⟨v3, rfl, hb3⟩
  clear k2
  have k3 := Hcell.out _ _ _ hb3
  replace hb3 := Lib.hid hb3
  go_wp2_with (first | (go_at_call 138; refine (H138.out _).mono ?_; rintro _ _ ⟨rfl, rfl⟩) | (go_at_call 148; refine (H148.out _).mono ?_; rintro _ _ ⟨rfl, rfl⟩))
  go_ret
  exact ⟨_, rfl, by have e := HW.out.then hb3.out; simpa using e⟩
set_option maxHeartbeats 1000000 in
theorem c224_nm (f : Nat → List UInt8) (hf : ∀ x, (f x).length ≤ 7100) (B : Nat) (bs : List UInt8) (v : Value) (x y z m : Nat) (t : Int) (w : World)
    (H138 : Hid (∀ w, Calls Tryz.prog 138 #[.int .u8 t] w fun e w' => e = .returned (.bool false) ∧ w = w')) (H148 : Hid (∀ w, Calls Tryz.prog 148 #[.int .u8 t] w fun e w' => e = .returned (.bool true) ∧ w = w'))
    (HW : Hid (Bf B w v.ownBlock v bs (w.alloc (.cells #[.float .f64 x, .float .f64 y, .float .f64 z, .float .f64 m, .int .u8 t] 61)))) (hlen : bs.length ≤ 90000000000000)
    (Hcall : Hid (∀ (X : List UInt8) (v' : Value) (u : Nat) (w' : World), Bf B (w.alloc (.cells #[.float .f64 x, .float .f64 y, .float .f64 z, .float .f64 m, .int .u8 t] 61)) v.ownBlock v' X w' → X.length ≤ 100000000000000 → Calls Tryz.prog 137 #[v', .float .f64 u] w' fun e w2 => ∃ v2, e = .returned v2 ∧ Bf B (w.alloc (.cells #[.float .f64 x, .float .f64 y, .float .f64 z, .float .f64 m, .int .u8 t] 61)) v.ownBlock v2 (X ++ f u) w2))
    (Hcell : Hid (∀ (X : List UInt8) (v' : Value) (w' : World), Bf B (w.alloc (.cells #[.float .f64 x, .float .f64 y, .float .f64 z, .float .f64 m, .int .u8 t] 61)) v.ownBlock v' X w' → (∀ o, w'.cell? ⟨w.heap.size, o, none⟩ = #[.float .f64 x, .float .f64 y, .float .f64 z, .float .f64 m, .int .u8 t][o]?))) :
    Calls Tryz.prog 224 #[v, .agg #[.float .f64 x, .float .f64 y, .float .f64 z, .float .f64 m, .int .u8 t], .bool false] w fun e w' => ∃ v', e = .returned v' ∧ Bf B w v.ownBlock v' (bs ++ f x ++ [32] ++ f y ++ [32] ++ f m) w' := by
  have lx := hf x; have ly := hf y; have lz := hf z; have lm := hf m
  have Hb0 : Hid (Bf B (w.alloc (.cells #[.float .f64 x, .float .f64 y, .float .f64 z, .float .f64 m, .int .u8 t] 61)) v.ownBlock v bs (w.alloc (.cells #[.float .f64 x, .float .f64 y, .float .f64 z, .float .f64 m, .int .u8 t] 61))) := Lib.hid HW.out.here
  have k0 := Hcell.out _ _ _ Hb0.out
  go_enter Tryz.func224, Tryz.ntmps224
  go_wp2_with fail
  refine (Hcall.out _ _ x _ Hb0.out (by first | omega | (simp only [List.length_append, List.length_cons, List.length_nil]; omega))).mono ?_
  rintro _ w1 ⟨v1, rfl, hb1⟩
  clear k0
  have k1 := Hcell.out _ _ _ hb1
  replace hb1 := Lib.hid hb1
  obtain ⟨v2, w2, hap, hb2⟩ := hb1.out.byte 32 (by first | omega | (simp only [List.length_append, List.length_cons, List.length_nil]; omega))
  have k2 := Hcell.out _ _ _ hb2
  replace hap := Lib.hid hap; replace hb2 := Lib.hid hb2
  go_wp2_with (first | (at_builtin; refine wpList_append_eq rfl _ _ 32 rfl rfl rfl rfl hap.out ?_))
  clear hap k1
  refine (Hcall.out _ _ y _ hb2.out (by first | omega | (simp only [List.length_append, List.length_cons, List.length_nil]; omega))).mono ?_
  rintro _ w3 ⟨v3, rfl, hb3⟩
  clear k2
  have k3 := Hcell.out _ _ _ hb3
  replace hb3 := Lib.hid hb3
  obtain ⟨v4, w4, hap, hb4⟩ := hb3.out.byte 32 (by first | omega | (simp only [List.length_append, List.length_cons, List.length_nil]; omega))
  have k4 := Hcell.out _ _ _ hb4
  replace hap := Lib.hid hap; replace hb4 := Lib.hid hb4
  go_wp2_with (first | (go_at_call 138; refine (H138.out _).mono ?_; rintro _ _ ⟨rfl, rfl⟩) | (go_at_call 148; refine (H148.out _).mono ?_; rintro _ _ ⟨rfl, rfl⟩) | (at_builtin; refine wpList_append_eq rfl _ _ 32 rfl rfl rfl rfl hap.out ?_))
  clear hap k3
  refine (Hcall.out _ _ m _ hb4.out (by first | omega | (simp only [List.length_append, List.length_cons, List.length_nil]; omega))).mono ?_
  rintro _ w5 ⟨v5, rfl, hb5⟩
  clear k4
  have k5 := Hcell.out _ _ _ hb5
  replace hb5 := Lib.hid hb5
  go_wp2_with (first | (go_at_call 138; refine (H138.out _).mono ?_; rintro _ _ ⟨rfl, rfl⟩) | (go_at_call 148; refine (H148.out _).mono ?_; rintro _ _ ⟨rfl, rfl⟩))
  go_ret
  exact ⟨_, rfl, by have e := HW.out.then hb5.out; simpa using e⟩
set_option maxHeartbeats 1000000 in
theorem c224_nz (f : Nat → List UInt8) (hf : ∀ x, (f x).length ≤ 7100) (B : Nat) (bs : List UInt8) (v : Value) (x y z m : Nat) (t : Int) (w : World)
    (H138 : Hid (∀ w, Calls Tryz.prog 138 #[.int .u8 t] w fun e w' => e = .returned (.bool true) ∧ w = w')) (H148 : Hid (∀ w, Calls Tryz.prog 148 #[.int .u8 t] w fun e w' => e = .returned (.bool false) ∧ w = w'))
    (HW : Hid (Bf B w v.ownBlock v bs (w.alloc (.cells #[.float .f64 x, .float .f64 y, .float .f64 z, .float .f64 m, .int .u8 t] 61)))) (hlen : bs.length ≤ 90000000000000)
    (Hcall : Hid (∀ (X : List UInt8) (v' : Value) (u : Nat) (w' : World), Bf B (w.alloc (.cells #[.float .f64 x, .float .f64 y, .float .f64 z, .float .f64 m, .int .u8 t] 61)) v.ownBlock v' X w' → X.length ≤ 100000000000000 → Calls Tryz.prog 137 #[v', .float .f64 u] w' fun e w2 => ∃ v2, e = .returned v2 ∧ Bf B (w.alloc (.cells #[.float .f64 x, .float .f64 y, .float .f64 z, .float .f64 m, .int .u8 t] 61)) v.ownBlock v2 (X ++ f u) w2))
    (Hcell : Hid (∀ (X : List UInt8) (v' : Value) (w' : World), Bf B (w.alloc (.cells #[.float .f64 x, .float .f64 y, .float .f64 z, .float .f64 m, .int .u8 t] 61)) v.ownBlock v' X w' → (∀ o, w'.cell? ⟨w.heap.size, o, none⟩ = #[.float .f64 x, .float .f64 y, .float .f64 z, .float .f64 m, .int .u8 t][o]?))) :
    Calls Tryz.prog 224 #[v, .agg #[.float .f64 x, .float .f64 y, .float .f64 z, .float .f64 m, .int .u8 t], .bool false] w fun e w' => ∃ v', e = .returned v' ∧ Bf B w v.ownBlock v' (bs ++ f x ++ [32] ++ f y ++ [32] ++ f z) w' := by
  have lx := hf x; have ly := hf y; have lz := hf z; have lm := hf m
  have Hb0 : Hid (Bf B (w.alloc (.cells #[.float .f64 x, .float .f64 y, .float .f64 z, .float .f64 m, .int .u8 t] 61)) v.ownBlock v bs (w.alloc (.cells #[.float .f64 x, .float .f64 y, .float .f64 z, .float .f64 m, .int .u8 t] 61))) := Lib.hid HW.out.here
  have k0 := Hcell.out _ _ _ Hb0.out
  go_enter Tryz.func224, Tryz.ntmps224
  go_wp2_with fail
  refine (Hcall.out _ _ x _ Hb0.out (by first | omega | (simp only [List.length_append, List.length_cons, List.length_nil]; omega))).mono ?_
  rintro _ w1 ⟨v1, rfl, hb1⟩
  clear k0
  have k1 := Hcell.out _ _ _ hb1
  replace hb1 := Lib.hid hb1
  obtain ⟨v2, w2, hap, hb2⟩ := hb1.out.byte 32 (by first | omega | (simp only [List.length_append, List.length_cons, List.length_nil]; omega))
  have k2 := Hcell.out _ _ _ hb2
  replace hap := Lib.hid hap; replace hb2 := Lib.hid hb2
  go_wp2_with (first | (at_builtin; refine wpList_append_eq rfl _ _ 32 rfl rfl rfl rfl hap.out ?_))
  clear hap k1
  refine (Hcall.out _ _ y _ hb2.out (by first | omega | (simp only [List.length_append, List.length_cons, List.length_nil]; omega))).mono ?_
  rintro _ w3 ⟨v3, rfl, hb3⟩
  clear k2
  have k3 := Hcell.out _ _ _ hb3
  replace hb3 := Lib.hid hb3
  obtain ⟨v4, w4, hap, hb4⟩ := hb3.out.byte 32 (by first | omega | (simp only [List.length_append, List.length_cons, List.length_nil]; omega))
  have k4 := Hcell.out _ _ _ hb4
  replace hap := Lib.hid hap; replace hb4 := Lib.hid hb4
  go_wp2_with (first | (go_at_call 138; refine (H138.out _).mono ?_; rintro _ _ ⟨rfl, rfl⟩) | (go_at_call 148; refine (H148.out _).mono ?_; rintro _ _ ⟨rfl, rfl⟩) | (at_builtin; refine wpList_append_eq rfl _ _ 32 rfl rfl rfl rfl hap.out ?_))
  clear hap k3
  refine (Hcall.out _ _ z _ hb4.out (by first | omega | (simp only [List.length_append, List.length_cons, List.length_nil]; omega))).mono ?_
  rintro _ w5 ⟨v5, rfl, hb5⟩
  clear k4
  have k5 := Hcell.out _ _ _ hb5
  replace hb5 := Lib.hid hb5
  go_wp2_with (first | (go_at_call 138; refine (H138.out _).mono ?_; rintro _ _ ⟨rfl, rfl⟩) | (go_at_call 148; refine (H148.out _).mono ?_; rintro _ _ ⟨rfl, rfl⟩))
  go_ret
  exact ⟨_, rfl, by have e := HW.out.then hb5.out; simpa using e⟩
set_option maxHeartbeats 1000000 in
theorem c224_nzm (f : Nat → List UInt8) (hf : ∀ x, (f x).length ≤ 7100) (B : Nat) (bs : List UInt8) (v : Value) (x y z m : Nat) (t : Int) (w : World)
    (H138 : Hid (∀ w, Calls Tryz.prog 138 #[.int .u8 t] w fun e w' => e = .returned (.bool true) ∧ w = w')) (H148 : Hid (∀ w, Calls Tryz.prog 148 #[.int .u8 t] w fun e w' => e = .returned (.bool true) ∧ w = w'))
    (HW : Hid (Bf B w v.ownBlock v bs (w.alloc (.cells #[.float .f64 x, .float .f64 y, .float .f64 z, .float .f64 m, .int .u8 t] 61)))) (hlen : bs.length ≤ 90000000000000)
    (Hcall : Hid (∀ (X : List UInt8) (v' : Value) (u : Nat) (w' : World), Bf B (w.alloc (.cells #[.float .f64 x, .float .f64 y, .float .f64 z, .float .f64 m, .int .u8 t] 61)) v.ownBlock v' X w' → X.length ≤ 100000000000000 → Calls Tryz.prog 137 #[v', .float .f64 u] w' fun e w2 => ∃ v2, e = .returned v2 ∧ Bf B (w.alloc (.cells #[.float .f64 x, .float .f64 y, .float .f64 z, .float .f64 m, .int .u8 t] 61)) v.ownBlock v2 (X ++ f u) w2))
    (Hcell : Hid (∀ (X : List UInt8) (v' : Value) (w' : World), Bf B (w.alloc (.cells #[.float .f64 x, .float .f64 y, .float .f64 z, .float .f64 m, .int .u8 t] 61)) v.ownBlock v' X w' → (∀ o, w'.cell? ⟨w.heap.size, o, none⟩ = #[.float .f64 x, .float .f64 y, .float .f64 z, .float .f64 m, .int .u8 t][o]?))) :
    Calls Tryz.prog 224 #[v, .agg #[.float .f64 x, .float .f64 y, .float .f64 z, .float .f64 m, .int .u8 t], .bool false] w fun e w' => ∃ v', e = .returned v' ∧ Bf B w v.ownBlock v' (bs ++ f x ++ [32] ++ f y ++ [32] ++ f z ++ [32] ++ f m) w' := by
  have lx := hf x; have ly := hf y; have lz := hf z; have lm := hf m
  have Hb0 : Hid (Bf B (w.alloc (.cells #[.float .f64 x, .float .f64 y, .float .f64 z, .float .f64 m, .int .u8 t] 61)) v.ownBlock v bs (w.alloc (.cells #[.float .f64 x, .float .f64 y, .float .f64 z, .float .f64 m, .int .u8 t] 61))) := Lib.hid HW.out.here
  have k0 := Hcell.out _ _ _ Hb0.out
  go_enter Tryz.func224, Tryz.ntmps224
  go_wp2_with fail
  refine (Hcall.out _ _ x _ Hb0.out (by first | omega | (simp only [List.length_append, List.length_cons, List.length_nil]; omega))).mono ?_
  rintro _ w1 ⟨v1, rfl, hb1⟩
  clear k0
  have k1 := Hcell.out _ _ _ hb1
  replace hb1 := Lib.hid hb1
  obtain ⟨v2, w2, hap, hb2⟩ := hb1.out.byte 32 (by first | omega | (simp only [List.length_append, List.length_cons, List.length_nil]; omega))
  have k2 := Hcell.out _ _ _ hb2
  replace hap := Lib.hid hap; replace hb2 := Lib.hid hb2
  go_wp2_with (first | (at_builtin; refine wpList_append_eq rfl _ _ 32 rfl rfl rfl rfl hap.out ?_))
  clear hap k1
  refine (Hcall.out _ _ y _ hb2.out (by first | omega | (simp only [List.length_append, List.length_cons, List.length_nil]; omega))).mono ?_
  rintro _ w3 ⟨v3, rfl, hb3⟩
  clear k2
  have k3 := Hcell.out _ _ _ hb3
  replace hb3 := Lib.hid hb3
  obtain ⟨v4, w4, hap, hb4⟩ := hb3.out.byte 32 (by first | omega | (simp only [List.length_append, List.length_cons, List.length_nil]; omega))
  have k4 := Hcell.out _ _ _ hb4
  replace hap := Lib.hid hap; replace hb4 := Lib.hid hb4
  go_wp2_with (first | (go_at_call 138; refine (H138.out _).mono ?_; rintro _ _ ⟨rfl, rfl⟩) | (go_at_call 148; refine (H148.out _).mono ?_; rintro _ _ ⟨rfl, rfl⟩) | (at_builtin; refine wpList_append_eq rfl _ _ 32 rfl rfl rfl rfl hap.out ?_))
  clear hap k3
  refine (Hcall.out _ _ z _ hb4.out (by first | omega | (simp only [List.length_append, List.length_cons, List.length_nil]; omega))).mono ?_
  rintro _ w5 ⟨v5, rfl, hb5⟩
  clear k4
  have k5 := Hcell.out _ _ _ hb5
  replace hb5 := Lib.hid hb5
  obtain ⟨v6, w6, hap, hb6⟩ := hb5.out.byte 32 (by first | omega | (simp only [List.length_append, List.length_cons, List.length_nil]; omega))
  have k6 := Hcell.out _ _ _ hb6
  replace hap := Lib.hid hap; replace hb6 := Lib.hid hb6
  go_wp2_with (first | (go_at_call 138; refine (H138.out _).mono ?_; rintro _ _ ⟨rfl, rfl⟩) | (go_at_call 148; refine (H148.out _).mono ?_; rintro _ _ ⟨rfl, rfl⟩) | (at_builtin; refine wpList_append_eq rfl _ _ 32 rfl rfl rfl rfl hap.out ?_))
  clear hap k5
  refine (Hcall.out _ _ m _ hb6.out (by first | omega | (simp only [List.length_append, List.length_cons, List.length_nil]; omega))).mono ?_
  rintro _ w7 ⟨v7, rfl, hb7⟩
  clear k6
  have k7 := Hcell.out _ _ _ hb7
  replace hb7 := Lib.hid hb7
  go_wp2_with (first | (go_at_call 138; refine (H138.out _).mono ?_; rintro _ _ ⟨rfl, rfl⟩) | (go_at_call 148; refine (H148.out _).mono ?_; rintro _ _ ⟨rfl, rfl⟩))
  go_ret
  exact ⟨_, rfl, by have e := HW.out.then hb7.out; simpa using e⟩
set_option maxHeartbeats 1000000 in
theorem c224_p (f : Nat → List UInt8) (hf : ∀ x, (f x).length ≤ 7100) (B : Nat) (bs : List UInt8) (v : Value) (x y z m : Nat) (t : Int) (w : World)
    (H138 : Hid (∀ w, Calls Tryz.prog 138 #[.int .u8 t] w fun e w' => e = .returned (.bool false) ∧ w = w')) (H148 : Hid (∀ w, Calls Tryz.prog 148 #[.int .u8 t] w fun e w' => e = .returned (.bool false) ∧ w = w'))
    (HW : Hid (Bf B w v.ownBlock v bs (w.alloc (.cells #[.float .f64 x, .float .f64 y, .float .f64 z, .float .f64 m, .int .u8 t] 61)))) (hlen : bs.length ≤ 90000000000000)
    (Hcall : Hid (∀ (X : List UInt8) (v' : Value) (u : Nat) (w' : World), Bf B (w.alloc (.cells #[.float .f64 x, .float .f64 y, .float .f64 z, .float .f64 m, .int .u8 t] 61)) v.ownBlock v' X w' → X.length ≤ 100000000000000 → Calls Tryz.prog 137 #[v', .float .f64 u] w' fun e w2 => ∃ v2, e = .returned v2 ∧ Bf B (w.alloc (.cells #[.float .f64 x, .float .f64 y, .float .f64 z, .float .f64 m, .int .u8 t] 61)) v.ownBlock v2 (X ++ f u) w2))
    (Hcell : Hid (∀ (X : List UInt8) (v' : Value) (w' : World), Bf B (w.alloc (.cells #[.float .f64 x, .float .f64 y, .float .f64 z, .float .f64 m, .int .u8 t] 61)) v.ownBlock v' X w' → (∀ o, w'.cell? ⟨w.heap.size, o, none⟩ = #[.float .f64 x, .float .f64 y, .float .f64 z, .float .f64 m, .int .u8 t][o]?))) :
    Calls Tryz.prog 224 #[v, .agg #[.float .f64 x, .float .f64 y, .float .f64 z, .float .f64 m, .int .u8 t], .bool true] w fun e w' => ∃ v', e = .returned v' ∧ Bf B w v.ownBlock v' (bs ++ [40] ++ f x ++ [32] ++ f y ++ [41]) w' := by
  have lx := hf x; have ly := hf y; have lz := hf z; have lm := hf m
  have Hb0 : Hid (Bf B (w.alloc (.cells #[.float .f64 x, .float .f64 y, .float .f64 z, .float .f64 m, .int .u8 t] 61)) v.ownBlock v bs (w.alloc (.cells #[.float .f64 x, .float .f64 y, .float .f64 z, .float .f64 m, .int .u8 t] 61))) := Lib.hid HW.out.here
  have k0 := Hcell.out _ _ _ Hb0.out
  go_enter Tryz.func224, Tryz.ntmps224
  obtain ⟨v1, w1, hap, hb1⟩ := Hb0.out.byte 40 (by first | omega | (simp only [List.length_append, List.length_cons, List.length_nil]; omega))
  rw [World.size_alloc] at hap
  have k1 := Hcell.out _ _ _ hb1
  replace hap := Lib.hid hap; replace hb1 := Lib.hid hb1
  go_wp2_with (first | (at_builtin; refine wpList_append_eq rfl _ _ 32 rfl rfl rfl rfl hap.out ?_))
  clear hap k0
  refine (Hcall.out _ _ x _ hb1.out (by first | omega | (simp only [List.length_append, List.length_cons, List.length_nil]; omega))).mono ?_
  rintro _ w2 ⟨v2, rfl, hb2⟩
  clear k1
  have k2 := Hcell.out _ _ _ hb2
  replace hb2 := Lib.hid hb2
  obtain ⟨v3, w3, hap, hb3⟩ := hb2.out.byte 32 (by first | omega | (simp only [List.length_append, List.length_cons, List.length_nil]; omega))
  have k3 := Hcell.out _ _ _ hb3
  replace hap := Lib.hid hap; replace hb3 := Lib.hid hb3
  go_wp2_with (first | (at_builtin; refine wpList_append_eq rfl _ _ 32 rfl rfl rfl rfl hap.out ?_))
  clear hap k2
  refine (Hcall.out _ _ y _ hb3.out (by first | omega | (simp only [List.length_append, List.length_cons, List.length_nil]; omega))).mono ?_
  rintro _ w4 ⟨v4, rfl, hb4⟩
  clear k3
  have k4 := Hcell.out _ _ _ hb4
  replace hb4 := Lib.hid hb4
  obtain ⟨v5, w5, hap, hb5⟩ := hb4.out.byte 41 (by first | omega | (simp only [List.length_append, List.length_cons, List.length_nil]; omega))
  have k5 := Hcell.out _ _ _ hb5
  replace hap := Lib.hid hap; replace hb5 := Lib.hid hb5
  go_wp2_with (first | (go_at_call 138; refine (H138.out _).mono ?_; rintro _ _ ⟨rfl, rfl⟩) | (go_at_call 148; refine (H148.out _).mono ?_; rintro _ _ ⟨rfl, rfl⟩) | (at_builtin; refine wpList_append_eq rfl _ _ 32 rfl rfl rfl rfl hap.out ?_))
  clear hap k4
  go_ret
  exact ⟨_, rfl, by have e := HW.out.then hb5.out; simpa using e⟩
set_option maxHeartbeats 1000000 in
theorem c224_pm (f : Nat → List UInt8) (hf : ∀ x, (f x).length ≤ 7100) (B : Nat) (bs : List UInt8) (v : Value) (x y z m : Nat) (t : Int) (w : World)
    (H138 : Hid (∀ w, Calls Tryz.prog 138 #[.int .u8 t] w fun e w' => e = .returned (.bool false) ∧ w = w')) (H148 : Hid (∀ w, Calls Tryz.prog 148 #[.int .u8 t] w fun e w' => e = .returned (.bool true) ∧ w = w'))
    (HW : Hid (Bf B w v.ownBlock v bs (w.alloc (.cells #[.float .f64 x, .float .f64 y, .float .f64 z, .float .f64 m, .int .u8 t] 61)))) (hlen : bs.length ≤ 90000000000000)
    (Hcall : Hid (∀ (X : List UInt8) (v' : Value) (u : Nat) (w' : World), Bf B (w.alloc (.cells #[.float .f64 x, .float .f64 y, .float .f64 z, .float .f64 m, .int .u8 t] 61)) v.ownBlock v' X w' → X.length ≤ 100000000000000 → Calls Tryz.prog 137 #[v', .float .f64 u] w' fun e w2 => ∃ v2, e = .returned v2 ∧ Bf B (w.alloc (.cells #[.float .f64 x, .float .f64 y, .float .f64 z, .float .f64 m, .int .u8 t] 61)) v.ownBlock v2 (X ++ f u) w2))
    (Hcell : Hid (∀ (X : List UInt8) (v' : Value) (w' : World), Bf B (w.alloc (.cells #[.float .f64 x, .float .f64 y, .float .f64 z, .float .f64 m, .int .u8 t] 61)) v.ownBlock v' X w' → (∀ o, w'.cell? ⟨w.heap.size, o, none⟩ = #[.float .f64 x, .float .f64 y, .float .f64 z, .float .f64 m, .int .u8 t][o]?))) :
    Calls Tryz.prog 224 #[v, .agg #[.float .f64 x, .float .f64 y, .float .f64 z, .float .f64 m, .int .u8 t], .bool true] w fun e w' => ∃ v', e = .returned v' ∧ Bf B w v.ownBlock v' (bs ++ [40] ++ f x ++ [32] ++ f y ++ [32] ++ f m ++ [41]) w' := by
  have lx := hf x; have ly := hf y; have lz := hf z; have lm := hf m
  have Hb0 : Hid (Bf B (w.alloc (.cells #[.float .f64 x, .float .f64 y, .float .f64 z, .float .f64 m, .int .u8 t] 61)) v.ownBlock v bs (w.alloc (.cells #[.float .f64 x, .float .f64 y, .float .f64 z, .float .f64 m, .int .u8 t] 61))) := Lib.hid HW.out.here
  have k0 := Hcell.out _ _ _ Hb0.out
  go_enter Tryz.func224, Tryz.ntmps224
  obtain ⟨v1, w1, hap, hb1⟩ := Hb0.out.byte 40 (by first | omega | (simp only [List.length_append, List.length_cons, List.length_nil]; omega))
  rw [World.size_alloc] at hap
  have k1 := Hcell.out _ _ _ hb1
  replace hap := Lib.hid hap; replace hb1 := Lib.hid hb1
  go_wp2_with (first | (at_builtin; refine wpList_append_eq rfl _ _ 32 rfl rfl rfl rfl hap.out ?_))
  clear hap k0
  refine (Hcall.out _ _ x _ hb1.out (by first | omega | (simp only [List.length_append, List.length_cons, List.length_nil]; omega))).mono ?_
  rintro _ w2 ⟨v2, rfl, hb2⟩
  clear k1
  have k2 := Hcell.out _ _ _ hb2
  replace hb2 := Lib.hid hb2
  obtain ⟨v3, w3, hap, hb3⟩ := hb2.out.byte 32 (by first | omega | (simp only [List.length_append, List.length_cons, List.length_nil]; omega))
  have k3 := Hcell.out _ _ _ hb3
  replace hap := Lib.hid hap; replace hb3 := Lib.hid hb3
  go_wp2_with (first | (at_builtin; refine wpList_append_eq rfl _ _ 32 rfl rfl rfl rfl hap.out ?_))
  clear hap k2
  refine (Hcall.out _ _ y _ hb3.out (by first | omega | (simp only [List.length_append, List.length_cons, List.length_nil]; omega))).mono ?_
  rintro _ w4 ⟨v4, rfl, hb4⟩
  clear k3
  have k4 := Hcell.out _ _ _ hb4
  replace hb4 := Lib.hid hb4
  obtain ⟨v5, w5, hap, hb5⟩ := hb4.out.byte 32 (by first | omega | (simp only [List.length_append, List.length_cons, List.length_nil]; omega))
  have k5 := Hcell.out _ _ _ hb5
  replace hap := Lib.hid hap; replace hb5 := Lib.hid hb5
  go_wp2_with (first | (go_at_call 138; refine (H138.out _).mono ?_; rintro _ _ ⟨rfl, rfl⟩) | (go_at_call 148; refine (H148.out _).mono ?_; rintro _ _ ⟨rfl, rfl⟩) | (at_builtin; refine wpList_append_eq rfl _ _ 32 rfl rfl rfl rfl hap.out ?_))
  clear hap k4
  refine (Hcall.out _ _ m _ hb5.out (by first | omega | (simp only [List.length_append, List.length_cons, List.length_nil]; omega))).mono ?_
  rintro _ w6 ⟨v6, rfl, hb6⟩
  clear k5
  have k6 := Hcell.out _ _ _ hb6
  replace hb6 := Lib.hid hb6
  obtain ⟨v7, w7, hap, hb7⟩ := hb6.out.byte 41 (by first | omega | (simp only [List.length_append, List.length_cons, List.length_nil]; omega))
  have k7 := Hcell.out _ _ _ hb7
  replace hap := Lib.hid hap; replace hb7 := Lib.hid hb7
  go_wp2_with (first | (go_at_call 138; refine (H138.out _).mono ?_; rintro _ _ ⟨rfl, rfl⟩) | (go_at_call 148; refine (H148.out _).mono ?_; rintro _ _ ⟨rfl, rfl⟩) | (at_builtin; refine wpList_append_eq rfl _ _ 32 rfl rfl rfl rfl hap.out ?_))
  clear hap k6
  go_ret
  exact ⟨_, rfl, by have e := HW.out.then hb7.out; simpa using e⟩
set_option maxHeartbeats 1000000 in
theorem c224_pz (f : Nat → List UInt8) (hf : ∀ x, (f x).length ≤ 7100) (B : Nat) (bs : List UInt8) (v : Value) (x y z m : Nat) (t : Int) (w : World)
    (H138 : Hid (∀ w, Calls Tryz.prog 138 #[.int .u8 t] w fun e w' => e = .returned (.bool true) ∧ w = w')) (H148 : Hid (∀ w, Calls Tryz.prog 148 #[.int .u8 t] w fun e w' => e = .returned (.bool false) ∧ w = w'))
    (HW : Hid (Bf B w v.ownBlock v bs (w.alloc (.cells #[.float .f64 x, .float .f64 y, .float .f64 z, .float .f64 m, .int .u8 t] 61)))) (hlen : bs.length ≤ 90000000000000)
    (Hcall : Hid (∀ (X : List UInt8) (v' : Value) (u : Nat) (w' : World), Bf B (w.alloc (.cells #[.float .f64 x, .float .f64 y, .float .f64 z, .float .f64 m, .int .u8 t] 61)) v.ownBlock v' X w' → X.length ≤ 100000000000000 → Calls Tryz.prog 137 #[v', .float .f64 u] w' fun e w2 => ∃ v2, e = .returned v2 ∧ Bf B (w.alloc (.cells #[.float .f64 x, .float .f64 y, .float .f64 z, .float .f64 m, .int .u8 t] 61)) v.ownBlock v2 (X ++ f u) w2))
    (Hcell : Hid (∀ (X : List UInt8) (v' : Value) (w' : World), Bf B (w.alloc (.cells #[.float .f64 x, .float .f64 y, .float .f64 z, .float .f64 m, .int .u8 t] 61)) v.ownBlock v' X w' → (∀ o, w'.cell? ⟨w.heap.size, o, none⟩ = #[.float .f64 x, .float .f64 y, .float .f64 z, .float .f64 m, .int .u8 t][o]?))) :
    Calls Tryz.prog 224 #[v, .agg #[.float .f64 x, .float .f64 y, .float .f64 z, .float .f64 m, .int .u8 t], .bool true] w fun e w' => ∃ v', e = .returned v' ∧ Bf B w v.ownBlock v' (bs ++ [40] ++ f x ++ [32] ++ f y ++ [32] ++ f z ++ [41]) w' := by
  have lx := hf x; have ly := hf y; have lz := hf z; have lm := hf m
  have Hb0 : Hid (Bf B (w.alloc (.cells #[.float .f64 x, .float .f64 y, .float .f64 z, .float .f64 m, .int .u8 t] 61)) v.ownBlock v bs (w.alloc (.cells #[.float .f64 x, .float .f64 y, .float .f64 z, .float .f64 m, .int .u8 t] 61))) := Lib.hid HW.out.here
  have k0 := Hcell.out _ _ _ Hb0.out
  go_enter Tryz.func224, Tryz.ntmps224
  obtain ⟨v1, w1, hap, hb1⟩ := Hb0.out.byte 40 (by first | omega | (simp only [List.length_append, List.length_cons, List.length_nil]; omega))
  rw [World.size_alloc] at hap
  have k1 := Hcell.out _ _ _ hb1
  replace hap := Lib.hid hap; replace hb1 := Lib.hid hb1
  go_wp2_with (first | (at_builtin; refine wpList_append_eq rfl _ _ 32 rfl rfl rfl rfl hap.out ?_))
  clear hap k0
  refine (Hcall.out _ _ x _ hb1.out (by first | omega | (simp only [List.length_append, List.length_cons, List.length_nil]; omega))).mono ?_
  rintro _ w2 ⟨v2, rfl, hb2⟩
  clear k1
  have k2 := Hcell.out _ _ _ hb2
  replace hb2 := Lib.hid hb2
  obtain ⟨v3, w3, hap, hb3⟩ := hb2.out.byte 32 (by first | omega | (simp only [List.length_append, List.length_cons, List.length_nil]; omega))
  have k3 := Hcell.out _ _ _ hb3
  replace hap := Lib.hid hap; replace hb3 := Lib.hid hb3
  go_wp2_with (first | (at_builtin; refine wpList_append_eq rfl _ _ 32 rfl rfl rfl rfl hap.out ?_))
  clear hap k2
  refine (Hcall.out _ _ y _ hb3.out (by first | omega | (simp only [List.length_append, List.length_cons, List.length_nil]; omega))).mono ?_
  rintro _ w4 ⟨v4, rfl, hb4⟩
  clear k3
  have k4 := Hcell.out _ _ _ hb4
  replace hb4 := Lib.hid hb4
  obtain ⟨v5, w5, hap, hb5⟩ := hb4.out.byte 32 (by first | omega | (simp only [List.length_append, List.length_cons, List.length_nil]; omega))
  have k5 := Hcell.out _ _ _ hb5
  replace hap := Lib.hid hap; replace hb5 := Lib.hid hb5
  go_wp2_with (first | (go_at_call 138; refine (H138.out _).mono ?_; rintro _ _ ⟨rfl, rfl⟩) | (go_at_call 148; refine (H148.out _).mono ?_; rintro _ _ ⟨rfl, rfl⟩) | (at_builtin; refine wpList_append_eq rfl _ _ 32 rfl rfl rfl rfl hap.out ?_))
  clear hap k4
  refine (Hcall.out _ _ z _ hb5.out (by first | omega | (simp only [List.length_append, List.length_cons, List.length_nil]; omega))).mono ?_
  rintro _ w6 ⟨v6, rfl, hb6⟩
  clear k5
  have k6 := Hcell.out _ _ _ hb6
  replace hb6 := Lib.hid hb6
  obtain ⟨v7, w7, hap, hb7⟩ := hb6.out.byte 41 (by first | omega | (simp only [List.length_append, List.length_cons, List.length_nil]; omega))
  have k7 := Hcell.out _ _ _ hb7
  replace hap := Lib.hid hap; replace hb7 := Lib.hid hb7
  go_wp2_with (first | (go_at_call 138; refine (H138.out _).mono ?_; rintro _ _ ⟨rfl, rfl⟩) | (go_at_call 148; refine (H148.out _).mono ?_; rintro _ _ ⟨rfl, rfl⟩) | (at_builtin; refine wpList_append_eq rfl _ _ 32 rfl rfl rfl rfl hap.out ?_))
  clear hap k6
  go_ret
  exact ⟨_, rfl, by have e := HW.out.then hb7.out; simpa using e⟩
set_option maxHeartbeats 1000000 in
theorem c224_pzm (f : Nat → List UInt8) (hf : ∀ x, (f x).length ≤ 7100) (B : Nat) (bs : List UInt8) (v : Value) (x y z m : Nat) (t : Int) (w : World)
    (H138 : Hid (∀ w, Calls Tryz.prog 138 #[.int .u8 t] w fun e w' => e = .returned (.bool true) ∧ w = w')) (H148 : Hid (∀ w, Calls Tryz.prog 148 #[.int .u8 t] w fun e w' => e = .returned (.bool true) ∧ w = w'))
    (HW : Hid (Bf B w v.ownBlock v bs (w.alloc (.cells #[.float .f64 x, .float .f64 y, .float .f64 z, .float .f64 m, .int .u8 t] 61)))) (hlen : bs.length ≤ 90000000000000)
    (Hcall : Hid (∀ (X : List UInt8) (v' : Value) (u : Nat) (w' : World), Bf B (w.alloc (.cells #[.float .f64 x, .float .f64 y, .float .f64 z, .float .f64 m, .int .u8 t] 61)) v.ownBlock v' X w' → X.length ≤ 100000000000000 → Calls Tryz.prog 137 #[v', .float .f64 u] w' fun e w2 => ∃ v2, e = .returned v2 ∧ Bf B (w.alloc (.cells #[.float .f64 x, .float .f64 y, .float .f64 z, .float .f64 m, .int .u8 t] 61)) v.ownBlock v2 (X ++ f u) w2))
    (Hcell : Hid (∀ (X : List UInt8) (v' : Value) (w' : World), Bf B (w.alloc (.cells #[.float .f64 x, .float .f64 y, .float .f64 z, .float .f64 m, .int .u8 t] 61)) v.ownBlock v' X w' → (∀ o, w'.cell? ⟨w.heap.size, o, none⟩ = #[.float .f64 x, .float .f64 y, .float .f64 z, .float .f64 m, .int .u8 t][o]?))) :
    Calls Tryz.prog 224 #[v, .agg #[.float .f64 x, .float .f64 y, .float .f64 z, .float .f64 m, .int .u8 t], .bool true] w fun e w' => ∃ v', e = .returned v' ∧ Bf B w v.ownBlock v' (bs ++ [40] ++ f x ++ [32] ++ f y ++ [32] ++ f z ++ [32] ++ f m ++ [41]) w' := by
  have lx := hf x; have ly := hf y; have lz := hf z; have lm := hf m
  have Hb0 : Hid (Bf B (w.alloc (.cells #[.float .f64 x, .float .f64 y, .float .f64 z, .float .f64 m, .int .u8 t] 61)) v.ownBlock v bs (w.alloc (.cells #[.float .f64 x, .float .f64 y, .float .f64 z, .float .f64 m, .int .u8 t] 61))) := Lib.hid HW.out.here
  have k0 := Hcell.out _ _ _ Hb0.out
  go_enter Tryz.func224, Tryz.ntmps224
  obtain ⟨v1, w1, hap, hb1⟩ := Hb0.out.byte 40 (by first | omega | (simp only [List.length_append, List.length_cons, List.length_nil]; omega))
  rw [World.size_alloc] at hap
  have k1 := Hcell.out _ _ _ hb1
  replace hap := Lib.hid hap; replace hb1 := Lib.hid hb1
  go_wp2_with (first | (at_builtin; refine wpList_append_eq rfl _ _ 32 rfl rfl rfl rfl hap.out ?_))
  clear hap k0
  refine (Hcall.out _ _ x _ hb1.out (by first | omega | (simp only [List.length_append, List.length_cons, List.length_nil]; omega))).mono ?_
  rintro _ w2 ⟨v2, rfl, hb2⟩
  clear k1
  have k2 := Hcell.out _ _ _ hb2
  replace hb2 := Lib.hid hb2
  obtain ⟨v3, w3, hap, hb3⟩ := hb2.out.byte 32 (by first | omega | (simp only [List.length_append, List.length_cons, List.length_nil]; omega))
  have k3 := Hcell.out _ _ _ hb3
  replace hap := Lib.hid hap; replace hb3 := Lib.hid hb3
  go_wp2_with (first | (at_builtin; refine wpList_append_eq rfl _ _ 32 rfl rfl rfl rfl hap.out ?_))
  clear hap k2
  refine (Hcall.out _ _ y _ hb3.out (by first | omega | (simp only [List.length_append, List.length_cons, List.length_nil]; omega))).mono ?_
  rintro _ w4 ⟨v4, rfl, hb4⟩
  clear k3
  have k4 := Hcell.out _ _ _ hb4
  replace hb4 := Lib.hid hb4
  obtain ⟨v5, w5, hap, hb5⟩ := hb4.out.byte 32 (by first | omega | (simp only [List.length_append, List.length_cons, List.length_nil]; omega))
  have k5 := Hcell.out _ _ _ hb5
  replace hap := Lib.hid hap; replace hb5 := Lib.hid hb5
  go_wp2_with (first | (go_at_call 138; refine (H138.out _).mono ?_; rintro _ _ ⟨rfl, rfl⟩) | (go_at_call 148; refine (H148.out _).mono ?_; rintro _ _ ⟨rfl, rfl⟩) | (at_builtin; refine wpList_append_eq rfl _ _ 32 rfl rfl rfl rfl hap.out ?_))
  clear hap k4
  refine (Hcall.out _ _ z _ hb5.out (by first | omega | (simp only [List.length_append, List.length_cons, List.length_nil]; omega))).mono ?_
  rintro _ w6 ⟨v6, rfl, hb6⟩
  clear k5
  have k6 := Hcell.out _ _ _ hb6
  replace hb6 := Lib.hid hb6
  obtain ⟨v7, w7, hap, hb7⟩ := hb6.out.byte 32 (by first | omega | (simp only [List.length_append, List.length_cons, List.length_nil]; omega))
  have k7 := Hcell.out _ _ _ hb7
  replace hap := Lib.hid hap; replace hb7 := Lib.hid hb7
  go_wp2_with (first | (go_at_call 138; refine (H138.out _).mono ?_; rintro _ _ ⟨rfl, rfl⟩) | (go_at_call 148; refine (H148.out _).mono ?_; rintro _ _ ⟨rfl, rfl⟩) | (at_builtin; refine wpList_append_eq rfl _ _ 32 rfl rfl rfl rfl hap.out ?_))
  clear hap k6
  refine (Hcall.out _ _ m _ hb7.out (by first | omega | (simp only [List.length_append, List.length_cons, List.length_nil]; omega))).mono ?_
  rintro _ w8 ⟨v8, rfl, hb8⟩
  clear k7
  have k8 := Hcell.out _ _ _ hb8
  replace hb8 := Lib.hid hb8
  obtain ⟨v9, w9, hap, hb9⟩ := hb8.out.byte 41 (by first | omega | (simp only [List.length_append, List.length_cons, List.length_nil]; omega))
  have k9 := Hcell.out _ _ _ hb9
  replace hap := Lib.hid hap; replace hb9 := Lib.hid hb9
  go_wp2_with (first | (go_at_call 138; refine (H138.out _).mono ?_; rintro _ _ ⟨rfl, rfl⟩) | (go_at_call 148; refine (H148.out _).mono ?_; rintro _ _ ⟨rfl, rfl⟩) | (at_builtin; refine wpList_append_eq rfl _ _ 32 rfl rfl rfl rfl hap.out ?_))
  clear hap k8
  go_ret
  exact ⟨_, rfl, by have e := HW.out.then hb9.out; simpa using e⟩
theorem c224' (f : Nat → List UInt8) (hf : ∀ x, (f x).length ≤ 7100) (B : Nat) (bs : List UInt8) (v : Value) (par : Bool) (x y z m : Nat) (t : Int) (w : World)
    (H138 : ∀ w, Calls Tryz.prog 138 #[.int .u8 t] w fun e w' => e = .returned (.bool (hasZ t)) ∧ w = w') (H148 : ∀ w, Calls Tryz.prog 148 #[.int .u8 t] w fun e w' => e = .returned (.bool (hasM t)) ∧ w = w')
    (HW : Bf B w v.ownBlock v bs (w.alloc (.cells #[.float .f64 x, .float .f64 y, .float .f64 z, .float .f64 m, .int .u8 t] 61))) (hlen : bs.length ≤ 90000000000000)
    (Hcall : Hid (∀ (X : List UInt8) (v' : Value) (u : Nat) (w' : World), Bf B (w.alloc (.cells #[.float .f64 x, .float .f64 y, .float .f64 z, .float .f64 m, .int .u8 t] 61)) v.ownBlock v' X w' → X.length ≤ 100000000000000 → Calls Tryz.prog 137 #[v', .float .f64 u] w' fun e w2 => ∃ v2, e = .returned v2 ∧ Bf B (w.alloc (.cells #[.float .f64 x, .float .f64 y, .float .f64 z, .float .f64 m, .int .u8 t] 61)) v.ownBlock v2 (X ++ f u) w2))
    (Hcell : Hid (∀ (X : List UInt8) (v' : Value) (w' : World), Bf B (w.alloc (.cells #[.float .f64 x, .float .f64 y, .float .f64 z, .float .f64 m, .int .u8 t] 61)) v.ownBlock v' X w' → (∀ o, w'.cell? ⟨w.heap.size, o, none⟩ = #[.float .f64 x, .float .f64 y, .float .f64 z, .float .f64 m, .int .u8 t][o]?))) :
    Calls Tryz.prog 224 #[v, .agg #[.float .f64 x, .float .f64 y, .float .f64 z, .float .f64 m, .int .u8 t], .bool par] w fun e w' => ∃ v', e = .returned v' ∧ Bf B w v.ownBlock v' (bs ++ crdB f par x y z m t) w' := by
  unfold crdB
  generalize hasZ t = hz at *
  generalize hasM t = hm at *
  cases par <;> cases hz <;> cases hm
  · simpa [parB, optB] using c224_n f hf B bs v x y z m t w (Lib.hid H138) (Lib.hid H148) (Lib.hid HW) hlen Hcall Hcell
  · simpa [parB, optB] using c224_nm f hf B bs v x y z m t w (Lib.hid H138) (Lib.hid H148) (Lib.hid HW) hlen Hcall Hcell
  · simpa [parB, optB] using c224_nz f hf B bs v x y z m t w (Lib.hid H138) (Lib.hid H148) (Lib.hid HW) hlen Hcall Hcell
  · simpa [parB, optB] using c224_nzm f hf B bs v x y z m t w (Lib.hid H138) (Lib.hid H148) (Lib.hid HW) hlen Hcall Hcell
  · simpa [parB, optB] using c224_p f hf B bs v x y z m t w (Lib.hid H138) (Lib.hid H148) (Lib.hid HW) hlen Hcall Hcell
  · simpa [parB, optB] using c224_pm f hf B bs v x y z m t w (Lib.hid H138) (Lib.hid H148) (Lib.hid HW) hlen Hcall Hcell
  · simpa [parB, optB] using c224_pz f hf B bs v x y z m t w (Lib.hid H138) (Lib.hid H148) (Lib.hid HW) hlen Hcall Hcell
  · simpa [parB, optB] using c224_pzm f hf B bs v x y z m t w (Lib.hid H138) (Lib.hid H148) (Lib.hid HW) hlen Hcall Hcell
theorem c224 (tab : Nat → Int) (B : Nat) (bs : List UInt8) (v : Value) (par : Bool) (x y z m : Nat) (t : Int) (w : World) (hT : Tabs tab w) (hB6 : 6 < B) (hb : Bf B w v.ownBlock v bs w) (hlen : bs.length ≤ 90000000000000) (h0 : 0 ≤ t) (h1 : t ≤ 3) :
    Calls Tryz.prog 224 #[v, .agg #[.float .f64 x, .float .f64 y, .float .f64 z, .float .f64 m, .int .u8 t], .bool par] w fun e w' => ∃ v', e = .returned v' ∧ Bf B w v.ownBlock v' (bs ++ crdB (ftxt tab) par x y z m t) w' := by
  have hne : some w.heap.size ≠ v.ownBlock := fun e => by have := (hb.blk _ e.symm).2; omega
  have hr6 : ∀ j, v.ownBlock = some j → 6 < j := fun j hj => by have := (hb.blk j hj).1; omega
  have hbW := hb.alloc (.cells #[.float .f64 x, .float .f64 y, .float .f64 z, .float .f64 m, .int .u8 t] 61)
  have hTW := hT.blw (bl_a1 w (.cells #[.float .f64 x, .float .f64 y, .float .f64 z, .float .f64 m, .int .u8 t] 61))
  have hLW := Lb.new w #[.float .f64 x, .float .f64 y, .float .f64 z, .float .f64 m, .int .u8 t] 61
  exact c224' (ftxt tab) (ftxt_len tab) B bs v par x y z m t w (fun w => c138 t w h0 h1) (fun w => c148 t w h0 h1) hbW hlen
    (Lib.hid fun X v' u w' h hl => (c137 tab B X v' u w' (h.tabs hTW hr6) hB6 h.here hl).mono fun e w2 ⟨v2, he, h2⟩ => ⟨v2, he, h.then h2⟩)
    (Lib.hid fun X v' w' h => (h.lb hLW hne).use.1)
end Go.Proofs.YtahnhhkbdgaidaaGreatDoor
