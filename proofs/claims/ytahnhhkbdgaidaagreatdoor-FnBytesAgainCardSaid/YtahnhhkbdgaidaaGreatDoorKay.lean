/-
  The reader of binary forms: heads.
  The reader of binary forms: bytes as numbers.
-/
import Derived.Test.YtahnhhkbdgaidaaGreatDoorKav
import Derived.Test.YtahnhhkbdgaidaaGreatDoorKax
namespace Go.Proofs.YtahnhhkbdgaidaaGreatDoor
open Go.RowKit
set_option maxRecDepth 100000
theorem Pr.setBo {P b : Nat} {bo : Int} {no : Bool} {l : List UInt8} {w : World} (h : Pr P b bo no l w) (bo' : Int) (no' : Bool) : Pr P b bo' no' l ((w.setCell ⟨P, 1, none⟩ (.int .u8 bo')).setCell ⟨P, 2, none⟩ (.bool no')) := by
  obtain ⟨off, c, hL, hc, hm, hbP, hbl, hby⟩ := h
  refine ⟨off, c, by simpa using (hL.set 1 (.int .u8 bo')).set 2 (.bool no'), hc, hm, hbP, by simpa [World.setCell] using hbl, fun j hj => ?_⟩
  rw [World.cell?_of_block (w' := (w.setCell ⟨P, 1, none⟩ (.int .u8 bo')).setCell ⟨P, 2, none⟩ (.bool no')) ((Below.heap_setCell _ _ _ b (by simpa using hbP)).trans (Below.heap_setCell _ _ _ b (by simpa using hbP)))]
  exact hby j hj
set_option maxHeartbeats 2000000 in
theorem c160_0 (P b : Nat) (bo : Int) (no : Bool) (r : List UInt8) (w : World) (h : Pr P b bo no (0 :: r) w) :
    Calls Tryz.prog 160 #[.pointer (some ⟨P, 0, none⟩)] w fun e w' => e = .returned .nilIface ∧ Pr P b 0 false r w' ∧ w.grownBy w' (some P) := by
  have H := c187 P b bo no 0 r w h
  have e0 : (((0 : UInt8).toNat : Nat) : Int) = 0 := rfl
  rw [e0] at H
  replace H := Lib.hid H
  clear h e0
  go_enter Tryz.func160, Tryz.ntmps160
  go_wp2_with fail
  refine H.out.mono ?_
  rintro _ w1 ⟨rfl, hp, hg⟩
  have hp2 := hp.setBo 0 false
  obtain ⟨off, c, hL, _⟩ := hp
  obtain ⟨k1, f1, l1⟩ := hL.use
  have HP2 := Lib.hid hp2
  have HG := Lib.hid hg
  clear hp2 hg hL H
  go_wp2_with fail
  go_ret
  exact ⟨rfl, HP2.out, grown_trans HG.out (grown_trans (set_grown _ _ _ _) (set_grown _ _ _ _))⟩
set_option maxHeartbeats 2000000 in
theorem c160_1 (P b : Nat) (bo : Int) (no : Bool) (r : List UInt8) (w : World) (h : Pr P b bo no (1 :: r) w) :
    Calls Tryz.prog 160 #[.pointer (some ⟨P, 0, none⟩)] w fun e w' => e = .returned .nilIface ∧ Pr P b 1 true r w' ∧ w.grownBy w' (some P) := by
  have H := c187 P b bo no 1 r w h
  have e0 : (((1 : UInt8).toNat : Nat) : Int) = 1 := rfl
  rw [e0] at H
  replace H := Lib.hid H
  clear h e0
  go_enter Tryz.func160, Tryz.ntmps160
  go_wp2_with fail
  refine H.out.mono ?_
  rintro _ w1 ⟨rfl, hp, hg⟩
  have hp2 := hp.setBo 1 true
  obtain ⟨off, c, hL, _⟩ := hp
  obtain ⟨k1, f1, l1⟩ := hL.use
  have HP2 := Lib.hid hp2
  have HG := Lib.hid hg
  clear hp2 hg hL H
  go_wp2_with fail
  go_ret
  exact ⟨rfl, HP2.out, grown_trans HG.out (grown_trans (set_grown _ _ _ _) (set_grown _ _ _ _))⟩
theorem c160 (P b : Nat) (bo : Int) (no : Bool) (x : UInt8) (hx : x = 0 ∨ x = 1) (r : List UInt8) (w : World) (h : Pr P b bo no (x :: r) w) :
    Calls Tryz.prog 160 #[.pointer (some ⟨P, 0, none⟩)] w fun e w' => e = .returned .nilIface ∧ Pr P b (x.toNat : Int) (x == 1) r w' ∧ w.grownBy w' (some P) := by
  rcases hx with rfl | rfl
  · exact c160_0 P b bo no r w h
  · exact c160_1 P b bo no r w h
set_option maxHeartbeats 2000000 in
theorem c161_0_0 (P b : Nat) (bo : Int) (hbo : bo = 0 ∨ bo = 1) (no : Bool) (l r : List UInt8) (hl : l.length = 4) (hd : dec bo l = 7) (w : World) (h : Pr P b bo no (l ++ r) w) :
    Calls Tryz.prog 161 #[.pointer (some ⟨P, 0, none⟩)] w (Took P b bo no (.tuple #[.int .i64 0, .int .u8 0, .nilIface]) r w) := by
  have H := c188 P b bo hbo no l r hl w h
  rw [hd] at H
  replace H := Lib.hid H
  clear h hd
  go_enter Tryz.func161, Tryz.ntmps161
  go_wp2_with fail
  refine H.out.mono ?_
  rintro _ w1 ⟨rfl, hp, hg⟩
  have HP := Lib.hid hp
  have HG := Lib.hid hg
  clear hp hg H
  go_wp2_with fail
  exact bodyPost_ret (v := .tuple #[.int .i64 0, .int .u8 0, .nilIface]) (by simp [results, Tryz.results161, go_sem]) rfl ⟨rfl, HP.out, HG.out⟩
set_option maxHeartbeats 2000000 in
theorem c161_0_1 (P b : Nat) (bo : Int) (hbo : bo = 0 ∨ bo = 1) (no : Bool) (l r : List UInt8) (hl : l.length = 4) (hd : dec bo l = 1007) (w : World) (h : Pr P b bo no (l ++ r) w) :
    Calls Tryz.prog 161 #[.pointer (some ⟨P, 0, none⟩)] w (Took P b bo no (.tuple #[.int .i64 0, .int .u8 1, .nilIface]) r w) := by
  have H := c188 P b bo hbo no l r hl w h
  rw [hd] at H
  replace H := Lib.hid H
  clear h hd
  go_enter Tryz.func161, Tryz.ntmps161
  go_wp2_with fail
  refine H.out.mono ?_
  rintro _ w1 ⟨rfl, hp, hg⟩
  have HP := Lib.hid hp
  have HG := Lib.hid hg
  clear hp hg H
  go_wp2_with fail
  exact bodyPost_ret (v := .tuple #[.int .i64 0, .int .u8 1, .nilIface]) (by simp [results, Tryz.results161, go_sem]) rfl ⟨rfl, HP.out, HG.out⟩
set_option maxHeartbeats 2000000 in
theorem c161_0_2 (P b : Nat) (bo : Int) (hbo : bo = 0 ∨ bo = 1) (no : Bool) (l r : List UInt8) (hl : l.length = 4) (hd : dec bo l = 2007) (w : World) (h : Pr P b bo no (l ++ r) w) :
    Calls Tryz.prog 161 #[.pointer (some ⟨P, 0, none⟩)] w (Took P b bo no (.tuple #[.int .i64 0, .int .u8 2, .nilIface]) r w) := by
  have H := c188 P b bo hbo no l r hl w h
  rw [hd] at H
  replace H := Lib.hid H
  clear h hd
  go_enter Tryz.func161, Tryz.ntmps161
  go_wp2_with fail
  refine H.out.mono ?_
  rintro _ w1 ⟨rfl, hp, hg⟩
  have HP := Lib.hid hp
  have HG := Lib.hid hg
  clear hp hg H
  go_wp2_with fail
  exact bodyPost_ret (v := .tuple #[.int .i64 0, .int .u8 2, .nilIface]) (by simp [results, Tryz.results161, go_sem]) rfl ⟨rfl, HP.out, HG.out⟩
set_option maxHeartbeats 2000000 in
theorem c161_0_3 (P b : Nat) (bo : Int) (hbo : bo = 0 ∨ bo = 1) (no : Bool) (l r : List UInt8) (hl : l.length = 4) (hd : dec bo l = 3007) (w : World) (h : Pr P b bo no (l ++ r) w) :
    Calls Tryz.prog 161 #[.pointer (some ⟨P, 0, none⟩)] w (Took P b bo no (.tuple #[.int .i64 0, .int .u8 3, .nilIface]) r w) := by
  have H := c188 P b bo hbo no l r hl w h
  rw [hd] at H
  replace H := Lib.hid H
  clear h hd
  go_enter Tryz.func161, Tryz.ntmps161
  go_wp2_with fail
  refine H.out.mono ?_
  rintro _ w1 ⟨rfl, hp, hg⟩
  have HP := Lib.hid hp
  have HG := Lib.hid hg
  clear hp hg H
  go_wp2_with fail
  exact bodyPost_ret (v := .tuple #[.int .i64 0, .int .u8 3, .nilIface]) (by simp [results, Tryz.results161, go_sem]) rfl ⟨rfl, HP.out, HG.out⟩
set_option maxHeartbeats 2000000 in
theorem c161_1_0 (P b : Nat) (bo : Int) (hbo : bo = 0 ∨ bo = 1) (no : Bool) (l r : List UInt8) (hl : l.length = 4) (hd : dec bo l = 1) (w : World) (h : Pr P b bo no (l ++ r) w) :
    Calls Tryz.prog 161 #[.pointer (some ⟨P, 0, none⟩)] w (Took P b bo no (.tuple #[.int .i64 1, .int .u8 0, .nilIface]) r w) := by
  have H := c188 P b bo hbo no l r hl w h
  rw [hd] at H
  replace H := Lib.hid H
  clear h hd
  go_enter Tryz.func161, Tryz.ntmps161
  go_wp2_with fail
  refine H.out.mono ?_
  rintro _ w1 ⟨rfl, hp, hg⟩
  have HP := Lib.hid hp
  have HG := Lib.hid hg
  clear hp hg H
  go_wp2_with fail
  exact bodyPost_ret (v := .tuple #[.int .i64 1, .int .u8 0, .nilIface]) (by simp [results, Tryz.results161, go_sem]) rfl ⟨rfl, HP.out, HG.out⟩
set_option maxHeartbeats 2000000 in
theorem c161_1_1 (P b : Nat) (bo : Int) (hbo : bo = 0 ∨ bo = 1) (no : Bool) (l r : List UInt8) (hl : l.length = 4) (hd : dec bo l = 1001) (w : World) (h : Pr P b bo no (l ++ r) w) :
    Calls Tryz.prog 161 #[.pointer (some ⟨P, 0, none⟩)] w (Took P b bo no (.tuple #[.int .i64 1, .int .u8 1, .nilIface]) r w) := by
  have H := c188 P b bo hbo no l r hl w h
  rw [hd] at H
  replace H := Lib.hid H
  clear h hd
  go_enter Tryz.func161, Tryz.ntmps161
  go_wp2_with fail
  refine H.out.mono ?_
  rintro _ w1 ⟨rfl, hp, hg⟩
  have HP := Lib.hid hp
  have HG := Lib.hid hg
  clear hp hg H
  go_wp2_with fail
  exact bodyPost_ret (v := .tuple #[.int .i64 1, .int .u8 1, .nilIface]) (by simp [results, Tryz.results161, go_sem]) rfl ⟨rfl, HP.out, HG.out⟩
set_option maxHeartbeats 2000000 in
theorem c161_1_2 (P b : Nat) (bo : Int) (hbo : bo = 0 ∨ bo = 1) (no : Bool) (l r : List UInt8) (hl : l.length = 4) (hd : dec bo l = 2001) (w : World) (h : Pr P b bo no (l ++ r) w) :
    Calls Tryz.prog 161 #[.pointer (some ⟨P, 0, none⟩)] w (Took P b bo no (.tuple #[.int .i64 1, .int .u8 2, .nilIface]) r w) := by
  have H := c188 P b bo hbo no l r hl w h
  rw [hd] at H
  replace H := Lib.hid H
  clear h hd
  go_enter Tryz.func161, Tryz.ntmps161
  go_wp2_with fail
  refine H.out.mono ?_
  rintro _ w1 ⟨rfl, hp, hg⟩
  have HP := Lib.hid hp
  have HG := Lib.hid hg
  clear hp hg H
  go_wp2_with fail
  exact bodyPost_ret (v := .tuple #[.int .i64 1, .int .u8 2, .nilIface]) (by simp [results, Tryz.results161, go_sem]) rfl ⟨rfl, HP.out, HG.out⟩
set_option maxHeartbeats 2000000 in
theorem c161_1_3 (P b : Nat) (bo : Int) (hbo : bo = 0 ∨ bo = 1) (no : Bool) (l r : List UInt8) (hl : l.length = 4) (hd : dec bo l = 3001) (w : World) (h : Pr P b bo no (l ++ r) w) :
    Calls Tryz.prog 161 #[.pointer (some ⟨P, 0, none⟩)] w (Took P b bo no (.tuple #[.int .i64 1, .int .u8 3, .nilIface]) r w) := by
  have H := c188 P b bo hbo no l r hl w h
  rw [hd] at H
  replace H := Lib.hid H
  clear h hd
  go_enter Tryz.func161, Tryz.ntmps161
  go_wp2_with fail
  refine H.out.mono ?_
  rintro _ w1 ⟨rfl, hp, hg⟩
  have HP := Lib.hid hp
  have HG := Lib.hid hg
  clear hp hg H
  go_wp2_with fail
  exact bodyPost_ret (v := .tuple #[.int .i64 1, .int .u8 3, .nilIface]) (by simp [results, Tryz.results161, go_sem]) rfl ⟨rfl, HP.out, HG.out⟩
set_option maxHeartbeats 2000000 in
theorem c161_2_0 (P b : Nat) (bo : Int) (hbo : bo = 0 ∨ bo = 1) (no : Bool) (l r : List UInt8) (hl : l.length = 4) (hd : dec bo l = 2) (w : World) (h : Pr P b bo no (l ++ r) w) :
    Calls Tryz.prog 161 #[.pointer (some ⟨P, 0, none⟩)] w (Took P b bo no (.tuple #[.int .i64 2, .int .u8 0, .nilIface]) r w) := by
  have H := c188 P b bo hbo no l r hl w h
  rw [hd] at H
  replace H := Lib.hid H
  clear h hd
  go_enter Tryz.func161, Tryz.ntmps161
  go_wp2_with fail
  refine H.out.mono ?_
  rintro _ w1 ⟨rfl, hp, hg⟩
  have HP := Lib.hid hp
  have HG := Lib.hid hg
  clear hp hg H
  go_wp2_with fail
  exact bodyPost_ret (v := .tuple #[.int .i64 2, .int .u8 0, .nilIface]) (by simp [results, Tryz.results161, go_sem]) rfl ⟨rfl, HP.out, HG.out⟩
set_option maxHeartbeats 2000000 in
theorem c161_2_1 (P b : Nat) (bo : Int) (hbo : bo = 0 ∨ bo = 1) (no : Bool) (l r : List UInt8) (hl : l.length = 4) (hd : dec bo l = 1002) (w : World) (h : Pr P b bo no (l ++ r) w) :
    Calls Tryz.prog 161 #[.pointer (some ⟨P, 0, none⟩)] w (Took P b bo no (.tuple #[.int .i64 2, .int .u8 1, .nilIface]) r w) := by
  have H := c188 P b bo hbo no l r hl w h
  rw [hd] at H
  replace H := Lib.hid H
  clear h hd
  go_enter Tryz.func161, Tryz.ntmps161
  go_wp2_with fail
  refine H.out.mono ?_
  rintro _ w1 ⟨rfl, hp, hg⟩
  have HP := Lib.hid hp
  have HG := Lib.hid hg
  clear hp hg H
  go_wp2_with fail
  exact bodyPost_ret (v := .tuple #[.int .i64 2, .int .u8 1, .nilIface]) (by simp [results, Tryz.results161, go_sem]) rfl ⟨rfl, HP.out, HG.out⟩
set_option maxHeartbeats 2000000 in
theorem c161_2_2 (P b : Nat) (bo : Int) (hbo : bo = 0 ∨ bo = 1) (no : Bool) (l r : List UInt8) (hl : l.length = 4) (hd : dec bo l = 2002) (w : World) (h : Pr P b bo no (l ++ r) w) :
    Calls Tryz.prog 161 #[.pointer (some ⟨P, 0, none⟩)] w (Took P b bo no (.tuple #[.int .i64 2, .int .u8 2, .nilIface]) r w) := by
  have H := c188 P b bo hbo no l r hl w h
  rw [hd] at H
  replace H := Lib.hid H
  clear h hd
  go_enter Tryz.func161, Tryz.ntmps161
  go_wp2_with fail
  refine H.out.mono ?_
  rintro _ w1 ⟨rfl, hp, hg⟩
  have HP := Lib.hid hp
  have HG := Lib.hid hg
  clear hp hg H
  go_wp2_with fail
  exact bodyPost_ret (v := .tuple #[.int .i64 2, .int .u8 2, .nilIface]) (by simp [results, Tryz.results161, go_sem]) rfl ⟨rfl, HP.out, HG.out⟩
set_option maxHeartbeats 2000000 in
theorem c161_2_3 (P b : Nat) (bo : Int) (hbo : bo = 0 ∨ bo = 1) (no : Bool) (l r : List UInt8) (hl : l.length = 4) (hd : dec bo l = 3002) (w : World) (h : Pr P b bo no (l ++ r) w) :
    Calls Tryz.prog 161 #[.pointer (some ⟨P, 0, none⟩)] w (Took P b bo no (.tuple #[.int .i64 2, .int .u8 3, .nilIface]) r w) := by
  have H := c188 P b bo hbo no l r hl w h
  rw [hd] at H
  replace H := Lib.hid H
  clear h hd
  go_enter Tryz.func161, Tryz.ntmps161
  go_wp2_with fail
  refine H.out.mono ?_
  rintro _ w1 ⟨rfl, hp, hg⟩
  have HP := Lib.hid hp
  have HG := Lib.hid hg
  clear hp hg H
  go_wp2_with fail
  exact bodyPost_ret (v := .tuple #[.int .i64 2, .int .u8 3, .nilIface]) (by simp [results, Tryz.results161, go_sem]) rfl ⟨rfl, HP.out, HG.out⟩
set_option maxHeartbeats 2000000 in
theorem c161_3_0 (P b : Nat) (bo : Int) (hbo : bo = 0 ∨ bo = 1) (no : Bool) (l r : List UInt8) (hl : l.length = 4) (hd : dec bo l = 3) (w : World) (h : Pr P b bo no (l ++ r) w) :
    Calls Tryz.prog 161 #[.pointer (some ⟨P, 0, none⟩)] w (Took P b bo no (.tuple #[.int .i64 3, .int .u8 0, .nilIface]) r w) := by
  have H := c188 P b bo hbo no l r hl w h
  rw [hd] at H
  replace H := Lib.hid H
  clear h hd
  go_enter Tryz.func161, Tryz.ntmps161
  go_wp2_with fail
  refine H.out.mono ?_
  rintro _ w1 ⟨rfl, hp, hg⟩
  have HP := Lib.hid hp
  have HG := Lib.hid hg
  clear hp hg H
  go_wp2_with fail
  exact bodyPost_ret (v := .tuple #[.int .i64 3, .int .u8 0, .nilIface]) (by simp [results, Tryz.results161, go_sem]) rfl ⟨rfl, HP.out, HG.out⟩
set_option maxHeartbeats 2000000 in
theorem c161_3_1 (P b : Nat) (bo : Int) (hbo : bo = 0 ∨ bo = 1) (no : Bool) (l r : List UInt8) (hl : l.length = 4) (hd : dec bo l = 1003) (w : World) (h : Pr P b bo no (l ++ r) w) :
    Calls Tryz.prog 161 #[.pointer (some ⟨P, 0, none⟩)] w (Took P b bo no (.tuple #[.int .i64 3, .int .u8 1, .nilIface]) r w) := by
  have H := c188 P b bo hbo no l r hl w h
  rw [hd] at H
  replace H := Lib.hid H
  clear h hd
  go_enter Tryz.func161, Tryz.ntmps161
  go_wp2_with fail
  refine H.out.mono ?_
  rintro _ w1 ⟨rfl, hp, hg⟩
  have HP := Lib.hid hp
  have HG := Lib.hid hg
  clear hp hg H
  go_wp2_with fail
  exact bodyPost_ret (v := .tuple #[.int .i64 3, .int .u8 1, .nilIface]) (by simp [results, Tryz.results161, go_sem]) rfl ⟨rfl, HP.out, HG.out⟩
set_option maxHeartbeats 2000000 in
theorem c161_3_2 (P b : Nat) (bo : Int) (hbo : bo = 0 ∨ bo = 1) (no : Bool) (l r : List UInt8) (hl : l.length = 4) (hd : dec bo l = 2003) (w : World) (h : Pr P b bo no (l ++ r) w) :
    Calls Tryz.prog 161 #[.pointer (some ⟨P, 0, none⟩)] w (Took P b bo no (.tuple #[.int .i64 3, .int .u8 2, .nilIface]) r w) := by
  have H := c188 P b bo hbo no l r hl w h
  rw [hd] at H
  replace H := Lib.hid H
  clear h hd
  go_enter Tryz.func161, Tryz.ntmps161
  go_wp2_with fail
  refine H.out.mono ?_
  rintro _ w1 ⟨rfl, hp, hg⟩
  have HP := Lib.hid hp
  have HG := Lib.hid hg
  clear hp hg H
  go_wp2_with fail
  exact bodyPost_ret (v := .tuple #[.int .i64 3, .int .u8 2, .nilIface]) (by simp [results, Tryz.results161, go_sem]) rfl ⟨rfl, HP.out, HG.out⟩
set_option maxHeartbeats 2000000 in
theorem c161_3_3 (P b : Nat) (bo : Int) (hbo : bo = 0 ∨ bo = 1) (no : Bool) (l r : List UInt8) (hl : l.length = 4) (hd : dec bo l = 3003) (w : World) (h : Pr P b bo no (l ++ r) w) :
    Calls Tryz.prog 161 #[.pointer (some ⟨P, 0, none⟩)] w (Took P b bo no (.tuple #[.int .i64 3, .int .u8 3, .nilIface]) r w) := by
  have H := c188 P b bo hbo no l r hl w h
  rw [hd] at H
  replace H := Lib.hid H
  clear h hd
  go_enter Tryz.func161, Tryz.ntmps161
  go_wp2_with fail
  refine H.out.mono ?_
  rintro _ w1 ⟨rfl, hp, hg⟩
  have HP := Lib.hid hp
  have HG := Lib.hid hg
  clear hp hg H
  go_wp2_with fail
  exact bodyPost_ret (v := .tuple #[.int .i64 3, .int .u8 3, .nilIface]) (by simp [results, Tryz.results161, go_sem]) rfl ⟨rfl, HP.out, HG.out⟩
set_option maxHeartbeats 2000000 in
theorem c161_4_0 (P b : Nat) (bo : Int) (hbo : bo = 0 ∨ bo = 1) (no : Bool) (l r : List UInt8) (hl : l.length = 4) (hd : dec bo l = 4) (w : World) (h : Pr P b bo no (l ++ r) w) :
    Calls Tryz.prog 161 #[.pointer (some ⟨P, 0, none⟩)] w (Took P b bo no (.tuple #[.int .i64 4, .int .u8 0, .nilIface]) r w) := by
  have H := c188 P b bo hbo no l r hl w h
  rw [hd] at H
  replace H := Lib.hid H
  clear h hd
  go_enter Tryz.func161, Tryz.ntmps161
  go_wp2_with fail
  refine H.out.mono ?_
  rintro _ w1 ⟨rfl, hp, hg⟩
  have HP := Lib.hid hp
  have HG := Lib.hid hg
  clear hp hg H
  go_wp2_with fail
  exact bodyPost_ret (v := .tuple #[.int .i64 4, .int .u8 0, .nilIface]) (by simp [results, Tryz.results161, go_sem]) rfl ⟨rfl, HP.out, HG.out⟩
set_option maxHeartbeats 2000000 in
theorem c161_4_1 (P b : Nat) (bo : Int) (hbo : bo = 0 ∨ bo = 1) (no : Bool) (l r : List UInt8) (hl : l.length = 4) (hd : dec bo l = 1004) (w : World) (h : Pr P b bo no (l ++ r) w) :
    Calls Tryz.prog 161 #[.pointer (some ⟨P, 0, none⟩)] w (Took P b bo no (.tuple #[.int .i64 4, .int .u8 1, .nilIface]) r w) := by
  have H := c188 P b bo hbo no l r hl w h
  rw [hd] at H
  replace H := Lib.hid H
  clear h hd
  go_enter Tryz.func161, Tryz.ntmps161
  go_wp2_with fail
  refine H.out.mono ?_
  rintro _ w1 ⟨rfl, hp, hg⟩
  have HP := Lib.hid hp
  have HG := Lib.hid hg
  clear hp hg H
  go_wp2_with fail
  exact bodyPost_ret (v := .tuple #[.int .i64 4, .int .u8 1, .nilIface]) (by simp [results, Tryz.results161, go_sem]) rfl ⟨rfl, HP.out, HG.out⟩
set_option maxHeartbeats 2000000 in
theorem c161_4_2 (P b : Nat) (bo : Int) (hbo : bo = 0 ∨ bo = 1) (no : Bool) (l r : List UInt8) (hl : l.length = 4) (hd : dec bo l = 2004) (w : World) (h : Pr P b bo no (l ++ r) w) :
    Calls Tryz.prog 161 #[.pointer (some ⟨P, 0, none⟩)] w (Took P b bo no (.tuple #[.int .i64 4, .int .u8 2, .nilIface]) r w) := by
  have H := c188 P b bo hbo no l r hl w h
  rw [hd] at H
  replace H := Lib.hid H
  clear h hd
  go_enter Tryz.func161, Tryz.ntmps161
  go_wp2_with fail
  refine H.out.mono ?_
  rintro _ w1 ⟨rfl, hp, hg⟩
  have HP := Lib.hid hp
  have HG := Lib.hid hg
  clear hp hg H
  go_wp2_with fail
  exact bodyPost_ret (v := .tuple #[.int .i64 4, .int .u8 2, .nilIface]) (by simp [results, Tryz.results161, go_sem]) rfl ⟨rfl, HP.out, HG.out⟩
set_option maxHeartbeats 2000000 in
theorem c161_4_3 (P b : Nat) (bo : Int) (hbo : bo = 0 ∨ bo = 1) (no : Bool) (l r : List UInt8) (hl : l.length = 4) (hd : dec bo l = 3004) (w : World) (h : Pr P b bo no (l ++ r) w) :
    Calls Tryz.prog 161 #[.pointer (some ⟨P, 0, none⟩)] w (Took P b bo no (.tuple #[.int .i64 4, .int .u8 3, .nilIface]) r w) := by
  have H := c188 P b bo hbo no l r hl w h
  rw [hd] at H
  replace H := Lib.hid H
  clear h hd
  go_enter Tryz.func161, Tryz.ntmps161
  go_wp2_with fail
  refine H.out.mono ?_
  rintro _ w1 ⟨rfl, hp, hg⟩
  have HP := Lib.hid hp
  have HG := Lib.hid hg
  clear hp hg H
  go_wp2_with fail
  exact bodyPost_ret (v := .tuple #[.int .i64 4, .int .u8 3, .nilIface]) (by simp [results, Tryz.results161, go_sem]) rfl ⟨rfl, HP.out, HG.out⟩
set_option maxHeartbeats 2000000 in
theorem c161_5_0 (P b : Nat) (bo : Int) (hbo : bo = 0 ∨ bo = 1) (no : Bool) (l r : List UInt8) (hl : l.length = 4) (hd : dec bo l = 5) (w : World) (h : Pr P b bo no (l ++ r) w) :
    Calls Tryz.prog 161 #[.pointer (some ⟨P, 0, none⟩)] w (Took P b bo no (.tuple #[.int .i64 5, .int .u8 0, .nilIface]) r w) := by
  have H := c188 P b bo hbo no l r hl w h
  rw [hd] at H
  replace H := Lib.hid H
  clear h hd
  go_enter Tryz.func161, Tryz.ntmps161
  go_wp2_with fail
  refine H.out.mono ?_
  rintro _ w1 ⟨rfl, hp, hg⟩
  have HP := Lib.hid hp
  have HG := Lib.hid hg
  clear hp hg H
  go_wp2_with fail
  exact bodyPost_ret (v := .tuple #[.int .i64 5, .int .u8 0, .nilIface]) (by simp [results, Tryz.results161, go_sem]) rfl ⟨rfl, HP.out, HG.out⟩
set_option maxHeartbeats 2000000 in
theorem c161_5_1 (P b : Nat) (bo : Int) (hbo : bo = 0 ∨ bo = 1) (no : Bool) (l r : List UInt8) (hl : l.length = 4) (hd : dec bo l = 1005) (w : World) (h : Pr P b bo no (l ++ r) w) :
    Calls Tryz.prog 161 #[.pointer (some ⟨P, 0, none⟩)] w (Took P b bo no (.tuple #[.int .i64 5, .int .u8 1, .nilIface]) r w) := by
  have H := c188 P b bo hbo no l r hl w h
  rw [hd] at H
  replace H := Lib.hid H
  clear h hd
  go_enter Tryz.func161, Tryz.ntmps161
  go_wp2_with fail
  refine H.out.mono ?_
  rintro _ w1 ⟨rfl, hp, hg⟩
  have HP := Lib.hid hp
  have HG := Lib.hid hg
  clear hp hg H
  go_wp2_with fail
  exact bodyPost_ret (v := .tuple #[.int .i64 5, .int .u8 1, .nilIface]) (by simp [results, Tryz.results161, go_sem]) rfl ⟨rfl, HP.out, HG.out⟩
set_option maxHeartbeats 2000000 in
theorem c161_5_2 (P b : Nat) (bo : Int) (hbo : bo = 0 ∨ bo = 1) (no : Bool) (l r : List UInt8) (hl : l.length = 4) (hd : dec bo l = 2005) (w : World) (h : Pr P b bo no (l ++ r) w) :
    Calls Tryz.prog 161 #[.pointer (some ⟨P, 0, none⟩)] w (Took P b bo no (.tuple #[.int .i64 5, .int .u8 2, .nilIface]) r w) := by
  have H := c188 P b bo hbo no l r hl w h
  rw [hd] at H
  replace H := Lib.hid H
  clear h hd
  go_enter Tryz.func161, Tryz.ntmps161
  go_wp2_with fail
  refine H.out.mono ?_
  rintro _ w1 ⟨rfl, hp, hg⟩
  have HP := Lib.hid hp
  have HG := Lib.hid hg
  clear hp hg H
  go_wp2_with fail
  exact bodyPost_ret (v := .tuple #[.int .i64 5, .int .u8 2, .nilIface]) (by simp [results, Tryz.results161, go_sem]) rfl ⟨rfl, HP.out, HG.out⟩
set_option maxHeartbeats 2000000 in
theorem c161_5_3 (P b : Nat) (bo : Int) (hbo : bo = 0 ∨ bo = 1) (no : Bool) (l r : List UInt8) (hl : l.length = 4) (hd : dec bo l = 3005) (w : World) (h : Pr P b bo no (l ++ r) w) :
    Calls Tryz.prog 161 #[.pointer (some ⟨P, 0, none⟩)] w (Took P b bo no (.tuple #[.int .i64 5, .int .u8 3, .nilIface]) r w) := by
  have H := c188 P b bo hbo no l r hl w h
  rw [hd] at H
  replace H := Lib.hid H
  clear h hd
  go_enter Tryz.func161, Tryz.ntmps161
  go_wp2_with fail
  refine H.out.mono ?_
  rintro _ w1 ⟨rfl, hp, hg⟩
  have HP := Lib.hid hp
  have HG := Lib.hid hg
  clear hp hg H
  go_wp2_with fail
  exact bodyPost_ret (v := .tuple #[.int .i64 5, .int .u8 3, .nilIface]) (by simp [results, Tryz.results161, go_sem]) rfl ⟨rfl, HP.out, HG.out⟩
set_option maxHeartbeats 2000000 in
theorem c161_6_0 (P b : Nat) (bo : Int) (hbo : bo = 0 ∨ bo = 1) (no : Bool) (l r : List UInt8) (hl : l.length = 4) (hd : dec bo l = 6) (w : World) (h : Pr P b bo no (l ++ r) w) :
    Calls Tryz.prog 161 #[.pointer (some ⟨P, 0, none⟩)] w (Took P b bo no (.tuple #[.int .i64 6, .int .u8 0, .nilIface]) r w) := by
  have H := c188 P b bo hbo no l r hl w h
  rw [hd] at H
  replace H := Lib.hid H
  clear h hd
  go_enter Tryz.func161, Tryz.ntmps161
  go_wp2_with fail
  refine H.out.mono ?_
  rintro _ w1 ⟨rfl, hp, hg⟩
  have HP := Lib.hid hp
  have HG := Lib.hid hg
  clear hp hg H
  go_wp2_with fail
  exact bodyPost_ret (v := .tuple #[.int .i64 6, .int .u8 0, .nilIface]) (by simp [results, Tryz.results161, go_sem]) rfl ⟨rfl, HP.out, HG.out⟩
set_option maxHeartbeats 2000000 in
theorem c161_6_1 (P b : Nat) (bo : Int) (hbo : bo = 0 ∨ bo = 1) (no : Bool) (l r : List UInt8) (hl : l.length = 4) (hd : dec bo l = 1006) (w : World) (h : Pr P b bo no (l ++ r) w) :
    Calls Tryz.prog 161 #[.pointer (some ⟨P, 0, none⟩)] w (Took P b bo no (.tuple #[.int .i64 6, .int .u8 1, .nilIface]) r w) := by
  have H := c188 P b bo hbo no l r hl w h
  rw [hd] at H
  replace H := Lib.hid H
  clear h hd
  go_enter Tryz.func161, Tryz.ntmps161
  go_wp2_with fail
  refine H.out.mono ?_
  rintro _ w1 ⟨rfl, hp, hg⟩
  have HP := Lib.hid hp
  have HG := Lib.hid hg
  clear hp hg H
  go_wp2_with fail
  exact bodyPost_ret (v := .tuple #[.int .i64 6, .int .u8 1, .nilIface]) (by simp [results, Tryz.results161, go_sem]) rfl ⟨rfl, HP.out, HG.out⟩
set_option maxHeartbeats 2000000 in
theorem c161_6_2 (P b : Nat) (bo : Int) (hbo : bo = 0 ∨ bo = 1) (no : Bool) (l r : List UInt8) (hl : l.length = 4) (hd : dec bo l = 2006) (w : World) (h : Pr P b bo no (l ++ r) w) :
    Calls Tryz.prog 161 #[.pointer (some ⟨P, 0, none⟩)] w (Took P b bo no (.tuple #[.int .i64 6, .int .u8 2, .nilIface]) r w) := by
  have H := c188 P b bo hbo no l r hl w h
  rw [hd] at H
  replace H := Lib.hid H
  clear h hd
  go_enter Tryz.func161, Tryz.ntmps161
  go_wp2_with fail
  refine H.out.mono ?_
  rintro _ w1 ⟨rfl, hp, hg⟩
  have HP := Lib.hid hp
  have HG := Lib.hid hg
  clear hp hg H
  go_wp2_with fail
  exact bodyPost_ret (v := .tuple #[.int .i64 6, .int .u8 2, .nilIface]) (by simp [results, Tryz.results161, go_sem]) rfl ⟨rfl, HP.out, HG.out⟩
set_option maxHeartbeats 2000000 in
theorem c161_6_3 (P b : Nat) (bo : Int) (hbo : bo = 0 ∨ bo = 1) (no : Bool) (l r : List UInt8) (hl : l.length = 4) (hd : dec bo l = 3006) (w : World) (h : Pr P b bo no (l ++ r) w) :
    Calls Tryz.prog 161 #[.pointer (some ⟨P, 0, none⟩)] w (Took P b bo no (.tuple #[.int .i64 6, .int .u8 3, .nilIface]) r w) := by
  have H := c188 P b bo hbo no l r hl w h
  rw [hd] at H
  replace H := Lib.hid H
  clear h hd
  go_enter Tryz.func161, Tryz.ntmps161
  go_wp2_with fail
  refine H.out.mono ?_
  rintro _ w1 ⟨rfl, hp, hg⟩
  have HP := Lib.hid hp
  have HG := Lib.hid hg
  clear hp hg H
  go_wp2_with fail
  exact bodyPost_ret (v := .tuple #[.int .i64 6, .int .u8 3, .nilIface]) (by simp [results, Tryz.results161, go_sem]) rfl ⟨rfl, HP.out, HG.out⟩
theorem c161 (P b : Nat) (bo : Int) (hbo : bo = 0 ∨ bo = 1) (no : Bool) (l r : List UInt8) (k t : Int) (k0 : 0 ≤ k) (k1 : k ≤ 6) (t0 : 0 ≤ t) (t1 : t ≤ 3) (hl : l.length = 4) (hd : dec bo l = wcode k t) (w : World) (h : Pr P b bo no (l ++ r) w) :
    Calls Tryz.prog 161 #[.pointer (some ⟨P, 0, none⟩)] w (Took P b bo no (.tuple #[.int .i64 k, .int .u8 t, .nilIface]) r w) := by
  have hc : k = 0 ∨ k = 1 ∨ k = 2 ∨ k = 3 ∨ k = 4 ∨ k = 5 ∨ k = 6 := by omega
  rcases hc with rfl | rfl | rfl | rfl | rfl | rfl | rfl
  · rcases four t t0 t1 with rfl | rfl | rfl | rfl
    · exact c161_0_0 P b bo hbo no l r hl hd w h
    · exact c161_0_1 P b bo hbo no l r hl hd w h
    · exact c161_0_2 P b bo hbo no l r hl hd w h
    · exact c161_0_3 P b bo hbo no l r hl hd w h
  · rcases four t t0 t1 with rfl | rfl | rfl | rfl
    · exact c161_1_0 P b bo hbo no l r hl hd w h
    · exact c161_1_1 P b bo hbo no l r hl hd w h
    · exact c161_1_2 P b bo hbo no l r hl hd w h
    · exact c161_1_3 P b bo hbo no l r hl hd w h
  · rcases four t t0 t1 with rfl | rfl | rfl | rfl
    · exact c161_2_0 P b bo hbo no l r hl hd w h
    · exact c161_2_1 P b bo hbo no l r hl hd w h
    · exact c161_2_2 P b bo hbo no l r hl hd w h
    · exact c161_2_3 P b bo hbo no l r hl hd w h
  · rcases four t t0 t1 with rfl | rfl | rfl | rfl
    · exact c161_3_0 P b bo hbo no l r hl hd w h
    · exact c161_3_1 P b bo hbo no l r hl hd w h
    · exact c161_3_2 P b bo hbo no l r hl hd w h
    · exact c161_3_3 P b bo hbo no l r hl hd w h
  · rcases four t t0 t1 with rfl | rfl | rfl | rfl
    · exact c161_4_0 P b bo hbo no l r hl hd w h
    · exact c161_4_1 P b bo hbo no l r hl hd w h
    · exact c161_4_2 P b bo hbo no l r hl hd w h
    · exact c161_4_3 P b bo hbo no l r hl hd w h
  · rcases four t t0 t1 with rfl | rfl | rfl | rfl
    · exact c161_5_0 P b bo hbo no l r hl hd w h
    · exact c161_5_1 P b bo hbo no l r hl hd w h
    · exact c161_5_2 P b bo hbo no l r hl hd w h
    · exact c161_5_3 P b bo hbo no l r hl hd w h
  · rcases four t t0 t1 with rfl | rfl | rfl | rfl
    · exact c161_6_0 P b bo hbo no l r hl hd w h
    · exact c161_6_1 P b bo hbo no l r hl hd w h
    · exact c161_6_2 P b bo hbo no l r hl hd w h
    · exact c161_6_3 P b bo hbo no l r hl hd w h
end Go.Proofs.YtahnhhkbdgaidaaGreatDoor
namespace Go.Proofs.YtahnhhkbdgaidaaGreatDoor
open Go.RowKit
set_option maxRecDepth 100000
/-- Numbers of eight bytes each. -/
def F8 (bo : Int) (xs : List Nat) (l : List UInt8) : Prop := l.length = 8 * xs.length ∧ ∀ i (h : i < xs.length), dec bo ((l.drop (8 * i)).take 8) = xs[i]
theorem c271 (g o n c : Nat) (l : List UInt8) (hl : l.length = 8) (w : World) (hn : 8 ≤ n) (hc : ∀ j (h : j < l.length), w.cell? ⟨g, o + j, none⟩ = some (.int .u8 ((l[j]).toNat : Int))) :
    Calls Tryz.prog 271 #[.agg #[], .slice (some ⟨g, o, none⟩) n c] w fun e w' => e = .returned (.int .u64 ((dec 1 l : Nat) : Int)) ∧ Below w.heap.size w w' := by
  obtain ⟨b0, b1, b2, b3, b4, b5, b6, b7, rfl⟩ := eight_bytes hl
  exact Any.binary_LE_Uint64 bin33 g o n c b0 b1 b2 b3 b4 b5 b6 b7 w hn (hc 0 (by simp)) (hc 1 (by simp)) (hc 2 (by simp)) (hc 3 (by simp)) (hc 4 (by simp)) (hc 5 (by simp)) (hc 6 (by simp)) (hc 7 (by simp))
set_option maxHeartbeats 4000000 in
theorem c234 (S : Nat → Prop) (xs : List Nat) (l : List UInt8) (b off c : Nat) (w : World) (hf : F8 1 xs l) (hl : xs.length ≤ 100000000) (hc : 8 * xs.length ≤ c) (hS : ∀ k, w.heap.size ≤ k → S k) (hbl : b < w.heap.size) (hby : ∀ j (h : j < l.length), w.cell? ⟨b, off + j, none⟩ = some (.int .u8 ((l[j]).toNat : Int))) :
    Calls Tryz.prog 234 #[.slice (some ⟨b, off, none⟩) (8 * xs.length) c] w fun e w' => ∃ a' c', e = .returned (.slice a' xs.length c') ∧ Rd S w' (fl xs) (.slice a' xs.length c') ∧ Below w.heap.size w w' := by
  obtain ⟨hll, hfx⟩ := hf
  rcases Nat.eq_zero_or_pos xs.length with h0 | h0
  · obtain rfl : xs = [] := List.eq_nil_of_length_eq_zero h0
    simp only [List.length_nil, Nat.mul_zero]
    clear hby hfx
    go_enter Tryz.func234, Tryz.ntmps234
    go_wp2
    go_ret
    exact ⟨none, 0, rfl, .nil _ _, Below.refl _ _⟩
  · have hmk : ∀ w, (Instr.makeSlice 22 (.int .i64 (xs.length : Int)) (.int .i64 (xs.length : Int))).run Tryz.prog w = .ok (.slice (some ⟨w.heap.size, 0, none⟩) xs.length xs.length) (w.alloc (.cells (madeCells #[.float .f64 0] xs.length) 43)) := fun w =>
      run_make_row' 22 43 (.float .f64 0) 8 Tryz.underlying22 info43 rfl .i64 .i64 _ (by omega) (by omega) w
    have hne : (8 * (xs.length : Int) == 0) = false := beq_false_of_ne (by omega)
    have hms : (madeCells #[.float .f64 0] xs.length).size = xs.length := size_madeCells _ _
    generalize madeCells #[.float .f64 0] xs.length = mc at *
    have hx := fun n w => x123 n w
    have hsf := st_float
    have Hfx := Lib.hid hfx; have Hby := Lib.hid hby
    clear hby hfx
    go_enter Tryz.func234, Tryz.ntmps234
    go_wp2_with fail
    go_loopw [14] (fun i wr => ∃ j : Nat, ∃ cs : Array Value, j ≤ xs.length ∧ i = .int .i64 j ∧ Lb wr w.heap.size cs 43 ∧ cs.size = xs.length ∧ (∀ i (h : i < xs.length), i < j → cs[i]? = some (.float .f64 xs[i])) ∧ Below w.heap.size w wr) (fun i _ => xs.length - (intOf i).toNat)
    case atStart => exact ⟨0, mc, Nat.zero_le _, rfl, Lb.new w mc 43, hms, fun i _ h => absurd h (by omega), bl_a1 w _⟩
    case round =>
      obtain ⟨j, cs, hj, rfl, hL, hcs, hat, hB⟩ := hrel
      by_cases hlt : j < xs.length
      · have hxj := Hfx.out j hlt
        have h8 : ((l.drop (8 * j)).take 8).length = 8 := by rw [List.length_take, List.length_drop]; omega
        have H271 := Lib.hid (c271 b (off + 8 * j) (8 * xs.length - 8 * j) (c - 8 * j) ((l.drop (8 * j)).take 8) h8 wr.drew (by omega) (fun i hi => by
          have hi8 : i < 8 := by rw [h8] at hi; exact hi
          have := hB.cell (p := ⟨b, off + (8 * j + i), none⟩) hbl
          rw [Hby.out (8 * j + i) (by omega)] at this
          rw [Nat.add_assoc]
          refine Eq.trans ?_ (this.trans ?_)
          · rfl
          · simp))
        rw [hxj] at H271
        have Hel : ∀ i (h : i < xs.length), i < j + 1 → (cs.setIfInBounds j (.float .f64 xs[j]))[i]? = some (.float .f64 xs[i]) := fun i h hi => by
          by_cases e : i = j
          · subst e; rw [Array.getElem?_setIfInBounds]; simp [hcs, h]
          · rw [Array.getElem?_setIfInBounds_ne (by omega)]; exact hat i h (by omega)
        have Hel := Lib.hid Hel
        generalize xs[j] = x at *
        obtain ⟨kg, fg, lg⟩ := hL.use
        obtain ⟨u, hu⟩ : ∃ u, cs[j]? = some u := ⟨_, Array.getElem?_eq_getElem (by omega)⟩
        have HL := Lib.hid hL; have HB := Lib.hid hB
        have hb0 : (0 : Int) ≤ 8 * (j : Int) := by omega
        have hb1 : 8 * (j : Int) ≤ 8 * (xs.length : Int) := by omega
        have hb2 : (8 * (j : Int)).toNat = 8 * j := by omega
        have hb3 : ¬ c = 8 * j := by omega
        have hb4 : IntKind.i64.wrap (8 * (j : Int)) = 8 * (j : Int) := IntWalk.i64_in _ (by omega)
        have hb5 : (8 * (j : Int)).toNat ≤ c := by omega
        clear hat hxj h8 hL hB
        go_wp2_with fail
        go_region_law (first
          | (go_simp; go_at_call 271; refine H271.out.mono ?_; rintro _ w1 ⟨rfl, hb1'⟩
             have hb1d : Below wr.heap.size wr w1 := ⟨hb1'.os, hb1'.tape, hb1'.output, hb1'.size, hb1'.block⟩
             have hL1 := HL.out.blw hb1d
             obtain ⟨k1, f1, l1⟩ := hL1.use
             have HL1 := Lib.hid hL1
             have HB1 := Lib.hid (HB.out.trans (hb1d.mono HB.out.size))
             clear hb1' hb1d hL1))
        all_goals clear hb0 hb1 hb2 hb3 hb4 hb5
        all_goals go_wp2_with fail
        all_goals go_roundw
        all_goals first
          | (simp [intOf]; omega; done)
          | exact ⟨j + 1, _, by omega, by go_num, HL1.out.set j _, by simp [hcs], Hel.out, HB1.out.setCell (by simp) _⟩
      · obtain rfl : j = xs.length := by omega
        have hdl : decide (((xs.length : Nat) : Int) < xs.length) = false := by simp
        have HL := Lib.hid hL; have HB := Lib.hid hB; have Hat := Lib.hid hat
        clear hL hB hat
        go_wp2_with fail
        go_ret
        exact ⟨_, _, rfl, fl_row HL.out (hS _ (Nat.le_refl _)) (by omega) (fun i hi => Hat.out i hi hi), HB.out⟩
end Go.Proofs.YtahnhhkbdgaidaaGreatDoor
