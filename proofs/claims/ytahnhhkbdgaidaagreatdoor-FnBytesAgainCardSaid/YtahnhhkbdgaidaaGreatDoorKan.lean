/-
  The reference's places of numbers.
-/
import Derived.Test.YtahnhhkbdgaidaaGreatDoorKam
namespace Go.Proofs.YtahnhhkbdgaidaaGreatDoor
open Go.RowKit
set_option maxRecDepth 100000
def plF (c : Crd) : List F := [.atom (.float .f64 c.x), .atom (.float .f64 c.y), .atom (.float .f64 c.z), .atom (.float .f64 c.m)]
theorem info117 : (Tryz.prog.info? 117).map (fun i => (i.zero, i.size, i.bytes)) = some (some (.agg #[.float .f64 0, .float .f64 0, .float .f64 0, .float .f64 0]), 4, 32) := by kernel_rfl
theorem drew_alloc (w : World) (o : Obj) : (w.drew).alloc o = (w.alloc o).drew := rfl
set_option maxHeartbeats 2000000 in
theorem c80_0 (S : Nat → Prop) (xs : List Nat) (a : Option Addr) (c : Nat) (w : World) (hlen : xs.length ≤ 1000000) (hS : ∀ b, w.heap.size ≤ b → S b) (h : Rd S w (fl xs) (.slice a xs.length c)) :
    Calls Tryz.prog 80 #[.slice a xs.length c, .int .i64 0] w fun e w' => ∃ a' c', e = .returned (.slice a' (plsOf 0 xs).length c') ∧ Rd S w' (.list ((plsOf 0 xs).map plF)) (.slice a' (plsOf 0 xs).length c') ∧ Below w.heap.size w w' := by
  have hqn : dN 0 = 2 := by decide
  have Hp : Hid (∀ j (hj : j < (plsOf 0 xs).length), (plsOf 0 xs)[j] = crdOf 0 xs j) := Lib.hid fun j hj => by simp [plsOf]
  have hpl : (plsOf 0 xs).length = xs.length / 2 := by simp [plsOf, hqn]
  generalize plsOf 0 xs = ps at *
  have hsf := st_float
  have ha1 : bits .and .i64 0 1 = 0 := by decide
  have ha2 : bits .and .i64 0 2 = 0 := by decide
  have Hpl := Lib.hid hpl; clear hpl
  go_enter Tryz.func80, Tryz.ntmps80
  go_wp2_with fail
  refine (c31 _ _).mono ?_
  rintro _ _ ⟨rfl, rfl⟩
  have hdn : dimN 0 = 2 := by decide
  go_wp2_with fail
  go_loopw [5, 7] (fun v i wr => ∃ j p : Nat, j ≤ ps.length ∧ i = .int .i64 p ∧ Hid (p = j * 2) ∧ Row S w.heap.size wr 117 4 v ((ps.take j).map plF) ∧ Rd (Old S w.heap.size) wr (fl xs) (.slice a xs.length c) ∧ Below w.heap.size w wr) (fun _ i _ => xs.length + 2 - (intOf i).toNat)
  case atStart => exact ⟨0, 0, Nat.zero_le _, rfl, Lib.hid rfl, Row.nil _ _ _ _ _, h.old, Below.refl _ _⟩
  case round =>
    obtain ⟨j, p, hj, rfl, hp, hR, hr, hB⟩ := hrel
    obtain ⟨av, cv, hv⟩ := hR.shape
    rw [List.length_map, List.length_take, Nat.min_eq_left hj] at hv
    subst hv
    by_cases hlt : j < ps.length
    · have hpb : p + 2 ≤ xs.length := by have := hp.out; have := Hpl.out; omega
      have hjb : j ≤ 1000000 := by have := hp.out; omega
      have hd : decide ((p : Int) + 2 ≤ (xs.length : Int)) = true := by simp; omega
      obtain ⟨a0, c0, e0, hm, hat⟩ := fl_inv hr
      obtain ⟨rfl, _, rfl⟩ := Value.slice.inj e0
      obtain ⟨b, off, rfl, hSb, hbl, qz⟩ := hat p (by omega)
      clear qz
      have q0 := fl_at hr p (by omega)
      have q1 := fl_at hr (p + 1) (by omega)
      obtain ⟨x0, hx0⟩ : ∃ x, x = xs.getD p 0 := ⟨_, rfl⟩
      rw [← hx0] at q0; replace hx0 := Lib.hid hx0
      obtain ⟨x1, hx1⟩ : ∃ x, x = xs.getD (p + 1) 0 := ⟨_, rfl⟩
      rw [← hx1] at q1; replace hx1 := Lib.hid hx1
      have e0' : (p : Int) < (xs.length : Int) := by omega
      have ea1 : (0 : Int) ≤ (p : Int) + 1 := by omega
      have eb1 : (p : Int) + 1 < (xs.length : Int) := by omega
      have ec1 : ((p : Int) + 1).toNat = p + 1 := by omega
      have ed1 : IntKind.i64.wrap ((p : Int) + 1) = (p : Int) + 1 := IntWalk.i64_in _ (by omega)
      have HE : Hid (plF (ps[j]'hlt) = [.atom (.float .f64 x0), .atom (.float .f64 x1), .atom (.float .f64 0), .atom (.float .f64 0)]) := Lib.hid (by
        have hpj := hp.out
        rw [Hp.out j hlt]
        simp only [plF, crdOf, hqn, hx0.out, hx1.out, hpj]
        simp)
      have HR := Lib.hid hR; have Hr := Lib.hid hr; have HB := Lib.hid hB
      have hbA : Below wr.heap.size wr ((wr.alloc (.cells #[.float .f64 x0, .float .f64 x1, .float .f64 0, .float .f64 0] 117)).drew) := (bl_a1 wr (.cells #[.float .f64 x0, .float .f64 x1, .float .f64 0, .float .f64 0] 117)).drew
      obtain ⟨v2, w2, hap, ⟨a3, c3, rfl⟩, hR2, hg⟩ := app_one (P := Tryz.prog) 114 117 4 32 _ Tryz.underlying114 info117 rfl (by omega) (by omega) (hR.step hbA) (plF (ps[j]'hlt)) rfl #[.float .f64 x0, .float .f64 x1, .float .f64 0, .float .f64 0] rfl (by simp [Value.oneCell']) (by
        intro jj hjj
        have hjc : jj = 0 ∨ jj = 1 ∨ jj = 2 ∨ jj = 3 := by have : (plF (ps[j]'hlt)).length = 4 := rfl; omega
        simp only [HE.out]
        rcases hjc with rfl | rfl | rfl | rfl <;> exact ⟨_, rfl, .atom _⟩) (by rw [List.length_map, List.length_take]; omega) (by have := hB.size; have := hbA.size; omega)
      rw [List.length_map, List.length_take, Nat.min_eq_left hj] at hap
      rw [show (wr.alloc (.cells #[.float .f64 x0, .float .f64 x1, .float .f64 0, .float .f64 0] 117)).drew.heap.size = wr.heap.size + 1 from World.size_alloc .., drew_alloc] at hap
      have hown : ∀ q, (Value.slice av j cv).ownBlock = some q → w.heap.size ≤ q := fun q hq => (hR.lt q hq).1
      have Hr' := Lib.hid ((hr.blw hbA).grown hg (fun q hq e => by have := hown _ e.symm; have := hq.2; omega))
      have HB' := Lib.hid ((hB.trans (hbA.mono hB.size)).grown hg (by have := hbA.size; have := hB.size; omega) (fun q hq => hown q hq))
      have Hap := Lib.hid hap
      have HR' := Lib.hid hR2
      clear hR hr hB hat e0 hap hg hown hR2 hbA
      go_wp2_with fail
      go_region_held3 (fun w' => w'.cell? ⟨b, off + p, none⟩ = some (.float .f64 x0) ∧ w'.cell? ⟨b, off + (p + 1), none⟩ = some (.float .f64 x1)) (first | (go_keep; done) | (go_simp; done)) (first | fail)
      go_wp2_with (at_builtin; refine wpList_append_eq rfl _ _ 114 rfl rfl rfl rfl Hap.out ?_)
      go_roundw
      case rel =>
        refine ⟨j + 1, p + 2, by omega, by go_num, Lib.hid (by have := hp.out; omega), ?_, Hr'.out, HB'.out⟩
        rw [take_map_succ ps plF j hlt]
        have e3 := HR'.out
        rw [List.length_map, List.length_take, Nat.min_eq_left hj] at e3
        exact e3
      case measure => simp [intOf]; omega
    · obtain rfl : j = ps.length := by omega
      have hnb : ¬ p + 2 ≤ xs.length := by have := hp.out; have := Hpl.out; omega
      have hdl : decide ((p : Int) + 2 ≤ (xs.length : Int)) = false := by simp; omega
      have hpsm : p ≤ 4000000 := by have := hp.out; have := Hpl.out; omega
      have hbq : ps.length ≤ 17592186044416 := by have := Hpl.out; omega
      have hrd := hR.rd (by omega) hS (by rw [List.length_map, List.length_take]; omega)
      rw [List.take_length] at hrd
      have Hrd := Lib.hid hrd; have HB := Lib.hid hB
      clear hR hr hB hrd
      go_wp2_with fail
      go_ret
      exact ⟨_, _, rfl, Hrd.out, HB.out⟩
set_option maxHeartbeats 2000000 in
theorem c80_1 (S : Nat → Prop) (xs : List Nat) (a : Option Addr) (c : Nat) (w : World) (hlen : xs.length ≤ 1000000) (hS : ∀ b, w.heap.size ≤ b → S b) (h : Rd S w (fl xs) (.slice a xs.length c)) :
    Calls Tryz.prog 80 #[.slice a xs.length c, .int .i64 1] w fun e w' => ∃ a' c', e = .returned (.slice a' (plsOf 1 xs).length c') ∧ Rd S w' (.list ((plsOf 1 xs).map plF)) (.slice a' (plsOf 1 xs).length c') ∧ Below w.heap.size w w' := by
  have hqn : dN 1 = 3 := by decide
  have Hp : Hid (∀ j (hj : j < (plsOf 1 xs).length), (plsOf 1 xs)[j] = crdOf 1 xs j) := Lib.hid fun j hj => by simp [plsOf]
  have hpl : (plsOf 1 xs).length = xs.length / 3 := by simp [plsOf, hqn]
  generalize plsOf 1 xs = ps at *
  have hsf := st_float
  have ha1 : bits .and .i64 1 1 = 1 := by decide
  have ha2 : bits .and .i64 1 2 = 0 := by decide
  have Hpl := Lib.hid hpl; clear hpl
  go_enter Tryz.func80, Tryz.ntmps80
  go_wp2_with fail
  refine (c31 _ _).mono ?_
  rintro _ _ ⟨rfl, rfl⟩
  have hdn : dimN 1 = 3 := by decide
  go_wp2_with fail
  go_loopw [5, 7] (fun v i wr => ∃ j p : Nat, j ≤ ps.length ∧ i = .int .i64 p ∧ Hid (p = j * 3) ∧ Row S w.heap.size wr 117 4 v ((ps.take j).map plF) ∧ Rd (Old S w.heap.size) wr (fl xs) (.slice a xs.length c) ∧ Below w.heap.size w wr) (fun _ i _ => xs.length + 3 - (intOf i).toNat)
  case atStart => exact ⟨0, 0, Nat.zero_le _, rfl, Lib.hid rfl, Row.nil _ _ _ _ _, h.old, Below.refl _ _⟩
  case round =>
    obtain ⟨j, p, hj, rfl, hp, hR, hr, hB⟩ := hrel
    obtain ⟨av, cv, hv⟩ := hR.shape
    rw [List.length_map, List.length_take, Nat.min_eq_left hj] at hv
    subst hv
    by_cases hlt : j < ps.length
    · have hpb : p + 3 ≤ xs.length := by have := hp.out; have := Hpl.out; omega
      have hjb : j ≤ 1000000 := by have := hp.out; omega
      have hd : decide ((p : Int) + 3 ≤ (xs.length : Int)) = true := by simp; omega
      obtain ⟨a0, c0, e0, hm, hat⟩ := fl_inv hr
      obtain ⟨rfl, _, rfl⟩ := Value.slice.inj e0
      obtain ⟨b, off, rfl, hSb, hbl, qz⟩ := hat p (by omega)
      clear qz
      have q0 := fl_at hr p (by omega)
      have q1 := fl_at hr (p + 1) (by omega)
      have q2 := fl_at hr (p + 2) (by omega)
      obtain ⟨x0, hx0⟩ : ∃ x, x = xs.getD p 0 := ⟨_, rfl⟩
      rw [← hx0] at q0; replace hx0 := Lib.hid hx0
      obtain ⟨x1, hx1⟩ : ∃ x, x = xs.getD (p + 1) 0 := ⟨_, rfl⟩
      rw [← hx1] at q1; replace hx1 := Lib.hid hx1
      obtain ⟨x2, hx2⟩ : ∃ x, x = xs.getD (p + 2) 0 := ⟨_, rfl⟩
      rw [← hx2] at q2; replace hx2 := Lib.hid hx2
      have e0' : (p : Int) < (xs.length : Int) := by omega
      have ea1 : (0 : Int) ≤ (p : Int) + 1 := by omega
      have eb1 : (p : Int) + 1 < (xs.length : Int) := by omega
      have ec1 : ((p : Int) + 1).toNat = p + 1 := by omega
      have ed1 : IntKind.i64.wrap ((p : Int) + 1) = (p : Int) + 1 := IntWalk.i64_in _ (by omega)
      have ea2 : (0 : Int) ≤ (p : Int) + 2 := by omega
      have eb2 : (p : Int) + 2 < (xs.length : Int) := by omega
      have ec2 : ((p : Int) + 2).toNat = p + 2 := by omega
      have ed2 : IntKind.i64.wrap ((p : Int) + 2) = (p : Int) + 2 := IntWalk.i64_in _ (by omega)
      have HE : Hid (plF (ps[j]'hlt) = [.atom (.float .f64 x0), .atom (.float .f64 x1), .atom (.float .f64 x2), .atom (.float .f64 0)]) := Lib.hid (by
        have hpj := hp.out
        rw [Hp.out j hlt]
        simp only [plF, crdOf, hqn, hx0.out, hx1.out, hx2.out, hpj]
        simp)
      have HR := Lib.hid hR; have Hr := Lib.hid hr; have HB := Lib.hid hB
      have hbA : Below wr.heap.size wr ((wr.alloc (.cells #[.float .f64 x0, .float .f64 x1, .float .f64 x2, .float .f64 0] 117)).drew) := (bl_a1 wr (.cells #[.float .f64 x0, .float .f64 x1, .float .f64 x2, .float .f64 0] 117)).drew
      obtain ⟨v2, w2, hap, ⟨a3, c3, rfl⟩, hR2, hg⟩ := app_one (P := Tryz.prog) 114 117 4 32 _ Tryz.underlying114 info117 rfl (by omega) (by omega) (hR.step hbA) (plF (ps[j]'hlt)) rfl #[.float .f64 x0, .float .f64 x1, .float .f64 x2, .float .f64 0] rfl (by simp [Value.oneCell']) (by
        intro jj hjj
        have hjc : jj = 0 ∨ jj = 1 ∨ jj = 2 ∨ jj = 3 := by have : (plF (ps[j]'hlt)).length = 4 := rfl; omega
        simp only [HE.out]
        rcases hjc with rfl | rfl | rfl | rfl <;> exact ⟨_, rfl, .atom _⟩) (by rw [List.length_map, List.length_take]; omega) (by have := hB.size; have := hbA.size; omega)
      rw [List.length_map, List.length_take, Nat.min_eq_left hj] at hap
      rw [show (wr.alloc (.cells #[.float .f64 x0, .float .f64 x1, .float .f64 x2, .float .f64 0] 117)).drew.heap.size = wr.heap.size + 1 from World.size_alloc .., drew_alloc] at hap
      have hown : ∀ q, (Value.slice av j cv).ownBlock = some q → w.heap.size ≤ q := fun q hq => (hR.lt q hq).1
      have Hr' := Lib.hid ((hr.blw hbA).grown hg (fun q hq e => by have := hown _ e.symm; have := hq.2; omega))
      have HB' := Lib.hid ((hB.trans (hbA.mono hB.size)).grown hg (by have := hbA.size; have := hB.size; omega) (fun q hq => hown q hq))
      have Hap := Lib.hid hap
      have HR' := Lib.hid hR2
      clear hR hr hB hat e0 hap hg hown hR2 hbA
      go_wp2_with fail
      go_region_held3 (fun w' => w'.cell? ⟨b, off + p, none⟩ = some (.float .f64 x0) ∧ w'.cell? ⟨b, off + (p + 1), none⟩ = some (.float .f64 x1) ∧ w'.cell? ⟨b, off + (p + 2), none⟩ = some (.float .f64 x2)) (first | (go_keep; done) | (go_simp; done)) (first | fail)
      go_wp2_with (at_builtin; refine wpList_append_eq rfl _ _ 114 rfl rfl rfl rfl Hap.out ?_)
      go_roundw
      case rel =>
        refine ⟨j + 1, p + 3, by omega, by go_num, Lib.hid (by have := hp.out; omega), ?_, Hr'.out, HB'.out⟩
        rw [take_map_succ ps plF j hlt]
        have e3 := HR'.out
        rw [List.length_map, List.length_take, Nat.min_eq_left hj] at e3
        exact e3
      case measure => simp [intOf]; omega
    · obtain rfl : j = ps.length := by omega
      have hnb : ¬ p + 3 ≤ xs.length := by have := hp.out; have := Hpl.out; omega
      have hdl : decide ((p : Int) + 3 ≤ (xs.length : Int)) = false := by simp; omega
      have hpsm : p ≤ 4000000 := by have := hp.out; have := Hpl.out; omega
      have hbq : ps.length ≤ 17592186044416 := by have := Hpl.out; omega
      have hrd := hR.rd (by omega) hS (by rw [List.length_map, List.length_take]; omega)
      rw [List.take_length] at hrd
      have Hrd := Lib.hid hrd; have HB := Lib.hid hB
      clear hR hr hB hrd
      go_wp2_with fail
      go_ret
      exact ⟨_, _, rfl, Hrd.out, HB.out⟩
set_option maxHeartbeats 2000000 in
theorem c80_2 (S : Nat → Prop) (xs : List Nat) (a : Option Addr) (c : Nat) (w : World) (hlen : xs.length ≤ 1000000) (hS : ∀ b, w.heap.size ≤ b → S b) (h : Rd S w (fl xs) (.slice a xs.length c)) :
    Calls Tryz.prog 80 #[.slice a xs.length c, .int .i64 2] w fun e w' => ∃ a' c', e = .returned (.slice a' (plsOf 2 xs).length c') ∧ Rd S w' (.list ((plsOf 2 xs).map plF)) (.slice a' (plsOf 2 xs).length c') ∧ Below w.heap.size w w' := by
  have hqn : dN 2 = 3 := by decide
  have Hp : Hid (∀ j (hj : j < (plsOf 2 xs).length), (plsOf 2 xs)[j] = crdOf 2 xs j) := Lib.hid fun j hj => by simp [plsOf]
  have hpl : (plsOf 2 xs).length = xs.length / 3 := by simp [plsOf, hqn]
  generalize plsOf 2 xs = ps at *
  have hsf := st_float
  have ha1 : bits .and .i64 2 1 = 0 := by decide
  have ha2 : bits .and .i64 2 2 = 2 := by decide
  have Hpl := Lib.hid hpl; clear hpl
  go_enter Tryz.func80, Tryz.ntmps80
  go_wp2_with fail
  refine (c31 _ _).mono ?_
  rintro _ _ ⟨rfl, rfl⟩
  have hdn : dimN 2 = 3 := by decide
  go_wp2_with fail
  go_loopw [5, 7] (fun v i wr => ∃ j p : Nat, j ≤ ps.length ∧ i = .int .i64 p ∧ Hid (p = j * 3) ∧ Row S w.heap.size wr 117 4 v ((ps.take j).map plF) ∧ Rd (Old S w.heap.size) wr (fl xs) (.slice a xs.length c) ∧ Below w.heap.size w wr) (fun _ i _ => xs.length + 3 - (intOf i).toNat)
  case atStart => exact ⟨0, 0, Nat.zero_le _, rfl, Lib.hid rfl, Row.nil _ _ _ _ _, h.old, Below.refl _ _⟩
  case round =>
    obtain ⟨j, p, hj, rfl, hp, hR, hr, hB⟩ := hrel
    obtain ⟨av, cv, hv⟩ := hR.shape
    rw [List.length_map, List.length_take, Nat.min_eq_left hj] at hv
    subst hv
    by_cases hlt : j < ps.length
    · have hpb : p + 3 ≤ xs.length := by have := hp.out; have := Hpl.out; omega
      have hjb : j ≤ 1000000 := by have := hp.out; omega
      have hd : decide ((p : Int) + 3 ≤ (xs.length : Int)) = true := by simp; omega
      obtain ⟨a0, c0, e0, hm, hat⟩ := fl_inv hr
      obtain ⟨rfl, _, rfl⟩ := Value.slice.inj e0
      obtain ⟨b, off, rfl, hSb, hbl, qz⟩ := hat p (by omega)
      clear qz
      have q0 := fl_at hr p (by omega)
      have q1 := fl_at hr (p + 1) (by omega)
      have q2 := fl_at hr (p + 2) (by omega)
      obtain ⟨x0, hx0⟩ : ∃ x, x = xs.getD p 0 := ⟨_, rfl⟩
      rw [← hx0] at q0; replace hx0 := Lib.hid hx0
      obtain ⟨x1, hx1⟩ : ∃ x, x = xs.getD (p + 1) 0 := ⟨_, rfl⟩
      rw [← hx1] at q1; replace hx1 := Lib.hid hx1
      obtain ⟨x2, hx2⟩ : ∃ x, x = xs.getD (p + 2) 0 := ⟨_, rfl⟩
      rw [← hx2] at q2; replace hx2 := Lib.hid hx2
      have e0' : (p : Int) < (xs.length : Int) := by omega
      have ea1 : (0 : Int) ≤ (p : Int) + 1 := by omega
      have eb1 : (p : Int) + 1 < (xs.length : Int) := by omega
      have ec1 : ((p : Int) + 1).toNat = p + 1 := by omega
      have ed1 : IntKind.i64.wrap ((p : Int) + 1) = (p : Int) + 1 := IntWalk.i64_in _ (by omega)
      have ea2 : (0 : Int) ≤ (p : Int) + 2 := by omega
      have eb2 : (p : Int) + 2 < (xs.length : Int) := by omega
      have ec2 : ((p : Int) + 2).toNat = p + 2 := by omega
      have ed2 : IntKind.i64.wrap ((p : Int) + 2) = (p : Int) + 2 := IntWalk.i64_in _ (by omega)
      have HE : Hid (plF (ps[j]'hlt) = [.atom (.float .f64 x0), .atom (.float .f64 x1), .atom (.float .f64 0), .atom (.float .f64 x2)]) := Lib.hid (by
        have hpj := hp.out
        rw [Hp.out j hlt]
        simp only [plF, crdOf, hqn, hx0.out, hx1.out, hx2.out, hpj]
        simp)
      have HR := Lib.hid hR; have Hr := Lib.hid hr; have HB := Lib.hid hB
      have hbA : Below wr.heap.size wr ((wr.alloc (.cells #[.float .f64 x0, .float .f64 x1, .float .f64 0, .float .f64 x2] 117)).drew) := (bl_a1 wr (.cells #[.float .f64 x0, .float .f64 x1, .float .f64 0, .float .f64 x2] 117)).drew
      obtain ⟨v2, w2, hap, ⟨a3, c3, rfl⟩, hR2, hg⟩ := app_one (P := Tryz.prog) 114 117 4 32 _ Tryz.underlying114 info117 rfl (by omega) (by omega) (hR.step hbA) (plF (ps[j]'hlt)) rfl #[.float .f64 x0, .float .f64 x1, .float .f64 0, .float .f64 x2] rfl (by simp [Value.oneCell']) (by
        intro jj hjj
        have hjc : jj = 0 ∨ jj = 1 ∨ jj = 2 ∨ jj = 3 := by have : (plF (ps[j]'hlt)).length = 4 := rfl; omega
        simp only [HE.out]
        rcases hjc with rfl | rfl | rfl | rfl <;> exact ⟨_, rfl, .atom _⟩) (by rw [List.length_map, List.length_take]; omega) (by have := hB.size; have := hbA.size; omega)
      rw [List.length_map, List.length_take, Nat.min_eq_left hj] at hap
      rw [show (wr.alloc (.cells #[.float .f64 x0, .float .f64 x1, .float .f64 0, .float .f64 x2] 117)).drew.heap.size = wr.heap.size + 1 from World.size_alloc .., drew_alloc] at hap
      have hown : ∀ q, (Value.slice av j cv).ownBlock = some q → w.heap.size ≤ q := fun q hq => (hR.lt q hq).1
      have Hr' := Lib.hid ((hr.blw hbA).grown hg (fun q hq e => by have := hown _ e.symm; have := hq.2; omega))
      have HB' := Lib.hid ((hB.trans (hbA.mono hB.size)).grown hg (by have := hbA.size; have := hB.size; omega) (fun q hq => hown q hq))
      have Hap := Lib.hid hap
      have HR' := Lib.hid hR2
      clear hR hr hB hat e0 hap hg hown hR2 hbA
      go_wp2_with fail
      go_region_held3 (fun w' => w'.cell? ⟨b, off + p, none⟩ = some (.float .f64 x0) ∧ w'.cell? ⟨b, off + (p + 1), none⟩ = some (.float .f64 x1) ∧ w'.cell? ⟨b, off + (p + 2), none⟩ = some (.float .f64 x2)) (first | (go_keep; done) | (go_simp; done)) (first | fail)
      go_wp2_with (at_builtin; refine wpList_append_eq rfl _ _ 114 rfl rfl rfl rfl Hap.out ?_)
      go_roundw
      case rel =>
        refine ⟨j + 1, p + 3, by omega, by go_num, Lib.hid (by have := hp.out; omega), ?_, Hr'.out, HB'.out⟩
        rw [take_map_succ ps plF j hlt]
        have e3 := HR'.out
        rw [List.length_map, List.length_take, Nat.min_eq_left hj] at e3
        exact e3
      case measure => simp [intOf]; omega
    · obtain rfl : j = ps.length := by omega
      have hnb : ¬ p + 3 ≤ xs.length := by have := hp.out; have := Hpl.out; omega
      have hdl : decide ((p : Int) + 3 ≤ (xs.length : Int)) = false := by simp; omega
      have hpsm : p ≤ 4000000 := by have := hp.out; have := Hpl.out; omega
      have hbq : ps.length ≤ 17592186044416 := by have := Hpl.out; omega
      have hrd := hR.rd (by omega) hS (by rw [List.length_map, List.length_take]; omega)
      rw [List.take_length] at hrd
      have Hrd := Lib.hid hrd; have HB := Lib.hid hB
      clear hR hr hB hrd
      go_wp2_with fail
      go_ret
      exact ⟨_, _, rfl, Hrd.out, HB.out⟩
set_option maxHeartbeats 2000000 in
theorem c80_3 (S : Nat → Prop) (xs : List Nat) (a : Option Addr) (c : Nat) (w : World) (hlen : xs.length ≤ 1000000) (hS : ∀ b, w.heap.size ≤ b → S b) (h : Rd S w (fl xs) (.slice a xs.length c)) :
    Calls Tryz.prog 80 #[.slice a xs.length c, .int .i64 3] w fun e w' => ∃ a' c', e = .returned (.slice a' (plsOf 3 xs).length c') ∧ Rd S w' (.list ((plsOf 3 xs).map plF)) (.slice a' (plsOf 3 xs).length c') ∧ Below w.heap.size w w' := by
  have hqn : dN 3 = 4 := by decide
  have Hp : Hid (∀ j (hj : j < (plsOf 3 xs).length), (plsOf 3 xs)[j] = crdOf 3 xs j) := Lib.hid fun j hj => by simp [plsOf]
  have hpl : (plsOf 3 xs).length = xs.length / 4 := by simp [plsOf, hqn]
  generalize plsOf 3 xs = ps at *
  have hsf := st_float
  have ha1 : bits .and .i64 3 1 = 1 := by decide
  have ha2 : bits .and .i64 3 2 = 2 := by decide
  have Hpl := Lib.hid hpl; clear hpl
  go_enter Tryz.func80, Tryz.ntmps80
  go_wp2_with fail
  refine (c31 _ _).mono ?_
  rintro _ _ ⟨rfl, rfl⟩
  have hdn : dimN 3 = 4 := by decide
  go_wp2_with fail
  go_loopw [5, 7] (fun v i wr => ∃ j p : Nat, j ≤ ps.length ∧ i = .int .i64 p ∧ Hid (p = j * 4) ∧ Row S w.heap.size wr 117 4 v ((ps.take j).map plF) ∧ Rd (Old S w.heap.size) wr (fl xs) (.slice a xs.length c) ∧ Below w.heap.size w wr) (fun _ i _ => xs.length + 4 - (intOf i).toNat)
  case atStart => exact ⟨0, 0, Nat.zero_le _, rfl, Lib.hid rfl, Row.nil _ _ _ _ _, h.old, Below.refl _ _⟩
  case round =>
    obtain ⟨j, p, hj, rfl, hp, hR, hr, hB⟩ := hrel
    obtain ⟨av, cv, hv⟩ := hR.shape
    rw [List.length_map, List.length_take, Nat.min_eq_left hj] at hv
    subst hv
    by_cases hlt : j < ps.length
    · have hpb : p + 4 ≤ xs.length := by have := hp.out; have := Hpl.out; omega
      have hjb : j ≤ 1000000 := by have := hp.out; omega
      have hd : decide ((p : Int) + 4 ≤ (xs.length : Int)) = true := by simp; omega
      obtain ⟨a0, c0, e0, hm, hat⟩ := fl_inv hr
      obtain ⟨rfl, _, rfl⟩ := Value.slice.inj e0
      obtain ⟨b, off, rfl, hSb, hbl, qz⟩ := hat p (by omega)
      clear qz
      have q0 := fl_at hr p (by omega)
      have q1 := fl_at hr (p + 1) (by omega)
      have q2 := fl_at hr (p + 2) (by omega)
      have q3 := fl_at hr (p + 3) (by omega)
      obtain ⟨x0, hx0⟩ : ∃ x, x = xs.getD p 0 := ⟨_, rfl⟩
      rw [← hx0] at q0; replace hx0 := Lib.hid hx0
      obtain ⟨x1, hx1⟩ : ∃ x, x = xs.getD (p + 1) 0 := ⟨_, rfl⟩
      rw [← hx1] at q1; replace hx1 := Lib.hid hx1
      obtain ⟨x2, hx2⟩ : ∃ x, x = xs.getD (p + 2) 0 := ⟨_, rfl⟩
      rw [← hx2] at q2; replace hx2 := Lib.hid hx2
      obtain ⟨x3, hx3⟩ : ∃ x, x = xs.getD (p + 3) 0 := ⟨_, rfl⟩
      rw [← hx3] at q3; replace hx3 := Lib.hid hx3
      have e0' : (p : Int) < (xs.length : Int) := by omega
      have ea1 : (0 : Int) ≤ (p : Int) + 1 := by omega
      have eb1 : (p : Int) + 1 < (xs.length : Int) := by omega
      have ec1 : ((p : Int) + 1).toNat = p + 1 := by omega
      have ed1 : IntKind.i64.wrap ((p : Int) + 1) = (p : Int) + 1 := IntWalk.i64_in _ (by omega)
      have ea2 : (0 : Int) ≤ (p : Int) + 2 := by omega
      have eb2 : (p : Int) + 2 < (xs.length : Int) := by omega
      have ec2 : ((p : Int) + 2).toNat = p + 2 := by omega
      have ed2 : IntKind.i64.wrap ((p : Int) + 2) = (p : Int) + 2 := IntWalk.i64_in _ (by omega)
      have ea3 : (0 : Int) ≤ (p : Int) + 3 := by omega
      have eb3 : (p : Int) + 3 < (xs.length : Int) := by omega
      have ec3 : ((p : Int) + 3).toNat = p + 3 := by omega
      have ed3 : IntKind.i64.wrap ((p : Int) + 3) = (p : Int) + 3 := IntWalk.i64_in _ (by omega)
      have HE : Hid (plF (ps[j]'hlt) = [.atom (.float .f64 x0), .atom (.float .f64 x1), .atom (.float .f64 x2), .atom (.float .f64 x3)]) := Lib.hid (by
        have hpj := hp.out
        rw [Hp.out j hlt]
        simp only [plF, crdOf, hqn, hx0.out, hx1.out, hx2.out, hx3.out, hpj]
        simp)
      have HR := Lib.hid hR; have Hr := Lib.hid hr; have HB := Lib.hid hB
      have hbA : Below wr.heap.size wr ((wr.alloc (.cells #[.float .f64 x0, .float .f64 x1, .float .f64 x2, .float .f64 x3] 117)).drew) := (bl_a1 wr (.cells #[.float .f64 x0, .float .f64 x1, .float .f64 x2, .float .f64 x3] 117)).drew
      obtain ⟨v2, w2, hap, ⟨a3, c3, rfl⟩, hR2, hg⟩ := app_one (P := Tryz.prog) 114 117 4 32 _ Tryz.underlying114 info117 rfl (by omega) (by omega) (hR.step hbA) (plF (ps[j]'hlt)) rfl #[.float .f64 x0, .float .f64 x1, .float .f64 x2, .float .f64 x3] rfl (by simp [Value.oneCell']) (by
        intro jj hjj
        have hjc : jj = 0 ∨ jj = 1 ∨ jj = 2 ∨ jj = 3 := by have : (plF (ps[j]'hlt)).length = 4 := rfl; omega
        simp only [HE.out]
        rcases hjc with rfl | rfl | rfl | rfl <;> exact ⟨_, rfl, .atom _⟩) (by rw [List.length_map, List.length_take]; omega) (by have := hB.size; have := hbA.size; omega)
      rw [List.length_map, List.length_take, Nat.min_eq_left hj] at hap
      rw [show (wr.alloc (.cells #[.float .f64 x0, .float .f64 x1, .float .f64 x2, .float .f64 x3] 117)).drew.heap.size = wr.heap.size + 1 from World.size_alloc .., drew_alloc] at hap
      have hown : ∀ q, (Value.slice av j cv).ownBlock = some q → w.heap.size ≤ q := fun q hq => (hR.lt q hq).1
      have Hr' := Lib.hid ((hr.blw hbA).grown hg (fun q hq e => by have := hown _ e.symm; have := hq.2; omega))
      have HB' := Lib.hid ((hB.trans (hbA.mono hB.size)).grown hg (by have := hbA.size; have := hB.size; omega) (fun q hq => hown q hq))
      have Hap := Lib.hid hap
      have HR' := Lib.hid hR2
      clear hR hr hB hat e0 hap hg hown hR2 hbA
      go_wp2_with fail
      go_region_held3 (fun w' => w'.cell? ⟨b, off + p, none⟩ = some (.float .f64 x0) ∧ w'.cell? ⟨b, off + (p + 1), none⟩ = some (.float .f64 x1) ∧ w'.cell? ⟨b, off + (p + 2), none⟩ = some (.float .f64 x2) ∧ w'.cell? ⟨b, off + (p + 3), none⟩ = some (.float .f64 x3)) (first | (go_keep; done) | (go_simp; done)) (first | fail)
      go_wp2_with (at_builtin; refine wpList_append_eq rfl _ _ 114 rfl rfl rfl rfl Hap.out ?_)
      go_roundw
      case rel =>
        refine ⟨j + 1, p + 4, by omega, by go_num, Lib.hid (by have := hp.out; omega), ?_, Hr'.out, HB'.out⟩
        rw [take_map_succ ps plF j hlt]
        have e3 := HR'.out
        rw [List.length_map, List.length_take, Nat.min_eq_left hj] at e3
        exact e3
      case measure => simp [intOf]; omega
    · obtain rfl : j = ps.length := by omega
      have hnb : ¬ p + 4 ≤ xs.length := by have := hp.out; have := Hpl.out; omega
      have hdl : decide ((p : Int) + 4 ≤ (xs.length : Int)) = false := by simp; omega
      have hpsm : p ≤ 4000000 := by have := hp.out; have := Hpl.out; omega
      have hbq : ps.length ≤ 17592186044416 := by have := Hpl.out; omega
      have hrd := hR.rd (by omega) hS (by rw [List.length_map, List.length_take]; omega)
      rw [List.take_length] at hrd
      have Hrd := Lib.hid hrd; have HB := Lib.hid hB
      clear hR hr hB hrd
      go_wp2_with fail
      go_ret
      exact ⟨_, _, rfl, Hrd.out, HB.out⟩
theorem c80 (S : Nat → Prop) (t : Int) (xs : List Nat) (a : Option Addr) (c : Nat) (w : World) (h0 : 0 ≤ t) (h1 : t ≤ 3) (hlen : xs.length ≤ 1000000) (hS : ∀ b, w.heap.size ≤ b → S b) (h : Rd S w (fl xs) (.slice a xs.length c)) :
    Calls Tryz.prog 80 #[.slice a xs.length c, .int .i64 t] w fun e w' => ∃ a' c', e = .returned (.slice a' (plsOf t xs).length c') ∧ Rd S w' (.list ((plsOf t xs).map plF)) (.slice a' (plsOf t xs).length c') ∧ Below w.heap.size w w' := by
  rcases four t h0 h1 with rfl | rfl | rfl | rfl
  · exact c80_0 S xs a c w hlen hS h
  · exact c80_1 S xs a c w hlen hS h
  · exact c80_2 S xs a c w hlen hS h
  · exact c80_3 S xs a c w hlen hS h
end Go.Proofs.YtahnhhkbdgaidaaGreatDoor
