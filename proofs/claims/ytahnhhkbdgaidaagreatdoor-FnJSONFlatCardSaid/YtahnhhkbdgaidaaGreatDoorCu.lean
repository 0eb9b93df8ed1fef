/-
  The reference's geometry of plain data: points and lines.
-/
import Derived.Test.YtahnhhkbdgaidaaGreatDoorCt
namespace Go.Proofs.YtahnhhkbdgaidaaGreatDoor
open Go.RowKit
set_option maxRecDepth 100000
set_option maxHeartbeats 4000000 in
theorem c13_1 (S : Nat → Prop) (d : Int) (ns : List Nat) (a ak : Option Addr) (c lk ck : Nat) (w : World) (hnl : ns.length ≤ 1000000) (hcap : ns.length ≤ c) (hnil : a = none → c = 0) (hS : ∀ b, w.heap.size ≤ b → S b) (hn : Rd S w (fl ns) (.slice a ns.length c)) :
    Calls Tryz.prog 13 #[.agg #[.int .i64 1, .int .i64 d, .slice a ns.length c, .slice ak lk ck]] w fun e w' => ∃ a1 c1, e = .returned (.agg #[.int .i64 1, .int .i64 (d % 4), .slice a1 (leafN 1 (d % 4) ns).length c1, .slice none 0 0]) ∧
      Rd S w' (fl (leafN 1 (d % 4) ns)) (.slice a1 (leafN 1 (d % 4) ns).length c1) ∧ Below w.heap.size w w' := by
  have hd3 : bits .and .i64 d 3 = d % 4 := and_i64_3 d
  have hll := leafN_len 1 (d % 4) ns
  have hlt : leafN 1 (d % 4) ns = ns.take ((leafN 1 (d % 4) ns).length) := by rw [hll]; rfl
  have hqb := dN_bd (d % 4)
  have H31 := Lib.hid fun w => (show Calls Tryz.prog 31 #[.int .i64 (d % 4)] w fun e w' => e = .returned (.int .i64 (dN (d % 4) : Int)) ∧ w = w' from (c31 (d % 4) w).mono fun e w' h => ⟨by rw [h.1, dN_eq], h.2⟩)
  have hmb := Nat.div_mul_le_self ns.length (dN (d % 4))
  have hdd : ((ns.length : Int) / (dN (d % 4) : Int)) = ((ns.length / dN (d % 4) : Nat) : Int) := (Int.natCast_ediv _ _).symm
  generalize leafN 1 (d % 4) ns = xs at *
  generalize dN (d % 4) = q at *
  generalize d % 4 = D at *
  have hnq := Nat.div_le_self ns.length q
  generalize ns.length / q = nn at *
  have hw1 : IntKind.i64.wrap ((ns.length : Int) / (q : Int)) = (nn : Int) := by rw [hdd]; exact IntWalk.i64_in _ (by omega)
  obtain ⟨mm, hmm⟩ : ∃ mm, mm = min nn 1 := ⟨_, rfl⟩
  have hxl : xs.length = mm * q := by rw [hll, hmm]; simp
  have hmn : mm ≤ nn := by omega
  have hmin : min (nn : Int) 1 = (mm : Int) := by omega
  have hL : xs.length ≤ ns.length := by rw [hxl]; exact Nat.le_trans (Nat.mul_le_mul_right _ hmn) hmb
  have hmul : (mm : Int) * (q : Int) = (xs.length : Int) := by rw [hxl]; exact (Int.natCast_mul _ _).symm
  have hmul2 : IntKind.i64.wrap ((mm : Int) * (q : Int)) = (xs.length : Int) := by rw [hmul]; exact IntWalk.i64_in _ (by omega)
  have HB0 := Lib.hid (((bl_a2 w (.cells #[.int .i64 1, .int .i64 d, .slice a ns.length c, (.slice ak lk ck)] 25) (.cells #[.int .i64 0, .int .i64 0, .slice none 0 0, .slice none 0 0] 25)).alloc (by simp <;> omega) (.cells #[.int .i64 1, .int .i64 D, .slice none 0 0, .slice none 0 0] 25)))
  have L0 := (Lb.new' w #[.int .i64 1, .int .i64 d, .slice a ns.length c, .slice ak lk ck] 25 (.cells #[.int .i64 0, .int .i64 0, .slice none 0 0, .slice none 0 0] 25)).alloc (.cells #[.int .i64 1, .int .i64 D, .slice none 0 0, .slice none 0 0] 25)
  have L1 := (Lb.new2 w (.cells #[.int .i64 1, .int .i64 d, .slice a ns.length c, (.slice ak lk ck)] 25) #[.int .i64 0, .int .i64 0, .slice none 0 0, .slice none 0 0] 25).alloc (.cells #[.int .i64 1, .int .i64 D, .slice none 0 0, .slice none 0 0] 25)
  have L2 := Lb.new3 w (.cells #[.int .i64 1, .int .i64 d, .slice a ns.length c, (.slice ak lk ck)] 25) (.cells #[.int .i64 0, .int .i64 0, .slice none 0 0, .slice none 0 0] 25) #[.int .i64 1, .int .i64 D, .slice none 0 0, .slice none 0 0] 25
  have hrW := ((hn.alloc (.cells #[.int .i64 1, .int .i64 d, .slice a ns.length c, (.slice ak lk ck)] 25)).alloc (.cells #[.int .i64 0, .int .i64 0, .slice none 0 0, .slice none 0 0] 25)).alloc (.cells #[.int .i64 1, .int .i64 D, .slice none 0 0, .slice none 0 0] 25)
  have key : ∀ m : Nat, ∃ v2 w2, (Builtin.append_ #[22, 22] 22 #[.slice none 0 0, .slice a xs.length c]).run Tryz.prog ((((w.alloc (.cells #[.int .i64 1, .int .i64 d, .slice a ns.length c, (.slice ak lk ck)] 25)).alloc (.cells #[.int .i64 0, .int .i64 0, .slice none 0 0, .slice none 0 0] 25)).alloc (.cells #[.int .i64 1, .int .i64 D, .slice none 0 0, .slice none 0 0] 25)).drew.drew) = .ok v2 w2 ∧ Fl (w.heap.size + 3) w2 v2 xs ∧ Below (((w.alloc (.cells #[.int .i64 1, .int .i64 d, .slice a ns.length c, (.slice ak lk ck)] 25)).alloc (.cells #[.int .i64 0, .int .i64 0, .slice none 0 0, .slice none 0 0] 25)).alloc (.cells #[.int .i64 1, .int .i64 D, .slice none 0 0, .slice none 0 0] 25)).heap.size (((w.alloc (.cells #[.int .i64 1, .int .i64 d, .slice a ns.length c, (.slice ak lk ck)] 25)).alloc (.cells #[.int .i64 0, .int .i64 0, .slice none 0 0, .slice none 0 0] 25)).alloc (.cells #[.int .i64 1, .int .i64 D, .slice none 0 0, .slice none 0 0] 25)) w2 := fun _ => by
    obtain ⟨v2, w2, h1, h2, h3⟩ := app_take S (w.heap.size + 3) xs ns a c ((((w.alloc (.cells #[.int .i64 1, .int .i64 d, .slice a ns.length c, (.slice ak lk ck)] 25)).alloc (.cells #[.int .i64 0, .int .i64 0, .slice none 0 0, .slice none 0 0] 25)).alloc (.cells #[.int .i64 1, .int .i64 D, .slice none 0 0, .slice none 0 0] 25)).drew.drew) (by simp [World.drew]) hL hlt hnl hcap hnil hrW.drew.drew
    exact ⟨v2, w2, h1, h2, (Below.refl _ (((w.alloc (.cells #[.int .i64 1, .int .i64 d, .slice a ns.length c, (.slice ak lk ck)] 25)).alloc (.cells #[.int .i64 0, .int .i64 0, .slice none 0 0, .slice none 0 0] 25)).alloc (.cells #[.int .i64 1, .int .i64 D, .slice none 0 0, .slice none 0 0] 25))).drew.drew.trans h3⟩
  have Hkey := Lib.hid key
  have hcL : (xs.length : Int) ≤ (c : Int) := by omega
  have HL1 := Lib.hid L1; have HL2 := Lib.hid L2
  obtain ⟨k0, _, lt0⟩ := L0.use
  obtain ⟨k2, f2, lt2⟩ := L2.use
  have HS := Lib.hid hS
  obtain ⟨hq2, hq4⟩ := hqb
  have hqz : ¬ q = 0 := by omega
  have hqz2 : ¬ (q : Int) = 0 := by omega
  skip
  have hw2 : IntKind.i64.wrap (nn : Int) = (nn : Int) := IntWalk.i64_in _ (by omega)
  have hw3 : IntKind.i64.wrap (xs.length : Int) = (xs.length : Int) := IntWalk.i64_in _ (by omega)
  have hx0 : (0 : Int) ≤ (xs.length : Int) := by omega
  clear key hn hrW L0 L1 L2 hll hlt hmb hxl hmm hnil hS
  go_enter Tryz.func13, Tryz.ntmps13
  go_wp2_with (go_at_call 30; refine (c30 _ _).mono ?_; rintro e w' ⟨rfl, rfl⟩)
  go_region_held3 (fun w' => w'.cell? ⟨w.heap.size, 2, none⟩ = some (.slice a ns.length c) ∧ w'.cell? ⟨w.heap.size + 2, 1, none⟩ = some (.int .i64 D)) (first | (go_keep; done) | (go_simp; done)) (first | (go_at_call 31; refine (H31.out _).mono ?_; rintro _ _ ⟨rfl, rfl⟩))
  go_wp2_with fail
  obtain ⟨v2, w2, hap, hfl, hb2⟩ := Hkey.out 2
  obtain ⟨a1, c1, rfl⟩ := hfl.shape
  have Hap := Lib.hid hap
  have Hfl := Lib.hid hfl
  have L2w := HL2.out.blw hb2
  obtain ⟨kw2, fw2, ltw2⟩ := L2w.use
  have HL1w := Lib.hid (HL1.out.blw hb2)
  obtain ⟨kw1, fw1, ltw1⟩ := HL1w.out.use
  have HBw := Lib.hid (HB0.out.trans (hb2.mono (by simp <;> omega)))
  have hkk : w2.cell? ⟨w.heap.size, 2, none⟩ = some (.slice a ns.length c) := by
    rw [hb2.cell (p := ⟨w.heap.size, 2, none⟩) (by simp; omega)]; exact k0 2
  clear hap hfl hb2 L2w
  go_region_law (first | (refine step_append_eq rfl _ _ 22 rfl rfl rfl rfl Hap.out ?_) | (go_simp; go_at_call 31; refine (H31.out _).mono ?_; rintro _ _ ⟨rfl, rfl⟩))
  all_goals go_wp2_with fail
  all_goals
    refine bodyPost_ret (v := .agg #[.int .i64 1, .int .i64 D, .slice a1 xs.length c1, .slice none 0 0]) (by simp [results, Tryz.results13, go_sem, kw1]) rfl ⟨a1, c1, rfl, ?_, ?_⟩
    · refine Rd.unex (L := w.heap.size + 1) ?_
      refine Rd.unex (L := w.heap.size + 2) ?_
      have hd : Rd (Ex (Ex S (w.heap.size + 1)) (w.heap.size + 2)) w2 (fl xs) (.slice a1 xs.length c1) := Hfl.out.rd (fun b hb => ⟨⟨HS.out b (by omega), by omega⟩, by omega⟩) (by omega)
      repeat (with_reducible first | exact hd | refine Rd.setL1 ?_ _ _ | refine Rd.setL2 ?_ _ _)
    · repeat (with_reducible first | exact HBw.out | refine Below.setCell ?_ (by simp <;> omega) _)
set_option maxHeartbeats 4000000 in
theorem c13_2 (S : Nat → Prop) (d : Int) (ns : List Nat) (a ak : Option Addr) (c lk ck : Nat) (w : World) (hnl : ns.length ≤ 1000000) (hcap : ns.length ≤ c) (hnil : a = none → c = 0) (hS : ∀ b, w.heap.size ≤ b → S b) (hn : Rd S w (fl ns) (.slice a ns.length c)) :
    Calls Tryz.prog 13 #[.agg #[.int .i64 2, .int .i64 d, .slice a ns.length c, .slice ak lk ck]] w fun e w' => ∃ a1 c1, e = .returned (.agg #[.int .i64 2, .int .i64 (d % 4), .slice a1 (leafN 2 (d % 4) ns).length c1, .slice none 0 0]) ∧
      Rd S w' (fl (leafN 2 (d % 4) ns)) (.slice a1 (leafN 2 (d % 4) ns).length c1) ∧ Below w.heap.size w w' := by
  have hd3 : bits .and .i64 d 3 = d % 4 := and_i64_3 d
  have hll := leafN_len 2 (d % 4) ns
  have hlt : leafN 2 (d % 4) ns = ns.take ((leafN 2 (d % 4) ns).length) := by rw [hll]; rfl
  have hqb := dN_bd (d % 4)
  have H31 := Lib.hid fun w => (show Calls Tryz.prog 31 #[.int .i64 (d % 4)] w fun e w' => e = .returned (.int .i64 (dN (d % 4) : Int)) ∧ w = w' from (c31 (d % 4) w).mono fun e w' h => ⟨by rw [h.1, dN_eq], h.2⟩)
  have hmb := Nat.div_mul_le_self ns.length (dN (d % 4))
  have hdd : ((ns.length : Int) / (dN (d % 4) : Int)) = ((ns.length / dN (d % 4) : Nat) : Int) := (Int.natCast_ediv _ _).symm
  generalize leafN 2 (d % 4) ns = xs at *
  generalize dN (d % 4) = q at *
  generalize d % 4 = D at *
  have hnq := Nat.div_le_self ns.length q
  generalize ns.length / q = nn at *
  have hw1 : IntKind.i64.wrap ((ns.length : Int) / (q : Int)) = (nn : Int) := by rw [hdd]; exact IntWalk.i64_in _ (by omega)
  obtain ⟨mm, hmm⟩ : ∃ mm, mm = nn := ⟨_, rfl⟩
  have hxl : xs.length = mm * q := by rw [hll, hmm]; simp
  have hmn : mm ≤ nn := by omega
  skip
  have hL : xs.length ≤ ns.length := by rw [hxl]; exact Nat.le_trans (Nat.mul_le_mul_right _ hmn) hmb
  have hmul : (mm : Int) * (q : Int) = (xs.length : Int) := by rw [hxl]; exact (Int.natCast_mul _ _).symm
  have hmul2 : IntKind.i64.wrap ((mm : Int) * (q : Int)) = (xs.length : Int) := by rw [hmul]; exact IntWalk.i64_in _ (by omega)
  have HB0 := Lib.hid (((bl_a2 w (.cells #[.int .i64 2, .int .i64 d, .slice a ns.length c, (.slice ak lk ck)] 25) (.cells #[.int .i64 0, .int .i64 0, .slice none 0 0, .slice none 0 0] 25)).alloc (by simp <;> omega) (.cells #[.int .i64 2, .int .i64 D, .slice none 0 0, .slice none 0 0] 25)))
  have L0 := (Lb.new' w #[.int .i64 2, .int .i64 d, .slice a ns.length c, .slice ak lk ck] 25 (.cells #[.int .i64 0, .int .i64 0, .slice none 0 0, .slice none 0 0] 25)).alloc (.cells #[.int .i64 2, .int .i64 D, .slice none 0 0, .slice none 0 0] 25)
  have L1 := (Lb.new2 w (.cells #[.int .i64 2, .int .i64 d, .slice a ns.length c, (.slice ak lk ck)] 25) #[.int .i64 0, .int .i64 0, .slice none 0 0, .slice none 0 0] 25).alloc (.cells #[.int .i64 2, .int .i64 D, .slice none 0 0, .slice none 0 0] 25)
  have L2 := Lb.new3 w (.cells #[.int .i64 2, .int .i64 d, .slice a ns.length c, (.slice ak lk ck)] 25) (.cells #[.int .i64 0, .int .i64 0, .slice none 0 0, .slice none 0 0] 25) #[.int .i64 2, .int .i64 D, .slice none 0 0, .slice none 0 0] 25
  have hrW := ((hn.alloc (.cells #[.int .i64 2, .int .i64 d, .slice a ns.length c, (.slice ak lk ck)] 25)).alloc (.cells #[.int .i64 0, .int .i64 0, .slice none 0 0, .slice none 0 0] 25)).alloc (.cells #[.int .i64 2, .int .i64 D, .slice none 0 0, .slice none 0 0] 25)
  have key : ∀ m : Nat, ∃ v2 w2, (Builtin.append_ #[22, 22] 22 #[.slice none 0 0, .slice a xs.length c]).run Tryz.prog ((((w.alloc (.cells #[.int .i64 2, .int .i64 d, .slice a ns.length c, (.slice ak lk ck)] 25)).alloc (.cells #[.int .i64 0, .int .i64 0, .slice none 0 0, .slice none 0 0] 25)).alloc (.cells #[.int .i64 2, .int .i64 D, .slice none 0 0, .slice none 0 0] 25)).drew.drew) = .ok v2 w2 ∧ Fl (w.heap.size + 3) w2 v2 xs ∧ Below (((w.alloc (.cells #[.int .i64 2, .int .i64 d, .slice a ns.length c, (.slice ak lk ck)] 25)).alloc (.cells #[.int .i64 0, .int .i64 0, .slice none 0 0, .slice none 0 0] 25)).alloc (.cells #[.int .i64 2, .int .i64 D, .slice none 0 0, .slice none 0 0] 25)).heap.size (((w.alloc (.cells #[.int .i64 2, .int .i64 d, .slice a ns.length c, (.slice ak lk ck)] 25)).alloc (.cells #[.int .i64 0, .int .i64 0, .slice none 0 0, .slice none 0 0] 25)).alloc (.cells #[.int .i64 2, .int .i64 D, .slice none 0 0, .slice none 0 0] 25)) w2 := fun _ => by
    obtain ⟨v2, w2, h1, h2, h3⟩ := app_take S (w.heap.size + 3) xs ns a c ((((w.alloc (.cells #[.int .i64 2, .int .i64 d, .slice a ns.length c, (.slice ak lk ck)] 25)).alloc (.cells #[.int .i64 0, .int .i64 0, .slice none 0 0, .slice none 0 0] 25)).alloc (.cells #[.int .i64 2, .int .i64 D, .slice none 0 0, .slice none 0 0] 25)).drew.drew) (by simp [World.drew]) hL hlt hnl hcap hnil hrW.drew.drew
    exact ⟨v2, w2, h1, h2, (Below.refl _ (((w.alloc (.cells #[.int .i64 2, .int .i64 d, .slice a ns.length c, (.slice ak lk ck)] 25)).alloc (.cells #[.int .i64 0, .int .i64 0, .slice none 0 0, .slice none 0 0] 25)).alloc (.cells #[.int .i64 2, .int .i64 D, .slice none 0 0, .slice none 0 0] 25))).drew.drew.trans h3⟩
  have Hkey := Lib.hid key
  have hcL : (xs.length : Int) ≤ (c : Int) := by omega
  have HL1 := Lib.hid L1; have HL2 := Lib.hid L2
  obtain ⟨k0, _, lt0⟩ := L0.use
  obtain ⟨k2, f2, lt2⟩ := L2.use
  have HS := Lib.hid hS
  obtain ⟨hq2, hq4⟩ := hqb
  have hqz : ¬ q = 0 := by omega
  have hqz2 : ¬ (q : Int) = 0 := by omega
  subst hmm
  have hw2 : IntKind.i64.wrap (mm : Int) = (mm : Int) := IntWalk.i64_in _ (by omega)
  have hw3 : IntKind.i64.wrap (xs.length : Int) = (xs.length : Int) := IntWalk.i64_in _ (by omega)
  have hx0 : (0 : Int) ≤ (xs.length : Int) := by omega
  clear key hn hrW L0 L1 L2 hll hlt hmb hxl  hnil hS
  go_enter Tryz.func13, Tryz.ntmps13
  go_wp2_with (go_at_call 30; refine (c30 _ _).mono ?_; rintro e w' ⟨rfl, rfl⟩)
  go_region_held3 (fun w' => w'.cell? ⟨w.heap.size, 2, none⟩ = some (.slice a ns.length c) ∧ w'.cell? ⟨w.heap.size + 2, 1, none⟩ = some (.int .i64 D)) (first | (go_keep; done) | (go_simp; done)) (first | (go_at_call 31; refine (H31.out _).mono ?_; rintro _ _ ⟨rfl, rfl⟩))
  go_wp2_with fail
  obtain ⟨v2, w2, hap, hfl, hb2⟩ := Hkey.out 2
  obtain ⟨a1, c1, rfl⟩ := hfl.shape
  have Hap := Lib.hid hap
  have Hfl := Lib.hid hfl
  have L2w := HL2.out.blw hb2
  obtain ⟨kw2, fw2, ltw2⟩ := L2w.use
  have HL1w := Lib.hid (HL1.out.blw hb2)
  obtain ⟨kw1, fw1, ltw1⟩ := HL1w.out.use
  have HBw := Lib.hid (HB0.out.trans (hb2.mono (by simp <;> omega)))
  have hkk : w2.cell? ⟨w.heap.size, 2, none⟩ = some (.slice a ns.length c) := by
    rw [hb2.cell (p := ⟨w.heap.size, 2, none⟩) (by simp; omega)]; exact k0 2
  clear hap hfl hb2 L2w
  go_region_law (first | (refine step_append_eq rfl _ _ 22 rfl rfl rfl rfl Hap.out ?_) | (go_simp; go_at_call 31; refine (H31.out _).mono ?_; rintro _ _ ⟨rfl, rfl⟩))
  all_goals go_wp2_with fail
  all_goals
    refine bodyPost_ret (v := .agg #[.int .i64 2, .int .i64 D, .slice a1 xs.length c1, .slice none 0 0]) (by simp [results, Tryz.results13, go_sem, kw1]) rfl ⟨a1, c1, rfl, ?_, ?_⟩
    · refine Rd.unex (L := w.heap.size + 1) ?_
      refine Rd.unex (L := w.heap.size + 2) ?_
      have hd : Rd (Ex (Ex S (w.heap.size + 1)) (w.heap.size + 2)) w2 (fl xs) (.slice a1 xs.length c1) := Hfl.out.rd (fun b hb => ⟨⟨HS.out b (by omega), by omega⟩, by omega⟩) (by omega)
      repeat (with_reducible first | exact hd | refine Rd.setL1 ?_ _ _ | refine Rd.setL2 ?_ _ _)
    · repeat (with_reducible first | exact HBw.out | refine Below.setCell ?_ (by simp <;> omega) _)
end Go.Proofs.YtahnhhkbdgaidaaGreatDoor
