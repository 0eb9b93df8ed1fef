/-
  A sequence under another type of coordinates.
-/
import Derived.Deep.RegionHeld3
import Derived.Test.YtahnhhkbdgaidaaGreatDoorKac
namespace Go.Proofs.YtahnhhkbdgaidaaGreatDoor
open Go.RowKit
theorem Lb.set {w : World} {b : Nat} {cs : Array Value} {T : TypeId} (h : Lb w b cs T) (o : Nat) (v : Value) : Lb (w.setCell ⟨b, o, none⟩ v) b (cs.setIfInBounds o v) T := by
  unfold Lb at *
  simp [World.setCell, Array.getElem?_modify, h]
theorem Lb.far {w : World} {b : Nat} {cs : Array Value} {T : TypeId} (h : Lb w b cs T) {p : Addr} (hp : b ≠ p.block) (v : Value) : Lb (w.setCell p v) b cs T :=
  (Below.heap_setCell w p v b hp).trans h
/-- The numbers of a place under a type. -/
def crdNums (t : Int) (c : Crd) : List Nat := [c.x, c.y] ++ (if t = 1 ∨ t = 3 then [c.z] else []) ++ (if t = 2 ∨ t = 3 then [c.m] else [])
def forceX (t t' : Int) (xs : List Nat) : List Nat := if t = t' then xs else (List.range (xs.length / dN t)).flatMap fun i => crdNums t' (crdOf t xs i)
def Ln.force (l : Ln) (t' : Int) : Ln := ⟨t', forceX l.t t' l.xs⟩
/-- What is filled in, place by place. -/
def Filled (q : Nat) (f : Nat → List Nat) (i : Nat) (cs : Array Value) : Prop := ∀ p, p < i * q → cs[p]? = some (.float .f64 (((f (p / q)).getD (p % q) 0)))
theorem flat_len (q n : Nat) (f : Nat → List Nat) (hf : ∀ i, (f i).length = q) : ((List.range n).flatMap f).length = n * q := by
  induction n with
  | zero => simp
  | succ n ih => rw [List.range_succ, List.flatMap_append, List.length_append, ih]; simp [hf, Nat.succ_mul]
theorem flat_get (q n : Nat) (f : Nat → List Nat) (hf : ∀ i, (f i).length = q) (p : Nat) (hp : p < n * q) : ((List.range n).flatMap f)[p]? = some ((f (p / q)).getD (p % q) 0) := by
  have hq : 0 < q := by rcases Nat.eq_zero_or_pos q with h | h; · subst h; omega
                        · exact h
  induction n with
  | zero => omega
  | succ n ih =>
    rw [List.range_succ, List.flatMap_append]
    have hl := flat_len q n f hf
    by_cases h : p < n * q
    · rw [List.getElem?_append_left (by rw [hl]; exact h)]; exact ih h
    · rw [List.getElem?_append_right (by rw [hl]; omega), hl]
      have hr : p - n * q < q := by rw [Nat.succ_mul] at hp; omega
      have e1 : p / q = n := by
        have : p = n * q + (p - n * q) := by omega
        rw [this, Nat.add_comm, Nat.add_mul_div_right _ _ hq, Nat.div_eq_of_lt hr]; omega
      have e2 : p % q = p - n * q := by
        have : p = n * q + (p - n * q) := by omega
        conv => lhs; rw [this]
        rw [Nat.add_comm, Nat.add_mul_mod_self_right, Nat.mod_eq_of_lt hr]
      have hlt : p - n * q < (f n).length := by rw [hf]; exact hr
      simp [e1, e2, hlt]
theorem Filled.rd {S : Nat → Prop} {w : World} {q n : Nat} {f : Nat → List Nat} {cs : Array Value} {g c : Nat} (hf : ∀ i, (f i).length = q) (h : Filled q f n cs) (hL : Lb w g cs 43) (hS : S g) (hm : n * q ≤ 17592186044416) :
    Rd S w (fl ((List.range n).flatMap f)) (.slice (some ⟨g, 0, none⟩) (n * q) c) := by
  have e := flat_len q n f hf
  rw [← e]
  refine fl_row hL hS (by rw [e]; exact hm) fun i hi => ?_
  rw [e] at hi
  rw [h i hi]
  have := flat_get q n f hf i hi
  rw [List.getElem?_eq_getElem (by rw [e]; exact hi)] at this
  rw [Option.some.inj this]
theorem Filled.next {q : Nat} {f : Nat → List Nat} {i : Nat} {cs cs' : Array Value} (h : Filled q f i cs) (hq : 0 < q) (hold : ∀ p, p < i * q → cs'[p]? = cs[p]?) (hnew : ∀ j, j < q → cs'[i * q + j]? = some (.float .f64 ((f i).getD j 0))) : Filled q f (i + 1) cs' := by
  intro p hp
  by_cases hlt : p < i * q
  · rw [hold p hlt]; exact h p hlt
  · have hr : p - i * q < q := by rw [Nat.succ_mul] at hp; omega
    have e1 : p / q = i := by
      have : p = i * q + (p - i * q) := by omega
      rw [this, Nat.add_comm, Nat.add_mul_div_right _ _ hq, Nat.div_eq_of_lt hr]; omega
    have e2 : p % q = p - i * q := by
      have : p = i * q + (p - i * q) := by omega
      conv => lhs; rw [this]
      rw [Nat.add_comm, Nat.add_mul_mod_self_right, Nat.mod_eq_of_lt hr]
    rw [e1, e2, ← hnew (p - i * q) hr]
    congr 1; omega
set_option maxRecDepth 100000 in
set_option maxHeartbeats 1000000 in
theorem c159_0 (S : Nat → Prop) (t : Int) (xs : List Nat) (a : Option Addr) (c : Nat) (w : World) (h0 : 0 ≤ t) (h1 : t ≤ 3) (hS : ∀ b, w.heap.size ≤ b → S b) (h : Rd S w (fl xs) (.slice a xs.length c))
    (hne : t ≠ 0) (hpos : 0 < xs.length) (hmod : xs.length % dN t = 0) (hn : xs.length / dN t ≤ 1000000) :
    Calls Tryz.prog 159 #[.agg #[.int .u8 t, .slice a xs.length c], .int .u8 0] w fun e w' => ∃ a' c', e = .returned (.agg #[.int .u8 0, .slice a' (forceX t 0 xs).length c']) ∧ Rd S w' (fl (forceX t 0 xs)) (.slice a' (forceX t 0 xs).length c') ∧ Below w.heap.size w w' := by
  have hsf := st_float
  have hsl : xs.length ≤ 17592186044416 := by obtain ⟨_, _, _, hm, _⟩ := fl_inv h; exact hm
  have hd := dN_bd t
  have hqe : dimN 0 = 2 := by decide
  have hfl : ∀ i, (crdNums 0 (crdOf t xs i)).length = 2 := fun i => by simp [crdNums]
  have hfx : forceX t 0 xs = (List.range (xs.length / dN t)).flatMap fun i => crdNums 0 (crdOf t xs i) := by simp [forceX, hne]
  rw [hfx, flat_len 2 _ _ hfl]
  have hxn : xs.length = xs.length / dN t * dN t := by have := Nat.div_add_mod xs.length (dN t); rw [hmod] at this; rw [Nat.mul_comm]; omega
  have hgb : ∀ i, i < xs.length / dN t → i * dN t + dN t ≤ xs.length := fun i hi => by
    have : (i + 1) * dN t ≤ xs.length / dN t * dN t := Nat.mul_le_mul_right _ hi
    rw [Nat.succ_mul] at this; omega
  clear hfx hxn hmod
  have H84 := Lib.hid (c84 t a xs.length c)
  generalize xs.length / dN t = n at *
  have Hgb := Lib.hid hgb; clear hgb
  have Hfl := Lib.hid hfl; clear hfl
  have hteq : (t == 0) = false := by simpa using hne
  have hlz : ((xs.length : Int) == 0) = false := by rw [beq_eq_false_iff_ne]; omega
  have hmk : ∀ w, (Instr.makeSlice 22 (.int .i64 (2 * (n : Int))) (.int .i64 (2 * (n : Int)))).run Tryz.prog w =
      .ok (.slice (some ⟨w.heap.size, 0, none⟩) (n * 2) (n * 2)) (w.alloc (.cells (madeCells #[.float .f64 0] (n * 2)) 43)) := fun w => by
    have e : (2 * (n : Int)) = ((n * 2 : Nat) : Int) := by omega
    rw [e]
    exact run_make_row' 22 43 (.float .f64 0) 8 Tryz.underlying22 info43 rfl .i64 .i64 _ (by omega) (by omega) w
  go_enter Tryz.func159, Tryz.ntmps159
  go_wp2_with fail
  refine (H84.out _ h0 h1 hsl).mono ?_
  rintro e w1 ⟨rfl, hb1⟩
  have L0 := (Lb.new' w _ _ _).blw hb1
  have L1 := (Lb.new2 w _ _ _).blw hb1
  have HB := Lib.hid ((bl_a2 w _ _).trans (hb1.mono (by simp <;> omega)))
  have hr1 := (((h.ex (L := w.heap.size + 1) (by omega)).alloc _).alloc _).blw hb1
  have HL0 := Lib.hid L0
  have HL1 := Lib.hid L1
  have hs1 : w.heap.size + 1 < w1.heap.size := L1.use.2.2
  obtain ⟨k0, _, lt0⟩ := L0.use
  clear L0 L1 hb1 h
  have hs : ((madeCells #[.float .f64 0] (n * 2))).size = n * 2 := by simp [size_madeCells]
  go_wp2_with (go_at_call 135; refine (c135 _ _ (by omega) (by omega)).mono ?_; rintro e w' ⟨rfl, rfl⟩; rw [hqe])
  clear k0
  go_loopw [8] (fun i wr => ∃ j : Nat, ∃ cs : Array Value, j ≤ n ∧ i = .int .i64 j ∧ cs.size = n * 2 ∧ Filled 2 (fun i => crdNums 0 (crdOf t xs i)) j cs ∧ Lb wr w1.heap.size cs 43 ∧ Lb wr w.heap.size #[.int .u8 t, .slice a xs.length c] 67 ∧ Lb wr (w.heap.size + 1) #[.int .u8 0, .slice none 0 0] 67 ∧ Rd (Ex (Ex S (w.heap.size + 1)) w1.heap.size) wr (fl xs) (.slice a xs.length c) ∧ Below w1.heap.size w1 wr) (fun i _ => n - (intOf i).toNat)
  case atStart => exact ⟨0, _, Nat.zero_le _, rfl, hs, fun p hp => by omega, Lb.new w1 _ _, HL0.out.alloc _, HL1.out.alloc _, (hr1.ex (Nat.le_refl _)).alloc _, bl_a1 w1 _⟩
  case round =>
    obtain ⟨j, cs, hj, rfl, hcs, hF, LR, L0, L1, hr, hB⟩ := hrel
    clear hs hr1
    have HF := Lib.hid hF; clear hF
    have hBs := hB.size
    by_cases hlt : j < n
    · have hjb := Hgb.out j hlt
      obtain ⟨k0, _, lt0⟩ := L0.use
      have HLR := Lib.hid LR
      have HL0 := Lib.hid L0
      have HL1 := Lib.hid L1
      have HB2 := Lib.hid hB
      clear LR L0 L1 hB
      go_wp2_with fail
      refine (c87 _ t xs a c j wr h0 h1 hr hjb).mono ?_
      rintro e w2 ⟨rfl, hb2⟩
      have LR2 := HLR.out.blw hb2
      obtain ⟨kR, fR, ltR⟩ := LR2.use
      have HL0' := Lib.hid (HL0.out.blw hb2)
      have HL1' := Lib.hid (HL1.out.blw hb2)
      have hr2 := Lib.hid (hr.blw hb2)
      have HB3 := Lib.hid (HB2.out.trans (hb2.mono hBs))
      have HLR2 := Lib.hid LR2
      clear hb2 LR2 k0 hr
      have n1 : ¬ w1.heap.size = w2.heap.size := by omega
      have n2 : ¬ w2.heap.size = w1.heap.size := by omega
      have q1 : ∀ (W : World) (o o' : Nat) (v : Value), (W.setCell ⟨w1.heap.size, o, none⟩ v).cell? ⟨w2.heap.size, o', none⟩ = W.cell? ⟨w2.heap.size, o', none⟩ := fun W o o' v => World.cell?_setCell_far W _ _ v n1
      obtain ⟨u0, hu0⟩ : ∃ u, cs[2 * j]? = some u := ⟨_, Array.getElem?_eq_getElem (by rw [hcs]; omega)⟩
      obtain ⟨u1, hu1⟩ : ∃ u, cs[2 * j + 1]? = some u := ⟨_, Array.getElem?_eq_getElem (by rw [hcs]; omega)⟩
      go_wp2_with fail
      go_roundw
      case rel =>
        refine ⟨j + 1, ((cs.setIfInBounds (2 * j) (.float .f64 (crdOf t xs j).x)).setIfInBounds (2 * j + 1) (.float .f64 (crdOf t xs j).y)), by omega, by go_num, by simp [hcs], ?_, ?_, ?_, ?_, ?_, ?_⟩
        · refine HF.out.next (by omega) (fun p hp => ?_) (fun jj hjj => ?_)
          · repeat rw [Array.getElem?_setIfInBounds_ne (by omega)]
          · have hjc : jj = 0 ∨ jj = 1 := by omega
            rcases hjc with rfl | rfl
            · have hlt2 : 2 * j < cs.size := by rw [hcs]; omega
              rw [show j * 2 + 0 = 2 * j by omega]
              simp [crdNums, hlt2]
            · have hlt2 : 2 * j + 1 < cs.size := by rw [hcs]; omega
              rw [show j * 2 + 1 = 2 * j + 1 by omega]
              simp [crdNums, hlt2]
        · exact ((HLR2.out.set _ _).set _ _).alloc _
        · refine Lb.alloc ?_ _
          repeat (with_reducible first | refine Lb.far ?_ (by simp <;> omega) _ | exact HL0'.out)
        · refine Lb.alloc ?_ _
          repeat (with_reducible first | refine Lb.far ?_ (by simp <;> omega) _ | exact HL1'.out)
        · exact ((hr2.out.set _ _).set _ _).alloc _
        · refine Below.alloc ?_ (by simp [World.setCell] <;> omega) _
          repeat (with_reducible first | refine Below.setCell ?_ (by simp) _ | exact HB3.out)
      case measure => simp [intOf]; omega
    · have hjn : j = n := by omega
      subst hjn
      have hdl : decide ((j : Int) < j) = false := by simp
      obtain ⟨k1, f1, lt1⟩ := L1.use
      have HLR := Lib.hid LR
      have HL0 := Lib.hid L0
      have HL1 := Lib.hid L1
      have HB2 := Lib.hid hB
      clear LR L0 L1 hB hmk
      go_wp2_with fail
      refine bodyPost_ret (v := .agg #[.int .u8 0, .slice (some ⟨w1.heap.size, 0, none⟩) (j * 2) (j * 2)]) (by simp [results, Tryz.results159, go_sem, k1]) rfl ⟨_, _, rfl, ?_, ?_⟩
      · refine Filled.rd (cs := cs) Hfl.out HF.out ?_ (hS _ (by omega)) (by omega)
        repeat (with_reducible first | refine Lb.far ?_ (by simp <;> omega) _ | exact HLR.out)
      · repeat (with_reducible first | refine Below.setCell ?_ (by simp) _ | exact HB.out.trans (HB2.out.mono (by omega)))
set_option maxRecDepth 100000 in
set_option maxHeartbeats 1000000 in
theorem c159_1 (S : Nat → Prop) (t : Int) (xs : List Nat) (a : Option Addr) (c : Nat) (w : World) (h0 : 0 ≤ t) (h1 : t ≤ 3) (hS : ∀ b, w.heap.size ≤ b → S b) (h : Rd S w (fl xs) (.slice a xs.length c))
    (hne : t ≠ 1) (hpos : 0 < xs.length) (hmod : xs.length % dN t = 0) (hn : xs.length / dN t ≤ 1000000) :
    Calls Tryz.prog 159 #[.agg #[.int .u8 t, .slice a xs.length c], .int .u8 1] w fun e w' => ∃ a' c', e = .returned (.agg #[.int .u8 1, .slice a' (forceX t 1 xs).length c']) ∧ Rd S w' (fl (forceX t 1 xs)) (.slice a' (forceX t 1 xs).length c') ∧ Below w.heap.size w w' := by
  have hsf := st_float
  have hsl : xs.length ≤ 17592186044416 := by obtain ⟨_, _, _, hm, _⟩ := fl_inv h; exact hm
  have hd := dN_bd t
  have hqe : dimN 1 = 3 := by decide
  have hfl : ∀ i, (crdNums 1 (crdOf t xs i)).length = 3 := fun i => by simp [crdNums]
  have hfx : forceX t 1 xs = (List.range (xs.length / dN t)).flatMap fun i => crdNums 1 (crdOf t xs i) := by simp [forceX, hne]
  rw [hfx, flat_len 3 _ _ hfl]
  have hxn : xs.length = xs.length / dN t * dN t := by have := Nat.div_add_mod xs.length (dN t); rw [hmod] at this; rw [Nat.mul_comm]; omega
  have hgb : ∀ i, i < xs.length / dN t → i * dN t + dN t ≤ xs.length := fun i hi => by
    have : (i + 1) * dN t ≤ xs.length / dN t * dN t := Nat.mul_le_mul_right _ hi
    rw [Nat.succ_mul] at this; omega
  clear hfx hxn hmod
  have H84 := Lib.hid (c84 t a xs.length c)
  generalize xs.length / dN t = n at *
  have Hgb := Lib.hid hgb; clear hgb
  have Hfl := Lib.hid hfl; clear hfl
  have hteq : (t == 1) = false := by simpa using hne
  have hlz : ((xs.length : Int) == 0) = false := by rw [beq_eq_false_iff_ne]; omega
  have hmk : ∀ w, (Instr.makeSlice 22 (.int .i64 (3 * (n : Int))) (.int .i64 (3 * (n : Int)))).run Tryz.prog w =
      .ok (.slice (some ⟨w.heap.size, 0, none⟩) (n * 3) (n * 3)) (w.alloc (.cells (madeCells #[.float .f64 0] (n * 3)) 43)) := fun w => by
    have e : (3 * (n : Int)) = ((n * 3 : Nat) : Int) := by omega
    rw [e]
    exact run_make_row' 22 43 (.float .f64 0) 8 Tryz.underlying22 info43 rfl .i64 .i64 _ (by omega) (by omega) w
  go_enter Tryz.func159, Tryz.ntmps159
  go_wp2_with fail
  refine (H84.out _ h0 h1 hsl).mono ?_
  rintro e w1 ⟨rfl, hb1⟩
  have L0 := (Lb.new' w _ _ _).blw hb1
  have L1 := (Lb.new2 w _ _ _).blw hb1
  have HB := Lib.hid ((bl_a2 w _ _).trans (hb1.mono (by simp <;> omega)))
  have hr1 := (((h.ex (L := w.heap.size + 1) (by omega)).alloc _).alloc _).blw hb1
  have HL0 := Lib.hid L0
  have HL1 := Lib.hid L1
  have hs1 : w.heap.size + 1 < w1.heap.size := L1.use.2.2
  obtain ⟨k0, _, lt0⟩ := L0.use
  clear L0 L1 hb1 h
  have hs : ((madeCells #[.float .f64 0] (n * 3))).size = n * 3 := by simp [size_madeCells]
  go_wp2_with (go_at_call 135; refine (c135 _ _ (by omega) (by omega)).mono ?_; rintro e w' ⟨rfl, rfl⟩; rw [hqe])
  clear k0
  go_loopw [8] (fun i wr => ∃ j : Nat, ∃ cs : Array Value, j ≤ n ∧ i = .int .i64 j ∧ cs.size = n * 3 ∧ Filled 3 (fun i => crdNums 1 (crdOf t xs i)) j cs ∧ Lb wr w1.heap.size cs 43 ∧ Lb wr w.heap.size #[.int .u8 t, .slice a xs.length c] 67 ∧ Lb wr (w.heap.size + 1) #[.int .u8 0, .slice none 0 0] 67 ∧ Rd (Ex (Ex S (w.heap.size + 1)) w1.heap.size) wr (fl xs) (.slice a xs.length c) ∧ Below w1.heap.size w1 wr) (fun i _ => n - (intOf i).toNat)
  case atStart => exact ⟨0, _, Nat.zero_le _, rfl, hs, fun p hp => by omega, Lb.new w1 _ _, HL0.out.alloc _, HL1.out.alloc _, (hr1.ex (Nat.le_refl _)).alloc _, bl_a1 w1 _⟩
  case round =>
    obtain ⟨j, cs, hj, rfl, hcs, hF, LR, L0, L1, hr, hB⟩ := hrel
    clear hs hr1
    have HF := Lib.hid hF; clear hF
    have hBs := hB.size
    by_cases hlt : j < n
    · have hjb := Hgb.out j hlt
      obtain ⟨k0, _, lt0⟩ := L0.use
      have HLR := Lib.hid LR
      have HL0 := Lib.hid L0
      have HL1 := Lib.hid L1
      have HB2 := Lib.hid hB
      clear LR L0 L1 hB
      go_wp2_with fail
      refine (c87 _ t xs a c j wr h0 h1 hr hjb).mono ?_
      rintro e w2 ⟨rfl, hb2⟩
      have LR2 := HLR.out.blw hb2
      obtain ⟨kR, fR, ltR⟩ := LR2.use
      have HL0' := Lib.hid (HL0.out.blw hb2)
      have HL1' := Lib.hid (HL1.out.blw hb2)
      have hr2 := Lib.hid (hr.blw hb2)
      have HB3 := Lib.hid (HB2.out.trans (hb2.mono hBs))
      have HLR2 := Lib.hid LR2
      clear hb2 LR2 k0 hr
      have n1 : ¬ w1.heap.size = w2.heap.size := by omega
      have n2 : ¬ w2.heap.size = w1.heap.size := by omega
      have q1 : ∀ (W : World) (o o' : Nat) (v : Value), (W.setCell ⟨w1.heap.size, o, none⟩ v).cell? ⟨w2.heap.size, o', none⟩ = W.cell? ⟨w2.heap.size, o', none⟩ := fun W o o' v => World.cell?_setCell_far W _ _ v n1
      obtain ⟨u0, hu0⟩ : ∃ u, cs[3 * j]? = some u := ⟨_, Array.getElem?_eq_getElem (by rw [hcs]; omega)⟩
      obtain ⟨u1, hu1⟩ : ∃ u, cs[3 * j + 1]? = some u := ⟨_, Array.getElem?_eq_getElem (by rw [hcs]; omega)⟩
      obtain ⟨u2, hu2⟩ : ∃ u, cs[3 * j + 2]? = some u := ⟨_, Array.getElem?_eq_getElem (by rw [hcs]; omega)⟩
      go_wp2_with fail
      go_roundw
      case rel =>
        refine ⟨j + 1, (((cs.setIfInBounds (3 * j) (.float .f64 (crdOf t xs j).x)).setIfInBounds (3 * j + 1) (.float .f64 (crdOf t xs j).y)).setIfInBounds (3 * j + 2) (.float .f64 (crdOf t xs j).z)), by omega, by go_num, by simp [hcs], ?_, ?_, ?_, ?_, ?_, ?_⟩
        · refine HF.out.next (by omega) (fun p hp => ?_) (fun jj hjj => ?_)
          · repeat rw [Array.getElem?_setIfInBounds_ne (by omega)]
          · have hjc : jj = 0 ∨ jj = 1 ∨ jj = 2 := by omega
            rcases hjc with rfl | rfl | rfl
            · have hlt2 : 3 * j < cs.size := by rw [hcs]; omega
              rw [show j * 3 + 0 = 3 * j by omega]
              simp [crdNums, hlt2]
            · have hlt2 : 3 * j + 1 < cs.size := by rw [hcs]; omega
              rw [show j * 3 + 1 = 3 * j + 1 by omega]
              simp [crdNums, hlt2]
            · have hlt2 : 3 * j + 2 < cs.size := by rw [hcs]; omega
              rw [show j * 3 + 2 = 3 * j + 2 by omega]
              simp [crdNums, hlt2]
        · exact (((HLR2.out.set _ _).set _ _).set _ _).alloc _
        · refine Lb.alloc ?_ _
          repeat (with_reducible first | refine Lb.far ?_ (by simp <;> omega) _ | exact HL0'.out)
        · refine Lb.alloc ?_ _
          repeat (with_reducible first | refine Lb.far ?_ (by simp <;> omega) _ | exact HL1'.out)
        · exact (((hr2.out.set _ _).set _ _).set _ _).alloc _
        · refine Below.alloc ?_ (by simp [World.setCell] <;> omega) _
          repeat (with_reducible first | refine Below.setCell ?_ (by simp) _ | exact HB3.out)
      case measure => simp [intOf]; omega
    · have hjn : j = n := by omega
      subst hjn
      have hdl : decide ((j : Int) < j) = false := by simp
      obtain ⟨k1, f1, lt1⟩ := L1.use
      have HLR := Lib.hid LR
      have HL0 := Lib.hid L0
      have HL1 := Lib.hid L1
      have HB2 := Lib.hid hB
      clear LR L0 L1 hB hmk
      go_wp2_with fail
      refine bodyPost_ret (v := .agg #[.int .u8 1, .slice (some ⟨w1.heap.size, 0, none⟩) (j * 3) (j * 3)]) (by simp [results, Tryz.results159, go_sem, k1]) rfl ⟨_, _, rfl, ?_, ?_⟩
      · refine Filled.rd (cs := cs) Hfl.out HF.out ?_ (hS _ (by omega)) (by omega)
        repeat (with_reducible first | refine Lb.far ?_ (by simp <;> omega) _ | exact HLR.out)
      · repeat (with_reducible first | refine Below.setCell ?_ (by simp) _ | exact HB.out.trans (HB2.out.mono (by omega)))
set_option maxRecDepth 100000 in
set_option maxHeartbeats 1000000 in
theorem c159_2 (S : Nat → Prop) (t : Int) (xs : List Nat) (a : Option Addr) (c : Nat) (w : World) (h0 : 0 ≤ t) (h1 : t ≤ 3) (hS : ∀ b, w.heap.size ≤ b → S b) (h : Rd S w (fl xs) (.slice a xs.length c))
    (hne : t ≠ 2) (hpos : 0 < xs.length) (hmod : xs.length % dN t = 0) (hn : xs.length / dN t ≤ 1000000) :
    Calls Tryz.prog 159 #[.agg #[.int .u8 t, .slice a xs.length c], .int .u8 2] w fun e w' => ∃ a' c', e = .returned (.agg #[.int .u8 2, .slice a' (forceX t 2 xs).length c']) ∧ Rd S w' (fl (forceX t 2 xs)) (.slice a' (forceX t 2 xs).length c') ∧ Below w.heap.size w w' := by
  have hsf := st_float
  have hsl : xs.length ≤ 17592186044416 := by obtain ⟨_, _, _, hm, _⟩ := fl_inv h; exact hm
  have hd := dN_bd t
  have hqe : dimN 2 = 3 := by decide
  have hfl : ∀ i, (crdNums 2 (crdOf t xs i)).length = 3 := fun i => by simp [crdNums]
  have hfx : forceX t 2 xs = (List.range (xs.length / dN t)).flatMap fun i => crdNums 2 (crdOf t xs i) := by simp [forceX, hne]
  rw [hfx, flat_len 3 _ _ hfl]
  have hxn : xs.length = xs.length / dN t * dN t := by have := Nat.div_add_mod xs.length (dN t); rw [hmod] at this; rw [Nat.mul_comm]; omega
  have hgb : ∀ i, i < xs.length / dN t → i * dN t + dN t ≤ xs.length := fun i hi => by
    have : (i + 1) * dN t ≤ xs.length / dN t * dN t := Nat.mul_le_mul_right _ hi
    rw [Nat.succ_mul] at this; omega
  clear hfx hxn hmod
  have H84 := Lib.hid (c84 t a xs.length c)
  generalize xs.length / dN t = n at *
  have Hgb := Lib.hid hgb; clear hgb
  have Hfl := Lib.hid hfl; clear hfl
  have hteq : (t == 2) = false := by simpa using hne
  have hlz : ((xs.length : Int) == 0) = false := by rw [beq_eq_false_iff_ne]; omega
  have hmk : ∀ w, (Instr.makeSlice 22 (.int .i64 (3 * (n : Int))) (.int .i64 (3 * (n : Int)))).run Tryz.prog w =
      .ok (.slice (some ⟨w.heap.size, 0, none⟩) (n * 3) (n * 3)) (w.alloc (.cells (madeCells #[.float .f64 0] (n * 3)) 43)) := fun w => by
    have e : (3 * (n : Int)) = ((n * 3 : Nat) : Int) := by omega
    rw [e]
    exact run_make_row' 22 43 (.float .f64 0) 8 Tryz.underlying22 info43 rfl .i64 .i64 _ (by omega) (by omega) w
  go_enter Tryz.func159, Tryz.ntmps159
  go_wp2_with fail
  refine (H84.out _ h0 h1 hsl).mono ?_
  rintro e w1 ⟨rfl, hb1⟩
  have L0 := (Lb.new' w _ _ _).blw hb1
  have L1 := (Lb.new2 w _ _ _).blw hb1
  have HB := Lib.hid ((bl_a2 w _ _).trans (hb1.mono (by simp <;> omega)))
  have hr1 := (((h.ex (L := w.heap.size + 1) (by omega)).alloc _).alloc _).blw hb1
  have HL0 := Lib.hid L0
  have HL1 := Lib.hid L1
  have hs1 : w.heap.size + 1 < w1.heap.size := L1.use.2.2
  obtain ⟨k0, _, lt0⟩ := L0.use
  clear L0 L1 hb1 h
  have hs : ((madeCells #[.float .f64 0] (n * 3))).size = n * 3 := by simp [size_madeCells]
  go_wp2_with (go_at_call 135; refine (c135 _ _ (by omega) (by omega)).mono ?_; rintro e w' ⟨rfl, rfl⟩; rw [hqe])
  clear k0
  go_loopw [8] (fun i wr => ∃ j : Nat, ∃ cs : Array Value, j ≤ n ∧ i = .int .i64 j ∧ cs.size = n * 3 ∧ Filled 3 (fun i => crdNums 2 (crdOf t xs i)) j cs ∧ Lb wr w1.heap.size cs 43 ∧ Lb wr w.heap.size #[.int .u8 t, .slice a xs.length c] 67 ∧ Lb wr (w.heap.size + 1) #[.int .u8 0, .slice none 0 0] 67 ∧ Rd (Ex (Ex S (w.heap.size + 1)) w1.heap.size) wr (fl xs) (.slice a xs.length c) ∧ Below w1.heap.size w1 wr) (fun i _ => n - (intOf i).toNat)
  case atStart => exact ⟨0, _, Nat.zero_le _, rfl, hs, fun p hp => by omega, Lb.new w1 _ _, HL0.out.alloc _, HL1.out.alloc _, (hr1.ex (Nat.le_refl _)).alloc _, bl_a1 w1 _⟩
  case round =>
    obtain ⟨j, cs, hj, rfl, hcs, hF, LR, L0, L1, hr, hB⟩ := hrel
    clear hs hr1
    have HF := Lib.hid hF; clear hF
    have hBs := hB.size
    by_cases hlt : j < n
    · have hjb := Hgb.out j hlt
      obtain ⟨k0, _, lt0⟩ := L0.use
      have HLR := Lib.hid LR
      have HL0 := Lib.hid L0
      have HL1 := Lib.hid L1
      have HB2 := Lib.hid hB
      clear LR L0 L1 hB
      go_wp2_with fail
      refine (c87 _ t xs a c j wr h0 h1 hr hjb).mono ?_
      rintro e w2 ⟨rfl, hb2⟩
      have LR2 := HLR.out.blw hb2
      obtain ⟨kR, fR, ltR⟩ := LR2.use
      have HL0' := Lib.hid (HL0.out.blw hb2)
      have HL1' := Lib.hid (HL1.out.blw hb2)
      have hr2 := Lib.hid (hr.blw hb2)
      have HB3 := Lib.hid (HB2.out.trans (hb2.mono hBs))
      have HLR2 := Lib.hid LR2
      clear hb2 LR2 k0 hr
      have n1 : ¬ w1.heap.size = w2.heap.size := by omega
      have n2 : ¬ w2.heap.size = w1.heap.size := by omega
      have q1 : ∀ (W : World) (o o' : Nat) (v : Value), (W.setCell ⟨w1.heap.size, o, none⟩ v).cell? ⟨w2.heap.size, o', none⟩ = W.cell? ⟨w2.heap.size, o', none⟩ := fun W o o' v => World.cell?_setCell_far W _ _ v n1
      obtain ⟨u0, hu0⟩ : ∃ u, cs[3 * j]? = some u := ⟨_, Array.getElem?_eq_getElem (by rw [hcs]; omega)⟩
      obtain ⟨u1, hu1⟩ : ∃ u, cs[3 * j + 1]? = some u := ⟨_, Array.getElem?_eq_getElem (by rw [hcs]; omega)⟩
      obtain ⟨u2, hu2⟩ : ∃ u, cs[3 * j + 2]? = some u := ⟨_, Array.getElem?_eq_getElem (by rw [hcs]; omega)⟩
      go_wp2_with fail
      go_roundw
      case rel =>
        refine ⟨j + 1, (((cs.setIfInBounds (3 * j) (.float .f64 (crdOf t xs j).x)).setIfInBounds (3 * j + 1) (.float .f64 (crdOf t xs j).y)).setIfInBounds (3 * j + 2) (.float .f64 (crdOf t xs j).m)), by omega, by go_num, by simp [hcs], ?_, ?_, ?_, ?_, ?_, ?_⟩
        · refine HF.out.next (by omega) (fun p hp => ?_) (fun jj hjj => ?_)
          · repeat rw [Array.getElem?_setIfInBounds_ne (by omega)]
          · have hjc : jj = 0 ∨ jj = 1 ∨ jj = 2 := by omega
            rcases hjc with rfl | rfl | rfl
            · have hlt2 : 3 * j < cs.size := by rw [hcs]; omega
              rw [show j * 3 + 0 = 3 * j by omega]
              simp [crdNums, hlt2]
            · have hlt2 : 3 * j + 1 < cs.size := by rw [hcs]; omega
              rw [show j * 3 + 1 = 3 * j + 1 by omega]
              simp [crdNums, hlt2]
            · have hlt2 : 3 * j + 2 < cs.size := by rw [hcs]; omega
              rw [show j * 3 + 2 = 3 * j + 2 by omega]
              simp [crdNums, hlt2]
        · exact (((HLR2.out.set _ _).set _ _).set _ _).alloc _
        · refine Lb.alloc ?_ _
          repeat (with_reducible first | refine Lb.far ?_ (by simp <;> omega) _ | exact HL0'.out)
        · refine Lb.alloc ?_ _
          repeat (with_reducible first | refine Lb.far ?_ (by simp <;> omega) _ | exact HL1'.out)
        · exact (((hr2.out.set _ _).set _ _).set _ _).alloc _
        · refine Below.alloc ?_ (by simp [World.setCell] <;> omega) _
          repeat (with_reducible first | refine Below.setCell ?_ (by simp) _ | exact HB3.out)
      case measure => simp [intOf]; omega
    · have hjn : j = n := by omega
      subst hjn
      have hdl : decide ((j : Int) < j) = false := by simp
      obtain ⟨k1, f1, lt1⟩ := L1.use
      have HLR := Lib.hid LR
      have HL0 := Lib.hid L0
      have HL1 := Lib.hid L1
      have HB2 := Lib.hid hB
      clear LR L0 L1 hB hmk
      go_wp2_with fail
      refine bodyPost_ret (v := .agg #[.int .u8 2, .slice (some ⟨w1.heap.size, 0, none⟩) (j * 3) (j * 3)]) (by simp [results, Tryz.results159, go_sem, k1]) rfl ⟨_, _, rfl, ?_, ?_⟩
      · refine Filled.rd (cs := cs) Hfl.out HF.out ?_ (hS _ (by omega)) (by omega)
        repeat (with_reducible first | refine Lb.far ?_ (by simp <;> omega) _ | exact HLR.out)
      · repeat (with_reducible first | refine Below.setCell ?_ (by simp) _ | exact HB.out.trans (HB2.out.mono (by omega)))
set_option maxRecDepth 100000 in
set_option maxHeartbeats 1000000 in
theorem c159_3 (S : Nat → Prop) (t : Int) (xs : List Nat) (a : Option Addr) (c : Nat) (w : World) (h0 : 0 ≤ t) (h1 : t ≤ 3) (hS : ∀ b, w.heap.size ≤ b → S b) (h : Rd S w (fl xs) (.slice a xs.length c))
    (hne : t ≠ 3) (hpos : 0 < xs.length) (hmod : xs.length % dN t = 0) (hn : xs.length / dN t ≤ 1000000) :
    Calls Tryz.prog 159 #[.agg #[.int .u8 t, .slice a xs.length c], .int .u8 3] w fun e w' => ∃ a' c', e = .returned (.agg #[.int .u8 3, .slice a' (forceX t 3 xs).length c']) ∧ Rd S w' (fl (forceX t 3 xs)) (.slice a' (forceX t 3 xs).length c') ∧ Below w.heap.size w w' := by
  have hsf := st_float
  have hsl : xs.length ≤ 17592186044416 := by obtain ⟨_, _, _, hm, _⟩ := fl_inv h; exact hm
  have hd := dN_bd t
  have hqe : dimN 3 = 4 := by decide
  have hfl : ∀ i, (crdNums 3 (crdOf t xs i)).length = 4 := fun i => by simp [crdNums]
  have hfx : forceX t 3 xs = (List.range (xs.length / dN t)).flatMap fun i => crdNums 3 (crdOf t xs i) := by simp [forceX, hne]
  rw [hfx, flat_len 4 _ _ hfl]
  have hxn : xs.length = xs.length / dN t * dN t := by have := Nat.div_add_mod xs.length (dN t); rw [hmod] at this; rw [Nat.mul_comm]; omega
  have hgb : ∀ i, i < xs.length / dN t → i * dN t + dN t ≤ xs.length := fun i hi => by
    have : (i + 1) * dN t ≤ xs.length / dN t * dN t := Nat.mul_le_mul_right _ hi
    rw [Nat.succ_mul] at this; omega
  clear hfx hxn hmod
  have H84 := Lib.hid (c84 t a xs.length c)
  generalize xs.length / dN t = n at *
  have Hgb := Lib.hid hgb; clear hgb
  have Hfl := Lib.hid hfl; clear hfl
  have hteq : (t == 3) = false := by simpa using hne
  have hlz : ((xs.length : Int) == 0) = false := by rw [beq_eq_false_iff_ne]; omega
  have hmk : ∀ w, (Instr.makeSlice 22 (.int .i64 (4 * (n : Int))) (.int .i64 (4 * (n : Int)))).run Tryz.prog w =
      .ok (.slice (some ⟨w.heap.size, 0, none⟩) (n * 4) (n * 4)) (w.alloc (.cells (madeCells #[.float .f64 0] (n * 4)) 43)) := fun w => by
    have e : (4 * (n : Int)) = ((n * 4 : Nat) : Int) := by omega
    rw [e]
    exact run_make_row' 22 43 (.float .f64 0) 8 Tryz.underlying22 info43 rfl .i64 .i64 _ (by omega) (by omega) w
  go_enter Tryz.func159, Tryz.ntmps159
  go_wp2_with fail
  refine (H84.out _ h0 h1 hsl).mono ?_
  rintro e w1 ⟨rfl, hb1⟩
  have L0 := (Lb.new' w _ _ _).blw hb1
  have L1 := (Lb.new2 w _ _ _).blw hb1
  have HB := Lib.hid ((bl_a2 w _ _).trans (hb1.mono (by simp <;> omega)))
  have hr1 := (((h.ex (L := w.heap.size + 1) (by omega)).alloc _).alloc _).blw hb1
  have HL0 := Lib.hid L0
  have HL1 := Lib.hid L1
  have hs1 : w.heap.size + 1 < w1.heap.size := L1.use.2.2
  obtain ⟨k0, _, lt0⟩ := L0.use
  clear L0 L1 hb1 h
  have hs : ((madeCells #[.float .f64 0] (n * 4))).size = n * 4 := by simp [size_madeCells]
  go_wp2_with (go_at_call 135; refine (c135 _ _ (by omega) (by omega)).mono ?_; rintro e w' ⟨rfl, rfl⟩; rw [hqe])
  clear k0
  go_loopw [8] (fun i wr => ∃ j : Nat, ∃ cs : Array Value, j ≤ n ∧ i = .int .i64 j ∧ cs.size = n * 4 ∧ Filled 4 (fun i => crdNums 3 (crdOf t xs i)) j cs ∧ Lb wr w1.heap.size cs 43 ∧ Lb wr w.heap.size #[.int .u8 t, .slice a xs.length c] 67 ∧ Lb wr (w.heap.size + 1) #[.int .u8 0, .slice none 0 0] 67 ∧ Rd (Ex (Ex S (w.heap.size + 1)) w1.heap.size) wr (fl xs) (.slice a xs.length c) ∧ Below w1.heap.size w1 wr) (fun i _ => n - (intOf i).toNat)
  case atStart => exact ⟨0, _, Nat.zero_le _, rfl, hs, fun p hp => by omega, Lb.new w1 _ _, HL0.out.alloc _, HL1.out.alloc _, (hr1.ex (Nat.le_refl _)).alloc _, bl_a1 w1 _⟩
  case round =>
    obtain ⟨j, cs, hj, rfl, hcs, hF, LR, L0, L1, hr, hB⟩ := hrel
    clear hs hr1
    have HF := Lib.hid hF; clear hF
    have hBs := hB.size
    by_cases hlt : j < n
    · have hjb := Hgb.out j hlt
      obtain ⟨k0, _, lt0⟩ := L0.use
      have HLR := Lib.hid LR
      have HL0 := Lib.hid L0
      have HL1 := Lib.hid L1
      have HB2 := Lib.hid hB
      clear LR L0 L1 hB
      go_wp2_with fail
      refine (c87 _ t xs a c j wr h0 h1 hr hjb).mono ?_
      rintro e w2 ⟨rfl, hb2⟩
      have LR2 := HLR.out.blw hb2
      obtain ⟨kR, fR, ltR⟩ := LR2.use
      have HL0' := Lib.hid (HL0.out.blw hb2)
      have HL1' := Lib.hid (HL1.out.blw hb2)
      have hr2 := Lib.hid (hr.blw hb2)
      have HB3 := Lib.hid (HB2.out.trans (hb2.mono hBs))
      have HLR2 := Lib.hid LR2
      clear hb2 LR2 k0 hr
      have n1 : ¬ w1.heap.size = w2.heap.size := by omega
      have n2 : ¬ w2.heap.size = w1.heap.size := by omega
      have q1 : ∀ (W : World) (o o' : Nat) (v : Value), (W.setCell ⟨w1.heap.size, o, none⟩ v).cell? ⟨w2.heap.size, o', none⟩ = W.cell? ⟨w2.heap.size, o', none⟩ := fun W o o' v => World.cell?_setCell_far W _ _ v n1
      obtain ⟨u0, hu0⟩ : ∃ u, cs[4 * j]? = some u := ⟨_, Array.getElem?_eq_getElem (by rw [hcs]; omega)⟩
      obtain ⟨u1, hu1⟩ : ∃ u, cs[4 * j + 1]? = some u := ⟨_, Array.getElem?_eq_getElem (by rw [hcs]; omega)⟩
      obtain ⟨u2, hu2⟩ : ∃ u, cs[4 * j + 2]? = some u := ⟨_, Array.getElem?_eq_getElem (by rw [hcs]; omega)⟩
      obtain ⟨u3, hu3⟩ : ∃ u, cs[4 * j + 3]? = some u := ⟨_, Array.getElem?_eq_getElem (by rw [hcs]; omega)⟩
      go_wp2_with fail
      go_roundw
      case rel =>
        refine ⟨j + 1, ((((cs.setIfInBounds (4 * j) (.float .f64 (crdOf t xs j).x)).setIfInBounds (4 * j + 1) (.float .f64 (crdOf t xs j).y)).setIfInBounds (4 * j + 2) (.float .f64 (crdOf t xs j).z)).setIfInBounds (4 * j + 3) (.float .f64 (crdOf t xs j).m)), by omega, by go_num, by simp [hcs], ?_, ?_, ?_, ?_, ?_, ?_⟩
        · refine HF.out.next (by omega) (fun p hp => ?_) (fun jj hjj => ?_)
          · repeat rw [Array.getElem?_setIfInBounds_ne (by omega)]
          · have hjc : jj = 0 ∨ jj = 1 ∨ jj = 2 ∨ jj = 3 := by omega
            rcases hjc with rfl | rfl | rfl | rfl
            · have hlt2 : 4 * j < cs.size := by rw [hcs]; omega
              rw [show j * 4 + 0 = 4 * j by omega]
              simp [crdNums, hlt2]
            · have hlt2 : 4 * j + 1 < cs.size := by rw [hcs]; omega
              rw [show j * 4 + 1 = 4 * j + 1 by omega]
              simp [crdNums, hlt2]
            · have hlt2 : 4 * j + 2 < cs.size := by rw [hcs]; omega
              rw [show j * 4 + 2 = 4 * j + 2 by omega]
              simp [crdNums, hlt2]
            · have hlt2 : 4 * j + 3 < cs.size := by rw [hcs]; omega
              rw [show j * 4 + 3 = 4 * j + 3 by omega]
              simp [crdNums, hlt2]
        · exact ((((HLR2.out.set _ _).set _ _).set _ _).set _ _).alloc _
        · refine Lb.alloc ?_ _
          repeat (with_reducible first | refine Lb.far ?_ (by simp <;> omega) _ | exact HL0'.out)
        · refine Lb.alloc ?_ _
          repeat (with_reducible first | refine Lb.far ?_ (by simp <;> omega) _ | exact HL1'.out)
        · exact ((((hr2.out.set _ _).set _ _).set _ _).set _ _).alloc _
        · refine Below.alloc ?_ (by simp [World.setCell] <;> omega) _
          repeat (with_reducible first | refine Below.setCell ?_ (by simp) _ | exact HB3.out)
      case measure => simp [intOf]; omega
    · have hjn : j = n := by omega
      subst hjn
      have hdl : decide ((j : Int) < j) = false := by simp
      obtain ⟨k1, f1, lt1⟩ := L1.use
      have HLR := Lib.hid LR
      have HL0 := Lib.hid L0
      have HL1 := Lib.hid L1
      have HB2 := Lib.hid hB
      clear LR L0 L1 hB hmk
      go_wp2_with fail
      refine bodyPost_ret (v := .agg #[.int .u8 3, .slice (some ⟨w1.heap.size, 0, none⟩) (j * 4) (j * 4)]) (by simp [results, Tryz.results159, go_sem, k1]) rfl ⟨_, _, rfl, ?_, ?_⟩
      · refine Filled.rd (cs := cs) Hfl.out HF.out ?_ (hS _ (by omega)) (by omega)
        repeat (with_reducible first | refine Lb.far ?_ (by simp <;> omega) _ | exact HLR.out)
      · repeat (with_reducible first | refine Below.setCell ?_ (by simp) _ | exact HB.out.trans (HB2.out.mono (by omega)))
set_option maxRecDepth 100000 in
theorem c159_same (t : Int) (a : Option Addr) (n c : Nat) (w : World) :
    Calls Tryz.prog 159 #[.agg #[.int .u8 t, .slice a n c], .int .u8 t] w fun e w' => e = .returned (.agg #[.int .u8 t, .slice a n c]) ∧ Below w.heap.size w w' := by
  go_enter Tryz.func159, Tryz.ntmps159
  go_wp2_with fail
  refine bodyPost_ret (v := .agg #[.int .u8 t, .slice a n c]) (by simp [results, Tryz.results159, go_sem]) rfl ⟨rfl, ?_⟩
  repeat (with_reducible first | refine Below.setCell ?_ (by simp) _ | exact bl_a2 w _ _)
set_option maxRecDepth 100000 in
theorem c159_none (t t' : Int) (a : Option Addr) (c : Nat) (w : World) (hne : t ≠ t') :
    Calls Tryz.prog 159 #[.agg #[.int .u8 t, .slice a 0 c], .int .u8 t'] w fun e w' => e = .returned (.agg #[.int .u8 t', .slice none 0 0]) ∧ Below w.heap.size w w' := by
  have hteq : (t == t') = false := by simpa using hne
  go_enter Tryz.func159, Tryz.ntmps159
  go_wp2_with fail
  refine bodyPost_ret (v := .agg #[.int .u8 t', .slice none 0 0]) (by simp [results, Tryz.results159, go_sem]) rfl ⟨rfl, ?_⟩
  repeat (with_reducible first | refine Below.setCell ?_ (by simp) _ | exact bl_a2 w _ _)
/-- A line whose numbers are whole places, not too many. -/
def Ln.ok (l : Ln) : Prop := 0 ≤ l.t ∧ l.t ≤ 3 ∧ l.xs.length % dN l.t = 0 ∧ l.xs.length / dN l.t ≤ 1000000
theorem c159 (S : Nat → Prop) (l : Ln) (t' : Int) (a : Option Addr) (c : Nat) (w : World) (hok : l.ok) (g0 : 0 ≤ t') (g1 : t' ≤ 3) (hS : ∀ b, w.heap.size ≤ b → S b) (h : Rd S w (fl l.xs) (.slice a l.xs.length c)) :
    Calls Tryz.prog 159 #[.agg #[.int .u8 l.t, .slice a l.xs.length c], .int .u8 t'] w fun e w' => ∃ a' c', e = .returned (.agg #[.int .u8 t', .slice a' (l.force t').xs.length c']) ∧ Rd S w' (fl (l.force t').xs) (.slice a' (l.force t').xs.length c') ∧ Below w.heap.size w w' := by
  obtain ⟨h0, h1, hm, hn⟩ := hok
  by_cases hne : l.t = t'
  · have e : (l.force t').xs = l.xs := by simp [Ln.force, forceX, hne]
    rw [e]
    subst hne
    exact (c159_same _ _ _ _ w).mono fun e w' ⟨he, hb⟩ => ⟨_, _, he, h.blw hb, hb⟩
  · rcases Nat.eq_zero_or_pos l.xs.length with hz | hpos
    · have e : (l.force t').xs = [] := by simp [Ln.force, forceX, hne, hz]
      rw [e, hz]
      exact (c159_none _ _ _ _ w hne).mono fun e w' ⟨he, hb⟩ => ⟨none, 0, he, Rd.nil _ _, hb⟩
    · rcases four t' g0 g1 with rfl | rfl | rfl | rfl
      · exact c159_0 S l.t l.xs a c w h0 h1 hS h hne hpos hm hn
      · exact c159_1 S l.t l.xs a c w h0 h1 hS h hne hpos hm hn
      · exact c159_2 S l.t l.xs a c w h0 h1 hS h hne hpos hm hn
      · exact c159_3 S l.t l.xs a c w h0 h1 hS h hne hpos hm hn
theorem c115 (S : Nat → Prop) (l : Ln) (t' : Int) (a : Option Addr) (c : Nat) (w : World) (hok : l.ok) (g0 : 0 ≤ t') (g1 : t' ≤ 3) (hS : ∀ b, w.heap.size ≤ b → S b) (h : Rd S w (fl l.xs) (.slice a l.xs.length c)) :
    Calls Tryz.prog 115 #[.agg #[.int .u8 l.t, .slice a l.xs.length c], .int .u8 t'] w fun e w' => ∃ a' c', e = .returned (.agg #[.int .u8 t', .slice a' (l.force t').xs.length c']) ∧ Rd S w' (fl (l.force t').xs) (.slice a' (l.force t').xs.length c') ∧ Below w.heap.size w w' := by
  have H := Lib.hid fun (S : Nat → Prop) (w : World) => c159 S l t' a c w hok g0 g1
  go_enter Tryz.func115, Tryz.ntmps115
  go_wp2_with fail
  refine (H.out (Ex S (w.heap.size + 1)) _ (Ex.up hS (by simp <;> omega) (by simp <;> omega)) (((h.ex (by simp)).alloc _).alloc _)).mono ?_
  rintro e w1 ⟨a', c', rfl, hr, hb1⟩
  have L1 := (Lb.new2 w _ _ _).blw hb1
  have HB := Lib.hid ((bl_a2 w _ _).trans (hb1.mono (by simp <;> omega)))
  obtain ⟨k1, f1, lt1⟩ := L1.use
  have hz : Rd (Ex S (w.heap.size + 1)) w1 (fl (l.force t').xs) (.slice a' (l.force t').xs.length c') := hr
  clear hb1 L1 H h
  go_wp2_with fail
  refine bodyPost_ret (v := .agg #[.int .u8 t', .slice a' (l.force t').xs.length c']) (by simp [results, Tryz.results115, go_sem, k1]) rfl ⟨_, _, rfl, ?_, ?_⟩
  · refine Rd.unex (L := w.heap.size + 1) ?_
    repeat (with_reducible first | refine Rd.set ?_ _ _ | exact hz)
  · repeat (with_reducible first | refine Below.setCell ?_ (by simp) _ | exact HB.out)
end Go.Proofs.YtahnhhkbdgaidaaGreatDoor
