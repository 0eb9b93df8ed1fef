/-
  The questions that the statements ask of geometries: how great they are, whether all numbers are finite, whether lists are short.
-/
import Derived.Test.YtahnhhkbdgaidaaGreatDoorBc
namespace Go.Proofs.YtahnhhkbdgaidaaGreatDoor
open Go.RowKit

theorem c22 (S : Nat → Prop) : ∀ (m : Nat) (g : G) (left : Int) (vn vk : Value) (w : World), g.size ≤ m → left ≤ 4611686018427387904 → -4611686018427387904 ≤ left →
    Rd S w (fl g.nums) vn → Rd S w (.list (G.fsL g.kids)) vk →
    Calls Tryz.prog 22 #[.agg #[.int .i64 g.kind, .int .i64 g.dim, vn, vk], .int .i64 left] w fun e w' => e = .returned (.int .i64 (gw g left)) ∧ Below w.heap.size w w' := by
  intro m
  induction m with
  | zero => intro g _ _ _ _ h; rw [G.size_eq] at h; omega
  | succ m ih =>
    intro g left vn vk w hm hl1 hl2 hn hk
    cases g with
    | mk k d ns ks =>
    simp only [G.kind, G.dim, G.nums, G.kids] at *
    obtain ⟨an, cn, rfl, hnm, _⟩ := fl_inv hn
    obtain ⟨ak, ck, rfl, hkm, hkid⟩ := kids_inv hk
    by_cases h1 : left < 1
    · go_enter Tryz.func22, Tryz.ntmps22
      go_wp2_with fail
      go_ret
      exact ⟨ret_int (by simp [gw, h1]), (Below.refl _ _).alloc (Nat.le_refl _) _⟩
    by_cases h2 : left < ns.length
    · have h1' : decide (left < 1) = false := by simpa using h1
      go_enter Tryz.func22, Tryz.ntmps22
      go_wp2_with fail
      go_ret
      exact ⟨ret_int (by simp [gw, h2]), (Below.refl _ _).alloc (Nat.le_refl _) _⟩
    by_cases h3 : left < ks.length
    · have h1' : decide (left < 1) = false := by simpa using h1
      have h2' : decide (left < (ns.length : Int)) = false := by simpa using h2
      go_enter Tryz.func22, Tryz.ntmps22
      go_wp2_with fail
      go_ret
      exact ⟨ret_int (by simp [gw, h3]), (Below.refl _ _).alloc (Nat.le_refl _) _⟩
    have hg : gw (.mk k d ns ks) left = gwL ks (left - 1 - ns.length) := by simp [gw, h1, h2, h3]
    have Hg := Lib.hid hg; clear hg
    have Hbd := Lib.hid (gwL_bd ks (left - 1 - ns.length) (by omega))
    have h1' : decide (left < 1) = false := by simpa using h1
    have h2' : decide (left < (ns.length : Int)) = false := by simpa using h2
    have h3' : decide (left < (ks.length : Int)) = false := by simpa using h3
    go_enter Tryz.func22, Tryz.ntmps22
    go_wp2_with fail
    go_loopw [1, 5] (fun l i wr => ∃ j : Nat, ∃ L : Int, j ≤ ks.length ∧ i = .int .i64 j ∧ l = .int .i64 L ∧ -1 ≤ L ∧ L ≤ left ∧ gwL (ks.drop j) L = gwL ks (left - 1 - ns.length) ∧ Below (w.heap.size + 1) (w.alloc (.cells #[.int .i64 k, .int .i64 d, .slice an ns.length cn, .slice ak ks.length ck] 25)) wr) (fun _ i _ => ks.length - (intOf i).toNat)
    case atStart => exact ⟨0, _, Nat.zero_le _, rfl, rfl, by omega, by omega, rfl, by simpa using Below.refl _ _⟩
    case round =>
      obtain ⟨j, L, hj, rfl, rfl, hL0, hL1, hE, hB⟩ := hrel
      have hE' := Lib.hid hE; clear hE
      have hc : ∀ b o, b < w.heap.size + 1 → wr.cell? ⟨b, o, none⟩ = (w.alloc (.cells #[.int .i64 k, .int .i64 d, .slice an ns.length cn, .slice ak ks.length ck] 25)).cell? ⟨b, o, none⟩ := fun b o h => hB.cell (p := ⟨b, o, none⟩) h
      have hsz : w.heap.size + 1 ≤ wr.heap.size := by simpa using hB.size
      by_cases hlt : j < ks.length
      · by_cases hL : 0 ≤ L
        · obtain ⟨b, off, vn, vk, rfl, _, hb, k0, k1, k2, k3, r2, r3⟩ := hkid j hlt
          have hsm : (ks[j]).size ≤ m := by have := G.size_kid ks j hlt; simp only [G.size] at hm; omega
          have hBw : Below w.heap.size w wr := ⟨hB.os, hB.tape, hB.output, by simpa using (Nat.le_trans (Nat.le_succ _) hsz), fun i hi => (hB.block i (by omega)).trans (Below.heap_alloc _ _ _ hi)⟩
          have q2 := r2.blw hBw
          have q3 := r3.blw hBw
          have hstep := Lib.hid (gwL_step ks j hlt L hL)
          have hbd2 := Lib.hid (gw_bd (ks[j]) L hL)
          have hdl : decide (L < 0) = false := by simpa using hL
          go_wp2_with fail
          refine (ih (ks[j]) L vn vk wr hsm (by omega) (by omega) q2 q3).mono ?_
          rintro e w1 ⟨rfl, hb1⟩
          go_wp2_with fail
          go_roundw
          case rel => exact ⟨j + 1, gw (ks[j]) L, by omega, by go_num, rfl, by have := hbd2.out; omega, by have := hbd2.out; omega, by rw [← hstep.out]; exact hE'.out, hB.trans (hb1.mono hsz)⟩
          case measure => simp [intOf]; omega
        · have hL' : L < 0 := by omega
          have hdl : decide (0 ≤ L) = false := by simpa using hL
          have hfin : gw (.mk k d ns ks) left = L := by rw [Hg.out, ← hE'.out, gwL_neg _ _ hL']
          have Hfin := Lib.hid hfin; clear hfin
          go_wp2_with fail
          go_ret
          exact ⟨ret_int Hfin.out.symm, ⟨hB.os, hB.tape, hB.output, by simpa using (Nat.le_trans (Nat.le_succ _) hsz), fun i hi => (hB.block i (by omega)).trans (Below.heap_alloc _ _ _ hi)⟩⟩
      · have hjj : j = ks.length := by omega
        have hfin : gw (.mk k d ns ks) left = L := by rw [Hg.out, ← hE'.out, hjj]; simp [gwL]
        have Hfin := Lib.hid hfin; clear hfin
        clear hjj
        have hdl : decide ((j : Int) < ks.length) = false := by simp; omega
        go_wp2_with fail
        go_ret
        exact ⟨ret_int Hfin.out.symm, ⟨hB.os, hB.tape, hB.output, by simpa using (Nat.le_trans (Nat.le_succ _) hsz), fun i hi => (hB.block i (by omega)).trans (Below.heap_alloc _ _ _ hi)⟩⟩
theorem c8 (S : Nat → Prop) (g : G) (vn vk : Value) (b : Nat) (w : World) (hb : b < w.heap.size)
    (k0 : w.cell? ⟨b, 0, none⟩ = some (.int .i64 g.kind)) (k1 : w.cell? ⟨b, 1, none⟩ = some (.int .i64 g.dim)) (k2 : w.cell? ⟨b, 2, none⟩ = some vn) (k3 : w.cell? ⟨b, 3, none⟩ = some vk)
    (hn : Rd S w (fl g.nums) vn) (hk : Rd S w (.list (G.fsL g.kids)) vk) :
    Calls Tryz.prog 8 #[.slice (some ⟨b, 0, none⟩) 1 1] w fun e w' => e = .returned (.bool (decide (0 ≤ gw g 2000))) ∧ Below w.heap.size w w' := by
  go_enter Tryz.func8, Tryz.ntmps8
  go_wp2_with fail
  go_loopw [3, 4] (fun l i wr => ((i = .int .i64 0 ∧ l = .int .i64 2000) ∨ (i = .int .i64 1 ∧ l = .int .i64 (gw g 2000))) ∧ Below w.heap.size w wr) (fun _ i _ => 1 - (intOf i).toNat)
  case atStart => exact ⟨.inl ⟨rfl, rfl⟩, Below.refl _ _⟩
  case round =>
    obtain ⟨⟨rfl, rfl⟩ | ⟨rfl, rfl⟩, hB⟩ := hrel
    · have hc := (bl_cells hB).1
      have q2 := hn.blw hB
      have q3 := hk.blw hB
      go_wp2_with fail
      refine (c22 S g.size g 2000 vn vk wr (Nat.le_refl _) (by omega) (by omega) q2 q3).mono ?_
      rintro e w1 ⟨rfl, hb1⟩
      go_wp2_with fail
      go_roundw
      case rel => exact ⟨.inr ⟨rfl, rfl⟩, hB.trans (hb1.mono hB.size)⟩
      case measure => simp [intOf]
    · go_wp2_with fail
      go_ret
      exact ⟨ret_bool rfl, hB⟩

theorem c7 (k d : Int) (an ak : Option Addr) (ln lk cn ck : Nat) (w : World) :
    Calls Tryz.prog 7 #[.agg #[.int .i64 k, .int .i64 d, .slice an ln cn, .slice ak lk ck]] w fun e w' => e = .returned (.bool (decide (ln ≤ 2147483647 ∧ lk ≤ 2147483647))) ∧ Below w.heap.size w w' := by
  by_cases h1 : ln ≤ 2147483647
  · by_cases h2 : lk ≤ 2147483647
    · go_enter Tryz.func7, Tryz.ntmps7
      go_wp2_with fail
      go_ret
      exact ⟨ret_bool (by simp [h1, h2]), (Below.refl _ _).alloc (Nat.le_refl _) _⟩
    · go_enter Tryz.func7, Tryz.ntmps7
      go_wp2_with fail
      go_ret
      exact ⟨ret_bool (by simp [h2]), (Below.refl _ _).alloc (Nat.le_refl _) _⟩
  · go_enter Tryz.func7, Tryz.ntmps7
    go_wp2_with fail
    go_ret
    exact ⟨ret_bool (by simp [h1]), (Below.refl _ _).alloc (Nat.le_refl _) _⟩

theorem c9 (S : Nat → Prop) : ∀ (m : Nat) (g : G) (vn vk : Value) (w : World), g.size ≤ m →
    Rd S w (fl g.nums) vn → Rd S w (.list (G.fsL g.kids)) vk →
    Calls Tryz.prog 9 #[.agg #[.int .i64 g.kind, .int .i64 g.dim, vn, vk], .func (.func 10) #[] #[]] w fun e w' => ∃ b, e = .returned (.bool b) ∧ Below w.heap.size w w' := by
  intro m
  induction m with
  | zero => intro g _ _ _ h; rw [G.size_eq] at h; omega
  | succ m ih =>
    intro g vn vk w hm hn hk
    cases g with
    | mk k d ns ks =>
    simp only [G.kind, G.dim, G.nums, G.kids] at *
    obtain ⟨an, cn, rfl, hnm, hnum⟩ := fl_inv hn
    obtain ⟨ak, ck, rfl, hkm, hkid⟩ := kids_inv hk
    go_enter Tryz.func9, Tryz.ntmps9
    go_wp2_with fail
    go_loopw [12] (fun i wr => ∃ j : Nat, j ≤ ns.length ∧ i = .int .i64 j ∧ Below (w.heap.size + 1) (w.alloc (.cells #[.int .i64 k, .int .i64 d, .slice an ns.length cn, .slice ak ks.length ck] 25)) wr) (fun i _ => ns.length - (intOf i).toNat)
    case atStart => exact ⟨0, Nat.zero_le _, rfl, by simpa using Below.refl _ _⟩
    case round =>
      obtain ⟨j, hj, rfl, hB⟩ := hrel
      have hBw : Below w.heap.size w wr := bl_box1 hB
      have hB1 := (bl_cells hB).1
      by_cases hlt : j < ns.length
      · obtain ⟨b, off, rfl, _, hb, k0⟩ := hnum j hlt
        go_wp2_with (go_at_call 10; refine (c10 _ _).mono ?_; rintro e w' ⟨b, rfl, rfl⟩; cases b)
        · go_ret
          exact ⟨_, rfl, hBw⟩
        · go_roundw
          case rel => exact ⟨j + 1, by omega, by go_num, hB⟩
          case measure => simp [intOf]; omega
      · have hdl : decide ((j : Int) < ns.length) = false := by simp; omega
        go_wp2_with fail
        go_loopw [24] (fun i wr => ∃ j : Nat, j ≤ ks.length ∧ i = .int .i64 j ∧ Below (w.heap.size + 1) (w.alloc (.cells #[.int .i64 k, .int .i64 d, .slice an ns.length cn, .slice ak ks.length ck] 25)) wr) (fun i _ => ks.length - (intOf i).toNat)
        case atStart => exact ⟨0, Nat.zero_le _, rfl, hB⟩
        case round =>
          clear hB hBw hB1
          obtain ⟨i, hi, rfl, hB⟩ := hrel
          by_cases hlt : i < ks.length
          · obtain ⟨b, off, vn, vk, rfl, _, hb, k0, k1, k2, k3, r2, r3⟩ := hkid i hlt
            have hsm : (ks[i]).size ≤ m := by have := G.size_kid ks i hlt; simp only [G.size] at hm; omega
            have hBw : Below w.heap.size w wr := (bl_box1 hB)
            have hc := (bl_cells hBw).1
            have q2 := r2.blw hBw
            have q3 := r3.blw hBw
            obtain ⟨an', cn', rfl⟩ := fl_shape r2
            obtain ⟨ak', ck', rfl⟩ := kids_shape r3
            go_wp2_with fail
            refine (ih (ks[i]) _ _ _ hsm (q2.alloc _) (q3.alloc _)).mono ?_
            rintro e w1 ⟨b, rfl, hb1⟩
            cases b
            · go_wp2_with fail
              go_ret
              exact ⟨_, rfl, hBw.trans (((Below.refl _ _).alloc hBw.size _).trans (hb1.mono (by have := hBw.size; simp; omega)))⟩
            · go_wp2_with fail
              go_roundw
              case rel => exact ⟨i + 1, by omega, by go_num, hB.trans (((Below.refl _ _).alloc (by simpa using hB.size) _).trans (hb1.mono (by have := hB.size; simp at this ⊢; omega)))⟩
              case measure => simp [intOf]; omega
          · have hdl : decide ((i : Int) < ks.length) = false := by simp; omega
            go_wp2_with fail
            go_ret
            exact ⟨_, rfl, (bl_box1 hB)⟩
end Go.Proofs.YtahnhhkbdgaidaaGreatDoor
