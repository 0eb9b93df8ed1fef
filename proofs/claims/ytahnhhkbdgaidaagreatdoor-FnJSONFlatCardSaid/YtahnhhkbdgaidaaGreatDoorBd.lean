/-
  The questions that the statements ask of geometries: how great they are, whether all numbers are finite, whether lists are short.
-/
import Derived.Test.YtahnhhkbdgaidaaGreatDoorBb
namespace Go.Proofs.YtahnhhkbdgaidaaGreatDoor
open Go.RowKit

inductive G where
  | mk (kind dim : Int) (nums : List Nat) (kids : List G)
def G.kind : G → Int | .mk k _ _ _ => k
def G.dim : G → Int | .mk _ d _ _ => d
def G.nums : G → List Nat | .mk _ _ n _ => n
def G.kids : G → List G | .mk _ _ _ l => l

/-- A list of numbers. -/
def fl (xs : List Nat) : F := .list (xs.map fun x => [.atom (.float .f64 x)])
mutual
def G.fs : G → List F
  | .mk k d ns ks => [.atom (.int .i64 k), .atom (.int .i64 d), fl ns, .list (G.fsL ks)]
def G.fsL : List G → List (List F)
  | [] => []
  | g :: r => g.fs :: G.fsL r
end
mutual
def G.size : G → Nat
  | .mk _ _ _ ks => G.sizeL ks + 1
def G.sizeL : List G → Nat
  | [] => 0
  | g :: r => g.size + G.sizeL r
end
theorem G.fsL_map : ∀ l : List G, G.fsL l = l.map G.fs
  | [] => by simp [G.fsL]
  | g :: r => by simp [G.fsL, G.fsL_map r]
theorem G.fsL_length (l : List G) : (G.fsL l).length = l.length := by rw [G.fsL_map, List.length_map]
theorem G.fs_eq (g : G) : g.fs = [.atom (.int .i64 g.kind), .atom (.int .i64 g.dim), fl g.nums, .list (G.fsL g.kids)] := by
  cases g; simp [G.fs, G.kind, G.dim, G.nums, G.kids]
theorem G.size_kid : ∀ (l : List G) (i : Nat) (h : i < l.length), (l[i]).size ≤ G.sizeL l
  | [], _, h => absurd h (by simp)
  | g :: r, 0, _ => by simp [G.sizeL]
  | g :: r, i + 1, h => by
    have := G.size_kid r i (by simpa using h)
    simp only [List.getElem_cons_succ, G.sizeL]
    omega
theorem G.size_eq (g : G) : g.size = G.sizeL g.kids + 1 := by cases g; simp [G.size, G.kids]

theorem fl_inv {S : Nat → Prop} {w : World} {xs : List Nat} {v : Value} (h : Rd S w (fl xs) v) : ∃ a c, v = .slice a xs.length c ∧ xs.length ≤ 17592186044416 ∧
    ∀ i (hi : i < xs.length), ∃ b off, a = some ⟨b, off, none⟩ ∧ S b ∧ b < w.heap.size ∧ w.cell? ⟨b, off + i, none⟩ = some (.float .f64 (xs[i])) := by
  obtain ⟨a, c, rfl, hm, hi⟩ := h.list_inv
  simp only [List.length_map] at *
  refine ⟨a, c, rfl, hm, fun i hlt => ?_⟩
  obtain ⟨b, off, sz, cell, rfl, hsz, hS, hb, hlen, hc, hr⟩ := hi i hlt
  have h1 := hlen i hlt
  simp only [List.getElem_map, List.length_cons, List.length_nil] at h1
  subst h1
  have h2 := hc i 0 hlt (by omega)
  have h3 := (hr i hlt 0 (by simp)) 
  simp only [List.getElem_map, List.getElem_cons_zero] at h3
  rw [h3.atom_inv] at h2
  exact ⟨b, off, rfl, hS, hb, by simpa using h2⟩

theorem kids_inv {S : Nat → Prop} {w : World} {ks : List G} {v : Value} (h : Rd S w (.list (G.fsL ks)) v) : ∃ a c, v = .slice a ks.length c ∧ ks.length ≤ 17592186044416 ∧
    ∀ i (hi : i < ks.length), ∃ b off vn vk, a = some ⟨b, off, none⟩ ∧ S b ∧ b < w.heap.size ∧ w.cell? ⟨b, off + i * 4, none⟩ = some (.int .i64 (ks[i]).kind) ∧
      w.cell? ⟨b, off + i * 4 + 1, none⟩ = some (.int .i64 (ks[i]).dim) ∧ w.cell? ⟨b, off + i * 4 + 2, none⟩ = some vn ∧ w.cell? ⟨b, off + i * 4 + 3, none⟩ = some vk ∧
      Rd S w (fl (ks[i]).nums) vn ∧ Rd S w (.list (G.fsL (ks[i]).kids)) vk := by
  obtain ⟨a, c, rfl, hm, hi⟩ := h.list_inv
  rw [G.fsL_length] at hm
  refine ⟨a, c, by rw [G.fsL_length], hm, fun i hlt => ?_⟩
  have hlt' : i < (G.fsL ks).length := by rw [G.fsL_length]; exact hlt
  obtain ⟨b, off, sz, cell, rfl, hsz, hS, hb, hlen, hc, hr⟩ := hi i hlt'
  have e : (G.fsL ks)[i] = [.atom (.int .i64 (ks[i]).kind), .atom (.int .i64 (ks[i]).dim), fl (ks[i]).nums, .list (G.fsL (ks[i]).kids)] := by
    rw [← G.fs_eq]; simp [G.fsL_map]
  have h1 := hlen i hlt'
  rw [e] at h1
  simp only [List.length_cons, List.length_nil] at h1
  subst h1
  have r0 := hr i hlt' 0 (by rw [e]; simp)
  have r1 := hr i hlt' 1 (by rw [e]; simp)
  have r2 := hr i hlt' 2 (by rw [e]; simp)
  have r3 := hr i hlt' 3 (by rw [e]; simp)
  simp only [e, List.getElem_cons_zero, List.getElem_cons_succ] at r0 r1 r2 r3
  have h0 := hc i 0 hlt' (by omega)
  have h1 := hc i 1 hlt' (by omega)
  rw [r0.atom_inv] at h0
  rw [r1.atom_inv] at h1
  exact ⟨b, off, cell i 2, cell i 3, rfl, hS, hb, by simpa using h0, h1, hc i 2 hlt' (by omega), hc i 3 hlt' (by omega), r2, r3⟩

theorem fl_shape {S : Nat → Prop} {w : World} {xs : List Nat} {v : Value} (h : Rd S w (fl xs) v) : ∃ a c, v = .slice a xs.length c :=
  let ⟨a, c, h, _⟩ := fl_inv h; ⟨a, c, h⟩
theorem kids_shape {S : Nat → Prop} {w : World} {ks : List G} {v : Value} (h : Rd S w (.list (G.fsL ks)) v) : ∃ a c, v = .slice a ks.length c :=
  let ⟨a, c, h, _⟩ := kids_inv h; ⟨a, c, h⟩

mutual
def gw : G → Int → Int
  | .mk _ _ ns ks, left => if left < 1 ∨ left < ns.length ∨ left < ks.length then -1 else gwL ks (left - 1 - ns.length)
def gwL : List G → Int → Int
  | [], left => left
  | g :: r, left => if left < 0 then left else gwL r (gw g left)
end
mutual
theorem gw_bd : ∀ (g : G) (left : Int), 0 ≤ left → -1 ≤ gw g left ∧ gw g left ≤ left
  | .mk _ _ ns ks, left, h => by
    unfold gw
    split
    · omega
    · have := gwL_bd ks (left - 1 - ns.length) (by omega); omega
theorem gwL_bd : ∀ (l : List G) (left : Int), -1 ≤ left → -1 ≤ gwL l left ∧ gwL l left ≤ left
  | [], left, h => by simp [gwL, h]
  | g :: r, left, h => by
    unfold gwL
    split
    · omega
    · have h1 := gw_bd g left (by omega)
      have h2 := gwL_bd r (gw g left) (by omega)
      omega
end
theorem gwL_step (l : List G) (i : Nat) (h : i < l.length) (left : Int) (h0 : 0 ≤ left) : gwL (l.drop i) left = gwL (l.drop (i + 1)) (gw (l[i]) left) := by
  rw [List.drop_eq_getElem_cons h, gwL, if_neg (by omega)]
theorem gwL_neg : ∀ (l : List G) (left : Int), left < 0 → gwL l left = left
  | [], _, _ => by simp [gwL]
  | _ :: _, _, h => by rw [gwL, if_pos h]
end Go.Proofs.YtahnhhkbdgaidaaGreatDoor
namespace Go.Proofs.YtahnhhkbdgaidaaGreatDoor
open Go.RowKit

theorem c22 (S : Nat → Prop) : ∀ (m : Nat) (g : G) (left : Int) (vn vk : Value) (w : World), g.size ≤ m → left ≤ 4611686018427387904 → -4611686018427387904 ≤ left →
    Rd S w (fl g.nums) vn → Rd S w (.list (G.fsL g.kids)) vk →
    Calls Tryz.prog 22 #[.agg #[.int .i64 g.kind, .int .i64 g.dim, vn, vk], .int .i64 left] w fun e w' => e = .returned (.int .i64 (gw g left)) ∧ Below w.heap.size w w' := by
  intro m
  induction m with
  | zero => intro g _ _ _ _ h; rw [G.size_eq] at h; omega
  | succ m ih =>
    intro g left vn vk w hm hl1 hl2 hn hk
    cases g with
    | mk k d ns ks =>
    simp only [G.kind, G.dim, G.nums, G.kids] at *
    obtain ⟨an, cn, rfl, hnm, _⟩ := fl_inv hn
    obtain ⟨ak, ck, rfl, hkm, hkid⟩ := kids_inv hk
    by_cases h1 : left < 1
    · go_enter Tryz.func22, Tryz.ntmps22
      go_wp2_with fail
      go_ret
      exact ⟨ret_int (by simp [gw, h1]), (Below.refl _ _).alloc (Nat.le_refl _) _⟩
    by_cases h2 : left < ns.length
    · have h1' : decide (left < 1) = false := by simpa using h1
      go_enter Tryz.func22, Tryz.ntmps22
      go_wp2_with fail
      go_ret
      exact ⟨ret_int (by simp [gw, h2]), (Below.refl _ _).alloc (Nat.le_refl _) _⟩
    by_cases h3 : left < ks.length
    · have h1' : decide (left < 1) = false := by simpa using h1
      have h2' : decide (left < (ns.length : Int)) = false := by simpa using h2
      go_enter Tryz.func22, Tryz.ntmps22
      go_wp2_with fail
      go_ret
      exact ⟨ret_int (by simp [gw, h3]), (Below.refl _ _).alloc (Nat.le_refl _) _⟩
    have hg : gw (.mk k d ns ks) left = gwL ks (left - 1 - ns.length) := by simp [gw, h1, h2, h3]
    have Hg := Lib.hid hg; clear hg
    have Hbd := Lib.hid (gwL_bd ks (left - 1 - ns.length) (by omega))
    have h1' : decide (left < 1) = false := by simpa using h1
    have h2' : decide (left < (ns.length : Int)) = false := by simpa using h2
    have h3' : decide (left < (ks.length : Int)) = false := by simpa using h3
    go_enter Tryz.func22, Tryz.ntmps22
    go_wp2_with fail
    go_loopw [1, 5] (fun l i wr => ∃ j : Nat, ∃ L : Int, j ≤ ks.length ∧ i = .int .i64 j ∧ l = .int .i64 L ∧ -1 ≤ L ∧ L ≤ left ∧ gwL (ks.drop j) L = gwL ks (left - 1 - ns.length) ∧ Below (w.heap.size + 1) (w.alloc (.cells #[.int .i64 k, .int .i64 d, .slice an ns.length cn, .slice ak ks.length ck] 25)) wr) (fun _ i _ => ks.length - (intOf i).toNat)
    case atStart => exact ⟨0, _, Nat.zero_le _, rfl, rfl, by omega, by omega, rfl, by simpa using Below.refl _ _⟩
    case round =>
      obtain ⟨j, L, hj, rfl, rfl, hL0, hL1, hE, hB⟩ := hrel
      have hE' := Lib.hid hE; clear hE
      have hc : ∀ b o, b < w.heap.size + 1 → wr.cell? ⟨b, o, none⟩ = (w.alloc (.cells #[.int .i64 k, .int .i64 d, .slice an ns.length cn, .slice ak ks.length ck] 25)).cell? ⟨b, o, none⟩ := fun b o h => hB.cell (p := ⟨b, o, none⟩) h
      have hsz : w.heap.size + 1 ≤ wr.heap.size := by simpa using hB.size
      by_cases hlt : j < ks.length
      · by_cases hL : 0 ≤ L
        · obtain ⟨b, off, vn, vk, rfl, _, hb, k0, k1, k2, k3, r2, r3⟩ := hkid j hlt
          have hsm : (ks[j]).size ≤ m := by have := G.size_kid ks j hlt; simp only [G.size] at hm; omega
          have hBw : Below w.heap.size w wr := ⟨hB.os, hB.tape, hB.output, by simpa using (Nat.le_trans (Nat.le_succ _) hsz), fun i hi => (hB.block i (by omega)).trans (Below.heap_alloc _ _ _ hi)⟩
          have q2 := r2.blw hBw
          have q3 := r3.blw hBw
          have hstep := Lib.hid (gwL_step ks j hlt L hL)
          have hbd2 := Lib.hid (gw_bd (ks[j]) L hL)
          have hdl : decide (L < 0) = false := by simpa using hL
          go_wp2_with fail
          refine (ih (ks[j]) L vn vk wr hsm (by omega) (by omega) q2 q3).mono ?_
          rintro e w1 ⟨rfl, hb1⟩
          go_wp2_with fail
          go_roundw
          case rel => exact ⟨j + 1, gw (ks[j]) L, by omega, by go_num, rfl, by have := hbd2.out; omega, by have := hbd2.out; omega, by rw [← hstep.out]; exact hE'.out, hB.trans (hb1.mono hsz)⟩
          case measure => simp [intOf]; omega
        · have hL' : L < 0 := by omega
          have hdl : decide (0 ≤ L) = false := by simpa using hL
          have hfin : gw (.mk k d ns ks) left = L := by rw [Hg.out, ← hE'.out, gwL_neg _ _ hL']
          have Hfin := Lib.hid hfin; clear hfin
          go_wp2_with fail
          go_ret
          exact ⟨ret_int Hfin.out.symm, ⟨hB.os, hB.tape, hB.output, by simpa using (Nat.le_trans (Nat.le_succ _) hsz), fun i hi => (hB.block i (by omega)).trans (Below.heap_alloc _ _ _ hi)⟩⟩
      · have hjj : j = ks.length := by omega
        have hfin : gw (.mk k d ns ks) left = L := by rw [Hg.out, ← hE'.out, hjj]; simp [gwL]
        have Hfin := Lib.hid hfin; clear hfin
        clear hjj
        have hdl : decide ((j : Int) < ks.length) = false := by simp; omega
        go_wp2_with fail
        go_ret
        exact ⟨ret_int Hfin.out.symm, ⟨hB.os, hB.tape, hB.output, by simpa using (Nat.le_trans (Nat.le_succ _) hsz), fun i hi => (hB.block i (by omega)).trans (Below.heap_alloc _ _ _ hi)⟩⟩
theorem c8 (S : Nat → Prop) (g : G) (vn vk : Value) (b : Nat) (w : World) (hb : b < w.heap.size)
    (k0 : w.cell? ⟨b, 0, none⟩ = some (.int .i64 g.kind)) (k1 : w.cell? ⟨b, 1, none⟩ = some (.int .i64 g.dim)) (k2 : w.cell? ⟨b, 2, none⟩ = some vn) (k3 : w.cell? ⟨b, 3, none⟩ = some vk)
    (hn : Rd S w (fl g.nums) vn) (hk : Rd S w (.list (G.fsL g.kids)) vk) :
    Calls Tryz.prog 8 #[.slice (some ⟨b, 0, none⟩) 1 1] w fun e w' => e = .returned (.bool (decide (0 ≤ gw g 2000))) ∧ Below w.heap.size w w' := by
  go_enter Tryz.func8, Tryz.ntmps8
  go_wp2_with fail
  go_loopw [3, 4] (fun l i wr => ((i = .int .i64 0 ∧ l = .int .i64 2000) ∨ (i = .int .i64 1 ∧ l = .int .i64 (gw g 2000))) ∧ Below w.heap.size w wr) (fun _ i _ => 1 - (intOf i).toNat)
  case atStart => exact ⟨.inl ⟨rfl, rfl⟩, Below.refl _ _⟩
  case round =>
    obtain ⟨⟨rfl, rfl⟩ | ⟨rfl, rfl⟩, hB⟩ := hrel
    · have hc := (bl_cells hB).1
      have q2 := hn.blw hB
      have q3 := hk.blw hB
      go_wp2_with fail
      refine (c22 S g.size g 2000 vn vk wr (Nat.le_refl _) (by omega) (by omega) q2 q3).mono ?_
      rintro e w1 ⟨rfl, hb1⟩
      go_wp2_with fail
      go_roundw
      case rel => exact ⟨.inr ⟨rfl, rfl⟩, hB.trans (hb1.mono hB.size)⟩
      case measure => simp [intOf]
    · go_wp2_with fail
      go_ret
      exact ⟨ret_bool rfl, hB⟩

theorem c7 (k d : Int) (an ak : Option Addr) (ln lk cn ck : Nat) (w : World) :
    Calls Tryz.prog 7 #[.agg #[.int .i64 k, .int .i64 d, .slice an ln cn, .slice ak lk ck]] w fun e w' => e = .returned (.bool (decide (ln ≤ 2147483647 ∧ lk ≤ 2147483647))) ∧ Below w.heap.size w w' := by
  by_cases h1 : ln ≤ 2147483647
  · by_cases h2 : lk ≤ 2147483647
    · go_enter Tryz.func7, Tryz.ntmps7
      go_wp2_with fail
      go_ret
      exact ⟨ret_bool (by simp [h1, h2]), (Below.refl _ _).alloc (Nat.le_refl _) _⟩
    · go_enter Tryz.func7, Tryz.ntmps7
      go_wp2_with fail
      go_ret
      exact ⟨ret_bool (by simp [h2]), (Below.refl _ _).alloc (Nat.le_refl _) _⟩
  · go_enter Tryz.func7, Tryz.ntmps7
    go_wp2_with fail
    go_ret
    exact ⟨ret_bool (by simp [h1]), (Below.refl _ _).alloc (Nat.le_refl _) _⟩

theorem c9 (S : Nat → Prop) : ∀ (m : Nat) (g : G) (vn vk : Value) (w : World), g.size ≤ m →
    Rd S w (fl g.nums) vn → Rd S w (.list (G.fsL g.kids)) vk →
    Calls Tryz.prog 9 #[.agg #[.int .i64 g.kind, .int .i64 g.dim, vn, vk], .func (.func 10) #[] #[]] w fun e w' => ∃ b, e = .returned (.bool b) ∧ Below w.heap.size w w' := by
  intro m
  induction m with
  | zero => intro g _ _ _ h; rw [G.size_eq] at h; omega
  | succ m ih =>
    intro g vn vk w hm hn hk
    cases g with
    | mk k d ns ks =>
    simp only [G.kind, G.dim, G.nums, G.kids] at *
    obtain ⟨an, cn, rfl, hnm, hnum⟩ := fl_inv hn
    obtain ⟨ak, ck, rfl, hkm, hkid⟩ := kids_inv hk
    go_enter Tryz.func9, Tryz.ntmps9
    go_wp2_with fail
    go_loopw [12] (fun i wr => ∃ j : Nat, j ≤ ns.length ∧ i = .int .i64 j ∧ Below (w.heap.size + 1) (w.alloc (.cells #[.int .i64 k, .int .i64 d, .slice an ns.length cn, .slice ak ks.length ck] 25)) wr) (fun i _ => ns.length - (intOf i).toNat)
    case atStart => exact ⟨0, Nat.zero_le _, rfl, by simpa using Below.refl _ _⟩
    case round =>
      obtain ⟨j, hj, rfl, hB⟩ := hrel
      have hBw : Below w.heap.size w wr := bl_box1 hB
      have hB1 := (bl_cells hB).1
      by_cases hlt : j < ns.length
      · obtain ⟨b, off, rfl, _, hb, k0⟩ := hnum j hlt
        go_wp2_with (go_at_call 10; refine (c10 _ _).mono ?_; rintro e w' ⟨b, rfl, rfl⟩; cases b)
        · go_ret
          exact ⟨_, rfl, hBw⟩
        · go_roundw
          case rel => exact ⟨j + 1, by omega, by go_num, hB⟩
          case measure => simp [intOf]; omega
      · have hdl : decide ((j : Int) < ns.length) = false := by simp; omega
        go_wp2_with fail
        go_loopw [24] (fun i wr => ∃ j : Nat, j ≤ ks.length ∧ i = .int .i64 j ∧ Below (w.heap.size + 1) (w.alloc (.cells #[.int .i64 k, .int .i64 d, .slice an ns.length cn, .slice ak ks.length ck] 25)) wr) (fun i _ => ks.length - (intOf i).toNat)
        case atStart => exact ⟨0, Nat.zero_le _, rfl, hB⟩
        case round =>
          clear hB hBw hB1
          obtain ⟨i, hi, rfl, hB⟩ := hrel
          by_cases hlt : i < ks.length
          · obtain ⟨b, off, vn, vk, rfl, _, hb, k0, k1, k2, k3, r2, r3⟩ := hkid i hlt
            have hsm : (ks[i]).size ≤ m := by have := G.size_kid ks i hlt; simp only [G.size] at hm; omega
            have hBw : Below w.heap.size w wr := (bl_box1 hB)
            have hc := (bl_cells hBw).1
            have q2 := r2.blw hBw
            have q3 := r3.blw hBw
            obtain ⟨an', cn', rfl⟩ := fl_shape r2
            obtain ⟨ak', ck', rfl⟩ := kids_shape r3
            go_wp2_with fail
            refine (ih (ks[i]) _ _ _ hsm (q2.alloc _) (q3.alloc _)).mono ?_
            rintro e w1 ⟨b, rfl, hb1⟩
            cases b
            · go_wp2_with fail
              go_ret
              exact ⟨_, rfl, hBw.trans (((Below.refl _ _).alloc hBw.size _).trans (hb1.mono (by have := hBw.size; simp; omega)))⟩
            · go_wp2_with fail
              go_roundw
              case rel => exact ⟨i + 1, by omega, by go_num, hB.trans (((Below.refl _ _).alloc (by simpa using hB.size) _).trans (hb1.mono (by have := hB.size; simp at this ⊢; omega)))⟩
              case measure => simp [intOf]; omega
          · have hdl : decide ((i : Int) < ks.length) = false := by simp; omega
            go_wp2_with fail
            go_ret
            exact ⟨_, rfl, (bl_box1 hB)⟩
end Go.Proofs.YtahnhhkbdgaidaaGreatDoor
