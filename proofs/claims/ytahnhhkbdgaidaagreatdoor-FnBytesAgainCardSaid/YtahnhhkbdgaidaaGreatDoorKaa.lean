/-
  The library's own contracts of encoding/binary at this program: numbers of four and of eight bytes.
  The small functions: types of coordinates, names, questions about numbers.
  The questions that the statements ask of geometries: how great they are, whether all numbers are finite, whether lists are short.
-/
import Derived.Test.YtahnhhkbdgaidaaGreatDoorProg
import Derived.Shelf.Bin.LEPutUint32
import Derived.Shelf.Bin.LEPutUint64
import Derived.Shelf.Bin.LEUint32
import Derived.Shelf.Bin.LEUint64
import Derived.Shelf.Bin.BEUint32
import Derived.Shelf.Bin.BEUint64
import Derived.WalkKit
import Derived.Maps.AppendAt
import Derived.Deep.Draws
import Derived.Lib.Hide
import Derived.WalkLawsBesides
import Derived.WalkSpells
import Derived.Deep.QuietTactic
import Derived.BigQuiet
import Derived.KernelRfl
namespace Go.Proofs.YtahnhhkbdgaidaaGreatDoor
open Go.RowKit Go.Shelf
set_option maxRecDepth 100000
def bin30_ren : Go.Shelf.Ren := ⟨fun | 30 => 231 | n => n, fun | 0 => 0 | 5 => 5 | 22 => 32 | 25 => 270 | 29 => 204 | 45 => 119 | n => n, fun | n => n⟩
theorem bin30 : LaysBin.n30 Tryz.prog bin30_ren where
  mixed := by kernel_rfl
  f30 := Tryz.func231.trans (congrArg some (by kernel_rfl))
  t0 := Tryz.underlying0
  a0 := Tryz.isAgg0
  z0 := Tryz.sizeOf0
  v0 := Tryz.zeroValue0
  i0 := by kernel_rfl
  t5 := Tryz.underlying5
  a5 := Tryz.isAgg5
  z5 := Tryz.sizeOf5
  v5 := Tryz.zeroValue5
  i5 := by kernel_rfl
  t22 := Tryz.underlying32
  a22 := Tryz.isAgg32
  z22 := Tryz.sizeOf32
  v22 := Tryz.zeroValue32
  i22 := by kernel_rfl
  t25 := Tryz.underlying270
  a25 := Tryz.isAgg270
  z25 := Tryz.sizeOf270
  v25 := Tryz.zeroValue270
  i25 := by kernel_rfl
  t29 := Tryz.underlying204
  a29 := Tryz.isAgg204
  z29 := Tryz.sizeOf204
  v29 := Tryz.zeroValue204
  i29 := by kernel_rfl
  t45 := Tryz.underlying119
  a45 := Tryz.isAgg119
  z45 := Tryz.sizeOf119
  v45 := Tryz.zeroValue119
  i45 := by kernel_rfl
def bin31_ren : Go.Shelf.Ren := ⟨fun | 31 => 265 | n => n, fun | 0 => 0 | 5 => 5 | 22 => 32 | 25 => 270 | 29 => 204 | 45 => 119 | n => n, fun | n => n⟩
theorem bin31 : LaysBin.n31 Tryz.prog bin31_ren where
  mixed := by kernel_rfl
  f31 := Tryz.func265.trans (congrArg some (by kernel_rfl))
  t0 := Tryz.underlying0
  a0 := Tryz.isAgg0
  z0 := Tryz.sizeOf0
  v0 := Tryz.zeroValue0
  i0 := by kernel_rfl
  t5 := Tryz.underlying5
  a5 := Tryz.isAgg5
  z5 := Tryz.sizeOf5
  v5 := Tryz.zeroValue5
  i5 := by kernel_rfl
  t22 := Tryz.underlying32
  a22 := Tryz.isAgg32
  z22 := Tryz.sizeOf32
  v22 := Tryz.zeroValue32
  i22 := by kernel_rfl
  t25 := Tryz.underlying270
  a25 := Tryz.isAgg270
  z25 := Tryz.sizeOf270
  v25 := Tryz.zeroValue270
  i25 := by kernel_rfl
  t29 := Tryz.underlying204
  a29 := Tryz.isAgg204
  z29 := Tryz.sizeOf204
  v29 := Tryz.zeroValue204
  i29 := by kernel_rfl
  t45 := Tryz.underlying119
  a45 := Tryz.isAgg119
  z45 := Tryz.sizeOf119
  v45 := Tryz.zeroValue119
  i45 := by kernel_rfl
def bin33_ren : Go.Shelf.Ren := ⟨fun | 33 => 271 | n => n, fun | 0 => 0 | 5 => 5 | 22 => 32 | 25 => 270 | 33 => 155 | 45 => 119 | n => n, fun | n => n⟩
theorem bin33 : LaysBin.n33 Tryz.prog bin33_ren where
  mixed := by kernel_rfl
  f33 := Tryz.func271.trans (congrArg some (by kernel_rfl))
  t0 := Tryz.underlying0
  a0 := Tryz.isAgg0
  z0 := Tryz.sizeOf0
  v0 := Tryz.zeroValue0
  i0 := by kernel_rfl
  t5 := Tryz.underlying5
  a5 := Tryz.isAgg5
  z5 := Tryz.sizeOf5
  v5 := Tryz.zeroValue5
  i5 := by kernel_rfl
  t22 := Tryz.underlying32
  a22 := Tryz.isAgg32
  z22 := Tryz.sizeOf32
  v22 := Tryz.zeroValue32
  i22 := by kernel_rfl
  t25 := Tryz.underlying270
  a25 := Tryz.isAgg270
  z25 := Tryz.sizeOf270
  v25 := Tryz.zeroValue270
  i25 := by kernel_rfl
  t33 := Tryz.underlying155
  a33 := Tryz.isAgg155
  z33 := Tryz.sizeOf155
  v33 := Tryz.zeroValue155
  i33 := by kernel_rfl
  t45 := Tryz.underlying119
  a45 := Tryz.isAgg119
  z45 := Tryz.sizeOf119
  v45 := Tryz.zeroValue119
  i45 := by kernel_rfl
def bin34_ren : Go.Shelf.Ren := ⟨fun | 34 => 308 | n => n, fun | 0 => 0 | 5 => 5 | 22 => 32 | 25 => 270 | 33 => 155 | 45 => 119 | n => n, fun | n => n⟩
theorem bin34 : LaysBin.n34 Tryz.prog bin34_ren where
  mixed := by kernel_rfl
  f34 := Tryz.func308.trans (congrArg some (by kernel_rfl))
  t0 := Tryz.underlying0
  a0 := Tryz.isAgg0
  z0 := Tryz.sizeOf0
  v0 := Tryz.zeroValue0
  i0 := by kernel_rfl
  t5 := Tryz.underlying5
  a5 := Tryz.isAgg5
  z5 := Tryz.sizeOf5
  v5 := Tryz.zeroValue5
  i5 := by kernel_rfl
  t22 := Tryz.underlying32
  a22 := Tryz.isAgg32
  z22 := Tryz.sizeOf32
  v22 := Tryz.zeroValue32
  i22 := by kernel_rfl
  t25 := Tryz.underlying270
  a25 := Tryz.isAgg270
  z25 := Tryz.sizeOf270
  v25 := Tryz.zeroValue270
  i25 := by kernel_rfl
  t33 := Tryz.underlying155
  a33 := Tryz.isAgg155
  z33 := Tryz.sizeOf155
  v33 := Tryz.zeroValue155
  i33 := by kernel_rfl
  t45 := Tryz.underlying119
  a45 := Tryz.isAgg119
  z45 := Tryz.sizeOf119
  v45 := Tryz.zeroValue119
  i45 := by kernel_rfl
def bin39_ren : Go.Shelf.Ren := ⟨fun | 39 => 230 | n => n, fun | 0 => 0 | 5 => 5 | 22 => 32 | 29 => 204 | 37 => 268 | 45 => 119 | n => n, fun | n => n⟩
theorem bin39 : LaysBin.n39 Tryz.prog bin39_ren where
  mixed := by kernel_rfl
  f39 := Tryz.func230.trans (congrArg some (by kernel_rfl))
  t0 := Tryz.underlying0
  a0 := Tryz.isAgg0
  z0 := Tryz.sizeOf0
  v0 := Tryz.zeroValue0
  i0 := by kernel_rfl
  t5 := Tryz.underlying5
  a5 := Tryz.isAgg5
  z5 := Tryz.sizeOf5
  v5 := Tryz.zeroValue5
  i5 := by kernel_rfl
  t22 := Tryz.underlying32
  a22 := Tryz.isAgg32
  z22 := Tryz.sizeOf32
  v22 := Tryz.zeroValue32
  i22 := by kernel_rfl
  t29 := Tryz.underlying204
  a29 := Tryz.isAgg204
  z29 := Tryz.sizeOf204
  v29 := Tryz.zeroValue204
  i29 := by kernel_rfl
  t37 := Tryz.underlying268
  a37 := Tryz.isAgg268
  z37 := Tryz.sizeOf268
  v37 := Tryz.zeroValue268
  i37 := by kernel_rfl
  t45 := Tryz.underlying119
  a45 := Tryz.isAgg119
  z45 := Tryz.sizeOf119
  v45 := Tryz.zeroValue119
  i45 := by kernel_rfl
def bin42_ren : Go.Shelf.Ren := ⟨fun | 42 => 270 | n => n, fun | 0 => 0 | 5 => 5 | 22 => 32 | 33 => 155 | 37 => 268 | 45 => 119 | n => n, fun | n => n⟩
theorem bin42 : LaysBin.n42 Tryz.prog bin42_ren where
  mixed := by kernel_rfl
  f42 := Tryz.func270.trans (congrArg some (by kernel_rfl))
  t0 := Tryz.underlying0
  a0 := Tryz.isAgg0
  z0 := Tryz.sizeOf0
  v0 := Tryz.zeroValue0
  i0 := by kernel_rfl
  t5 := Tryz.underlying5
  a5 := Tryz.isAgg5
  z5 := Tryz.sizeOf5
  v5 := Tryz.zeroValue5
  i5 := by kernel_rfl
  t22 := Tryz.underlying32
  a22 := Tryz.isAgg32
  z22 := Tryz.sizeOf32
  v22 := Tryz.zeroValue32
  i22 := by kernel_rfl
  t33 := Tryz.underlying155
  a33 := Tryz.isAgg155
  z33 := Tryz.sizeOf155
  v33 := Tryz.zeroValue155
  i33 := by kernel_rfl
  t37 := Tryz.underlying268
  a37 := Tryz.isAgg268
  z37 := Tryz.sizeOf268
  v37 := Tryz.zeroValue268
  i37 := by kernel_rfl
  t45 := Tryz.underlying119
  a45 := Tryz.isAgg119
  z45 := Tryz.sizeOf119
  v45 := Tryz.zeroValue119
  i45 := by kernel_rfl
end Go.Proofs.YtahnhhkbdgaidaaGreatDoor
namespace Go.Proofs.YtahnhhkbdgaidaaGreatDoor
open Go.RowKit
/-- One cell of data: a plain value, a slice of structs (each a list of cells), a boxed struct behind an interface value. -/
inductive F where
  | atom (v : Value)
  | list (es : List (List F))
  | box (t : TypeId) (fs : List F)
/-- The value reads as the data; every block that is read lies in S. -/
inductive Rd (S : Nat → Prop) (w : World) : F → Value → Prop
  | atom (v : Value) : Rd S w (.atom v) v
  | nil (a : Option Addr) (c : Nat) : Rd S w (.list []) (.slice a 0 c)
  | list (es : List (List F)) (b off c sz : Nat) (cell : Nat → Nat → Value) (hsz : 0 < sz) (hmax : es.length ≤ 17592186044416)
      (hlen : ∀ i (h : i < es.length), (es[i]).length = sz) (hS : S b) (hb : b < w.heap.size)
      (hc : ∀ i j, i < es.length → j < sz → w.cell? ⟨b, off + i * sz + j, none⟩ = some (cell i j))
      (hr : ∀ i (hi : i < es.length) j (hj : j < (es[i]).length), Rd S w (es[i][j]) (cell i j)) :
      Rd S w (.list es) (.slice (some ⟨b, off, none⟩) es.length c)
  | box (t : TypeId) (b : Nat) (fs : List F) (cell : Nat → Value) (hS : S b) (hb : b < w.heap.size)
      (hc : ∀ j, j < fs.length → w.cell? ⟨b, j, none⟩ = some (cell j))
      (hr : ∀ j (hj : j < fs.length), Rd S w (fs[j]) (cell j)) :
      Rd S w (.box t fs) (.iface t (.pointer (some ⟨b, 0, none⟩)))
theorem Rd.step {S S' : Nat → Prop} {w w' : World} {f : F} {v : Value} (h : Rd S w f v)
    (hk : ∀ b, b < w.heap.size → S b → w'.heap[b]? = w.heap[b]? ∧ S' b) (hs : w.heap.size ≤ w'.heap.size) : Rd S' w' f v := by
  induction h with
  | atom v => exact .atom v
  | nil a c => exact .nil a c
  | list es b off c sz cell hsz hmax hlen hS hb hc hr ih =>
    refine .list es b off c sz cell hsz hmax hlen (hk b hb hS).2 (Nat.lt_of_lt_of_le hb hs) (fun i j hi hj => ?_) ih
    rw [World.cell?_of_block (hk b hb hS).1]
    exact hc i j hi hj
  | box t b fs cell hS hb hc hr ih =>
    refine .box t b fs cell (hk b hb hS).2 (Nat.lt_of_lt_of_le hb hs) (fun j hj => ?_) ih
    rw [World.cell?_of_block (hk b hb hS).1]
    exact hc j hj
theorem Rd.mono {S S' : Nat → Prop} {w : World} {f : F} {v : Value} (h : Rd S w f v) (hk : ∀ b, b < w.heap.size → S b → S' b) : Rd S' w f v :=
  h.step (fun b hb hS => ⟨rfl, hk b hb hS⟩) (Nat.le_refl _)
theorem Rd.blw {S : Nat → Prop} {w w' : World} {f : F} {v : Value} (h : Rd S w f v) (hk : Below w.heap.size w w') : Rd S w' f v :=
  h.step (fun b hb hS => ⟨hk.block b hb, hS⟩) hk.size
theorem Rd.grown {S : Nat → Prop} {w w' : World} {row : Option Nat} {f : F} {v : Value} (h : Rd S w f v) (hk : w.grownBy w' row) (hne : ∀ b, S b → some b ≠ row) : Rd S w' f v :=
  h.step (fun b hb hS => ⟨hk.block b hb (hne b hS), hS⟩) hk.size
theorem Rd.alloc {S : Nat → Prop} {w : World} {f : F} {v : Value} (h : Rd S w f v) (o : Obj) : Rd S (w.alloc o) f v :=
  h.blw ((Below.refl _ _).alloc (Nat.le_refl _) o)
theorem Rd.setCell {S : Nat → Prop} {w : World} {f : F} {v : Value} (h : Rd S w f v) {p : Addr} (hp : ¬ S p.block) (x : Value) : Rd S (w.setCell p x) f v :=
  h.step (fun b _ hS => ⟨Below.heap_setCell w p x b (fun e => hp (e ▸ hS)), hS⟩) (by simp [World.setCell])
theorem Rd.drew {S : Nat → Prop} {w : World} {f : F} {v : Value} (h : Rd S w f v) : Rd S w.drew f v := h.step (fun _ _ hS => ⟨rfl, hS⟩) (Nat.le_refl _)
theorem Rd.drewN {S : Nat → Prop} {w : World} {f : F} {v : Value} (h : Rd S w f v) (n : Nat) : Rd S (w.drewN n) f v := h.step (fun _ _ hS => ⟨rfl, hS⟩) (Nat.le_refl _)
theorem Rd.atom_inv {S : Nat → Prop} {w : World} {x v : Value} (h : Rd S w (.atom x) v) : v = x := by cases h; rfl
theorem Rd.list_inv {S : Nat → Prop} {w : World} {es : List (List F)} {v : Value} (h : Rd S w (.list es) v) : ∃ a c, v = .slice a es.length c ∧ es.length ≤ 17592186044416 ∧
    ∀ i, i < es.length → ∃ b off sz, ∃ cell : Nat → Nat → Value, a = some ⟨b, off, none⟩ ∧ 0 < sz ∧ S b ∧ b < w.heap.size ∧ (∀ i (h : i < es.length), (es[i]).length = sz) ∧
      (∀ i j, i < es.length → j < sz → w.cell? ⟨b, off + i * sz + j, none⟩ = some (cell i j)) ∧ (∀ i (hi : i < es.length) j (hj : j < (es[i]).length), Rd S w (es[i][j]) (cell i j)) := by
  cases h with
  | nil a c => exact ⟨a, c, rfl, by simp, fun i hi => absurd hi (by simp)⟩
  | list _ b off c sz cell hsz hmax hlen hS hb hc hr => exact ⟨_, c, rfl, hmax, fun i _ => ⟨b, off, sz, cell, rfl, hsz, hS, hb, hlen, hc, hr⟩⟩
theorem Rd.box_inv {S : Nat → Prop} {w : World} {t : TypeId} {fs : List F} {v : Value} (h : Rd S w (.box t fs) v) : ∃ b, ∃ cell : Nat → Value, v = .iface t (.pointer (some ⟨b, 0, none⟩)) ∧ S b ∧ b < w.heap.size ∧
    (∀ j, j < fs.length → w.cell? ⟨b, j, none⟩ = some (cell j)) ∧ (∀ j (hj : j < fs.length), Rd S w (fs[j]) (cell j)) := by
  cases h with
  | box _ b _ cell hS hb hc hr => exact ⟨b, cell, rfl, hS, hb, hc, hr⟩
/-- Behind boxes of the call's own. -/
theorem bl_box {n : Nat} {w W wr : World} (h : Below (w.heap.size + n) W wr) (h' : Below w.heap.size w W) : Below w.heap.size w wr := h'.trans (h.mono (Nat.le_add_right _ _))
theorem bl_box1 {w wr : World} {o : Obj} (h : Below (w.heap.size + 1) (w.alloc o) wr) : Below w.heap.size w wr := bl_box h ((Below.refl _ _).alloc (Nat.le_refl _) _)
theorem bl_cells {B : Nat} {W wr : World} (h : Below B W wr) : (∀ b o, b < B → wr.cell? ⟨b, o, none⟩ = W.cell? ⟨b, o, none⟩) ∧ (∀ b o, b < B → wr.frozen? ⟨b, o, none⟩ = W.frozen? ⟨b, o, none⟩) :=
  ⟨fun b o hb => h.cell (p := ⟨b, o, none⟩) hb, fun b o hb => h.frozen (p := ⟨b, o, none⟩) hb⟩
theorem bl_drewN {B : Nat} {a w : World} (h : Below B a w) (n : Nat) : Below B a (w.drewN n) := ⟨h.os, h.tape, h.output, h.size, h.block⟩
end Go.Proofs.YtahnhhkbdgaidaaGreatDoor
namespace Go.Proofs.YtahnhhkbdgaidaaGreatDoor
open Go.RowKit
theorem and_i64_3 (d : Int) : bits .and .i64 d 3 = d % 4 := by
  show IntKind.i64.wrap ((BitVec.ofInt 64 d &&& BitVec.ofInt 64 3).toNat : Int) = _
  have h2 : (BitVec.ofInt 64 3).toNat = 2 ^ 2 - 1 := rfl
  rw [BitVec.toNat_and, h2, Nat.and_two_pow_sub_one_eq_mod, BitVec.toNat_ofInt]
  simp [IntKind.wrap, IntKind.bits, IntKind.signed]
  omega
theorem and_i64_1 (d : Int) : bits .and .i64 d 1 = d % 2 := by
  show IntKind.i64.wrap ((BitVec.ofInt 64 d &&& BitVec.ofInt 64 1).toNat : Int) = _
  have h2 : (BitVec.ofInt 64 1).toNat = 2 ^ 1 - 1 := rfl
  rw [BitVec.toNat_and, h2, Nat.and_two_pow_sub_one_eq_mod, BitVec.toNat_ofInt]
  simp [IntKind.wrap, IntKind.bits, IntKind.signed]
  omega
theorem four (t : Int) (h0 : 0 ≤ t) (h1 : t ≤ 3) : t = 0 ∨ t = 1 ∨ t = 2 ∨ t = 3 := by omega
/-- How many numbers a place has. -/
def dimN (t : Int) : Int := 2 + t % 2 + t / 2 % 2
theorem dimN_bd (t : Int) : 2 ≤ dimN t ∧ dimN t ≤ 4 := by unfold dimN; omega
def hasZ (t : Int) : Bool := t % 2 == 1
def hasM (t : Int) : Bool := t / 2 % 2 == 1
theorem ret_int {k : IntKind} {a b : Int} (h : a = b) : Ending.returned (.int k a) = .returned (.int k b) := by rw [h]
theorem ret_bool {a b : Bool} (h : a = b) : Ending.returned (.bool a) = .returned (.bool b) := by rw [h]
theorem c49 (d : Int) (w : World) : Calls Tryz.prog 49 #[.int .i64 d] w fun e w' => e = .returned (.int .u8 (d % 4)) ∧ w = w' := by
  go_enter Tryz.func49, Tryz.ntmps49
  go_wp2
  go_ret
  exact ⟨ret_int (by rw [and_i64_3]; omega), rfl⟩
theorem c135 (t : Int) (w : World) (h0 : 0 ≤ t) (h1 : t ≤ 3) : Calls Tryz.prog 135 #[.int .u8 t] w fun e w' => e = .returned (.int .i64 (dimN t)) ∧ w = w' := by
  have i0 : ∀ w, (Instr.index 198 (.agg #[.int .i64 2, .int .i64 3, .int .i64 3, .int .i64 4]) (.int .u8 0)).run Tryz.prog w = .ok (.int .i64 2) w := fun _ => by kernel_rfl
  have i1 : ∀ w, (Instr.index 198 (.agg #[.int .i64 2, .int .i64 3, .int .i64 3, .int .i64 4]) (.int .u8 1)).run Tryz.prog w = .ok (.int .i64 3) w := fun _ => by kernel_rfl
  have i2 : ∀ w, (Instr.index 198 (.agg #[.int .i64 2, .int .i64 3, .int .i64 3, .int .i64 4]) (.int .u8 2)).run Tryz.prog w = .ok (.int .i64 3) w := fun _ => by kernel_rfl
  have i3 : ∀ w, (Instr.index 198 (.agg #[.int .i64 2, .int .i64 3, .int .i64 3, .int .i64 4]) (.int .u8 3)).run Tryz.prog w = .ok (.int .i64 4) w := fun _ => by kernel_rfl
  rcases four t h0 h1 with rfl | rfl | rfl | rfl
  all_goals
    go_enter Tryz.func135, Tryz.ntmps135
    go_wp2
    go_ret
    exact ⟨rfl, rfl⟩
theorem c31 (d : Int) (w : World) : Calls Tryz.prog 31 #[.int .i64 d] w fun e w' => e = .returned (.int .i64 (dimN d)) ∧ w = w' := by
  have h1 := and_i64_1 d
  have h2 := and_i64_1 (d / 2)
  go_enter Tryz.func31, Tryz.ntmps31
  go_wp2
  go_ret
  exact ⟨rfl, rfl⟩
theorem c30 (d : Int) (w : World) : Calls Tryz.prog 30 #[.int .i64 d] w fun e w' => e = .returned (.bool (d == 1 || d == 2)) ∧ w = w' := by
  by_cases h : d = 1
  · subst h
    go_enter Tryz.func30, Tryz.ntmps30
    go_wp2
    go_ret
    exact ⟨rfl, rfl⟩
  · have hb : (d == 1) = false := by simpa using h
    go_enter Tryz.func30, Tryz.ntmps30
    go_wp2
    go_ret
    exact ⟨ret_bool (by simp [hb]), rfl⟩
/-- The kind of the parts. -/
def kidOf (k : Int) : Int := if k = 4 then 1 else if k = 3 then 2 else if k = 5 then 2 else if k = 6 then 3 else -1
theorem c32 (k : Int) (w : World) : Calls Tryz.prog 32 #[.int .i64 k] w fun e w' => e = .returned (.int .i64 (kidOf k)) ∧ w = w' := by
  by_cases h4 : k = 4
  · subst h4
    go_enter Tryz.func32, Tryz.ntmps32
    go_wp2
    go_ret
    exact ⟨rfl, rfl⟩
  by_cases h3 : k = 3
  · subst h3
    go_enter Tryz.func32, Tryz.ntmps32
    go_wp2
    go_ret
    exact ⟨rfl, rfl⟩
  by_cases h5 : k = 5
  · subst h5
    go_enter Tryz.func32, Tryz.ntmps32
    go_wp2
    go_ret
    exact ⟨rfl, rfl⟩
  by_cases h6 : k = 6
  · subst h6
    go_enter Tryz.func32, Tryz.ntmps32
    go_wp2
    go_ret
    exact ⟨rfl, rfl⟩
  go_enter Tryz.func32, Tryz.ntmps32
  go_wp2
  go_ret
  exact ⟨ret_int (by simp [kidOf, h3, h4, h5, h6]), rfl⟩
theorem c138 (t : Int) (w : World) (h0 : 0 ≤ t) (h1 : t ≤ 3) : Calls Tryz.prog 138 #[.int .u8 t] w fun e w' => e = .returned (.bool (hasZ t)) ∧ w = w' := by
  rcases four t h0 h1 with rfl | rfl | rfl | rfl
  all_goals
    go_enter Tryz.func138, Tryz.ntmps138
    go_wp2
    go_ret
    exact ⟨ret_bool (by decide), rfl⟩
theorem c148 (t : Int) (w : World) (h0 : 0 ≤ t) (h1 : t ≤ 3) : Calls Tryz.prog 148 #[.int .u8 t] w fun e w' => e = .returned (.bool (hasM t)) ∧ w = w' := by
  rcases four t h0 h1 with rfl | rfl | rfl | rfl
  all_goals
    go_enter Tryz.func148, Tryz.ntmps148
    go_wp2
    go_ret
    exact ⟨ret_bool (by decide), rfl⟩
/- Numbers: their bits, and questions that answer some bool. -/
theorem x122 (x : Nat) (w : World) : (callFunc 122 #[.float .f64 x]).run Tryz.prog w = .ok (.value (.int .u64 x)) w := by
  rw [run_callFunc_extern Tryz.func122 (by kernel_rfl) (by kernel_rfl) (by kernel_rfl) (e := Extern.MathFloatBits.float64bits) (by kernel_rfl)]; rfl
theorem x123 (n : Int) (w : World) : (callFunc 123 #[.int .u64 n]).run Tryz.prog w = .ok (.value (.float .f64 n.toNat)) w := by
  rw [run_callFunc_extern Tryz.func123 (by kernel_rfl) (by kernel_rfl) (by kernel_rfl) (e := Extern.MathFloatBits.float64frombits) (by kernel_rfl)]; rfl
end Go.Proofs.YtahnhhkbdgaidaaGreatDoor
namespace Go.Proofs.YtahnhhkbdgaidaaGreatDoor
open Go.RowKit
inductive G where
  | mk (kind dim : Int) (nums : List Nat) (kids : List G)
def G.kind : G → Int | .mk k _ _ _ => k
def G.dim : G → Int | .mk _ d _ _ => d
def G.nums : G → List Nat | .mk _ _ n _ => n
def G.kids : G → List G | .mk _ _ _ l => l
/-- A list of numbers. -/
def fl (xs : List Nat) : F := .list (xs.map fun x => [.atom (.float .f64 x)])
mutual
def G.fs : G → List F
  | .mk k d ns ks => [.atom (.int .i64 k), .atom (.int .i64 d), fl ns, .list (G.fsL ks)]
def G.fsL : List G → List (List F)
  | [] => []
  | g :: r => g.fs :: G.fsL r
end
mutual
def G.size : G → Nat
  | .mk _ _ _ ks => G.sizeL ks + 1
def G.sizeL : List G → Nat
  | [] => 0
  | g :: r => g.size + G.sizeL r
end
theorem G.fsL_map : ∀ l : List G, G.fsL l = l.map G.fs
  | [] => by simp [G.fsL]
  | g :: r => by simp [G.fsL, G.fsL_map r]
theorem G.fsL_length (l : List G) : (G.fsL l).length = l.length := by rw [G.fsL_map, List.length_map]
theorem G.fs_eq (g : G) : g.fs = [.atom (.int .i64 g.kind), .atom (.int .i64 g.dim), fl g.nums, .list (G.fsL g.kids)] := by
  cases g; simp [G.fs, G.kind, G.dim, G.nums, G.kids]
theorem G.size_kid : ∀ (l : List G) (i : Nat) (h : i < l.length), (l[i]).size ≤ G.sizeL l
  | [], _, h => absurd h (by simp)
  | g :: r, 0, _ => by simp [G.sizeL]
  | g :: r, i + 1, h => by
    have := G.size_kid r i (by simpa using h)
    simp only [List.getElem_cons_succ, G.sizeL]
    omega
theorem G.size_eq (g : G) : g.size = G.sizeL g.kids + 1 := by cases g; simp [G.size, G.kids]
theorem fl_inv {S : Nat → Prop} {w : World} {xs : List Nat} {v : Value} (h : Rd S w (fl xs) v) : ∃ a c, v = .slice a xs.length c ∧ xs.length ≤ 17592186044416 ∧
    ∀ i (hi : i < xs.length), ∃ b off, a = some ⟨b, off, none⟩ ∧ S b ∧ b < w.heap.size ∧ w.cell? ⟨b, off + i, none⟩ = some (.float .f64 (xs[i])) := by
  obtain ⟨a, c, rfl, hm, hi⟩ := h.list_inv
  simp only [List.length_map] at *
  refine ⟨a, c, rfl, hm, fun i hlt => ?_⟩
  obtain ⟨b, off, sz, cell, rfl, hsz, hS, hb, hlen, hc, hr⟩ := hi i hlt
  have h1 := hlen i hlt
  simp only [List.getElem_map, List.length_cons, List.length_nil] at h1
  subst h1
  have h2 := hc i 0 hlt (by omega)
  have h3 := (hr i hlt 0 (by simp)) 
  simp only [List.getElem_map, List.getElem_cons_zero] at h3
  rw [h3.atom_inv] at h2
  exact ⟨b, off, rfl, hS, hb, by simpa using h2⟩
theorem kids_inv {S : Nat → Prop} {w : World} {ks : List G} {v : Value} (h : Rd S w (.list (G.fsL ks)) v) : ∃ a c, v = .slice a ks.length c ∧ ks.length ≤ 17592186044416 ∧
    ∀ i (hi : i < ks.length), ∃ b off vn vk, a = some ⟨b, off, none⟩ ∧ S b ∧ b < w.heap.size ∧ w.cell? ⟨b, off + i * 4, none⟩ = some (.int .i64 (ks[i]).kind) ∧
      w.cell? ⟨b, off + i * 4 + 1, none⟩ = some (.int .i64 (ks[i]).dim) ∧ w.cell? ⟨b, off + i * 4 + 2, none⟩ = some vn ∧ w.cell? ⟨b, off + i * 4 + 3, none⟩ = some vk ∧
      Rd S w (fl (ks[i]).nums) vn ∧ Rd S w (.list (G.fsL (ks[i]).kids)) vk := by
  obtain ⟨a, c, rfl, hm, hi⟩ := h.list_inv
  rw [G.fsL_length] at hm
  refine ⟨a, c, by rw [G.fsL_length], hm, fun i hlt => ?_⟩
  have hlt' : i < (G.fsL ks).length := by rw [G.fsL_length]; exact hlt
  obtain ⟨b, off, sz, cell, rfl, hsz, hS, hb, hlen, hc, hr⟩ := hi i hlt'
  have e : (G.fsL ks)[i] = [.atom (.int .i64 (ks[i]).kind), .atom (.int .i64 (ks[i]).dim), fl (ks[i]).nums, .list (G.fsL (ks[i]).kids)] := by
    rw [← G.fs_eq]; simp [G.fsL_map]
  have h1 := hlen i hlt'
  rw [e] at h1
  simp only [List.length_cons, List.length_nil] at h1
  subst h1
  have r0 := hr i hlt' 0 (by rw [e]; simp)
  have r1 := hr i hlt' 1 (by rw [e]; simp)
  have r2 := hr i hlt' 2 (by rw [e]; simp)
  have r3 := hr i hlt' 3 (by rw [e]; simp)
  simp only [e, List.getElem_cons_zero, List.getElem_cons_succ] at r0 r1 r2 r3
  have h0 := hc i 0 hlt' (by omega)
  have h1 := hc i 1 hlt' (by omega)
  rw [r0.atom_inv] at h0
  rw [r1.atom_inv] at h1
  exact ⟨b, off, cell i 2, cell i 3, rfl, hS, hb, by simpa using h0, h1, hc i 2 hlt' (by omega), hc i 3 hlt' (by omega), r2, r3⟩
theorem fl_shape {S : Nat → Prop} {w : World} {xs : List Nat} {v : Value} (h : Rd S w (fl xs) v) : ∃ a c, v = .slice a xs.length c :=
  let ⟨a, c, h, _⟩ := fl_inv h; ⟨a, c, h⟩
theorem kids_shape {S : Nat → Prop} {w : World} {ks : List G} {v : Value} (h : Rd S w (.list (G.fsL ks)) v) : ∃ a c, v = .slice a ks.length c :=
  let ⟨a, c, h, _⟩ := kids_inv h; ⟨a, c, h⟩
mutual
def gw : G → Int → Int
  | .mk _ _ ns ks, left => if left < 1 ∨ left < ns.length ∨ left < ks.length then -1 else gwL ks (left - 1 - ns.length)
def gwL : List G → Int → Int
  | [], left => left
  | g :: r, left => if left < 0 then left else gwL r (gw g left)
end
mutual
theorem gw_bd : ∀ (g : G) (left : Int), 0 ≤ left → -1 ≤ gw g left ∧ gw g left ≤ left
  | .mk _ _ ns ks, left, h => by
    unfold gw
    split
    · omega
    · have := gwL_bd ks (left - 1 - ns.length) (by omega); omega
theorem gwL_bd : ∀ (l : List G) (left : Int), -1 ≤ left → -1 ≤ gwL l left ∧ gwL l left ≤ left
  | [], left, h => by simp [gwL, h]
  | g :: r, left, h => by
    unfold gwL
    split
    · omega
    · have h1 := gw_bd g left (by omega)
      have h2 := gwL_bd r (gw g left) (by omega)
      omega
end
theorem gwL_step (l : List G) (i : Nat) (h : i < l.length) (left : Int) (h0 : 0 ≤ left) : gwL (l.drop i) left = gwL (l.drop (i + 1)) (gw (l[i]) left) := by
  rw [List.drop_eq_getElem_cons h, gwL, if_neg (by omega)]
theorem gwL_neg : ∀ (l : List G) (left : Int), left < 0 → gwL l left = left
  | [], _, _ => by simp [gwL]
  | _ :: _, _, h => by rw [gwL, if_pos h]
end Go.Proofs.YtahnhhkbdgaidaaGreatDoor
namespace Go.Proofs.YtahnhhkbdgaidaaGreatDoor
open Go.RowKit
theorem c22 (S : Nat → Prop) : ∀ (m : Nat) (g : G) (left : Int) (vn vk : Value) (w : World), g.size ≤ m → left ≤ 4611686018427387904 → -4611686018427387904 ≤ left →
    Rd S w (fl g.nums) vn → Rd S w (.list (G.fsL g.kids)) vk →
    Calls Tryz.prog 22 #[.agg #[.int .i64 g.kind, .int .i64 g.dim, vn, vk], .int .i64 left] w fun e w' => e = .returned (.int .i64 (gw g left)) ∧ Below w.heap.size w w' := by
  intro m
  induction m with
  | zero => intro g _ _ _ _ h; rw [G.size_eq] at h; omega
  | succ m ih =>
    intro g left vn vk w hm hl1 hl2 hn hk
    cases g with
    | mk k d ns ks =>
    simp only [G.kind, G.dim, G.nums, G.kids] at *
    obtain ⟨an, cn, rfl, hnm, _⟩ := fl_inv hn
    obtain ⟨ak, ck, rfl, hkm, hkid⟩ := kids_inv hk
    by_cases h1 : left < 1
    · go_enter Tryz.func22, Tryz.ntmps22
      go_wp2_with fail
      go_ret
      exact ⟨ret_int (by simp [gw, h1]), (Below.refl _ _).alloc (Nat.le_refl _) _⟩
    by_cases h2 : left < ns.length
    · have h1' : decide (left < 1) = false := by simpa using h1
      go_enter Tryz.func22, Tryz.ntmps22
      go_wp2_with fail
      go_ret
      exact ⟨ret_int (by simp [gw, h2]), (Below.refl _ _).alloc (Nat.le_refl _) _⟩
    by_cases h3 : left < ks.length
    · have h1' : decide (left < 1) = false := by simpa using h1
      have h2' : decide (left < (ns.length : Int)) = false := by simpa using h2
      go_enter Tryz.func22, Tryz.ntmps22
      go_wp2_with fail
      go_ret
      exact ⟨ret_int (by simp [gw, h3]), (Below.refl _ _).alloc (Nat.le_refl _) _⟩
    have hg : gw (.mk k d ns ks) left = gwL ks (left - 1 - ns.length) := by simp [gw, h1, h2, h3]
    have Hg := Lib.hid hg; clear hg
    have Hbd := Lib.hid (gwL_bd ks (left - 1 - ns.length) (by omega))
    have h1' : decide (left < 1) = false := by simpa using h1
    have h2' : decide (left < (ns.length : Int)) = false := by simpa using h2
    have h3' : decide (left < (ks.length : Int)) = false := by simpa using h3
    go_enter Tryz.func22, Tryz.ntmps22
    go_wp2_with fail
    go_loopw [1, 5] (fun l i wr => ∃ j : Nat, ∃ L : Int, j ≤ ks.length ∧ i = .int .i64 j ∧ l = .int .i64 L ∧ -1 ≤ L ∧ L ≤ left ∧ gwL (ks.drop j) L = gwL ks (left - 1 - ns.length) ∧ Below (w.heap.size + 1) (w.alloc (.cells #[.int .i64 k, .int .i64 d, .slice an ns.length cn, .slice ak ks.length ck] 25)) wr) (fun _ i _ => ks.length - (intOf i).toNat)
    case atStart => exact ⟨0, _, Nat.zero_le _, rfl, rfl, by omega, by omega, rfl, by simpa using Below.refl _ _⟩
    case round =>
      obtain ⟨j, L, hj, rfl, rfl, hL0, hL1, hE, hB⟩ := hrel
      have hE' := Lib.hid hE; clear hE
      have hc : ∀ b o, b < w.heap.size + 1 → wr.cell? ⟨b, o, none⟩ = (w.alloc (.cells #[.int .i64 k, .int .i64 d, .slice an ns.length cn, .slice ak ks.length ck] 25)).cell? ⟨b, o, none⟩ := fun b o h => hB.cell (p := ⟨b, o, none⟩) h
      have hsz : w.heap.size + 1 ≤ wr.heap.size := by simpa using hB.size
      by_cases hlt : j < ks.length
      · by_cases hL : 0 ≤ L
        · obtain ⟨b, off, vn, vk, rfl, _, hb, k0, k1, k2, k3, r2, r3⟩ := hkid j hlt
          have hsm : (ks[j]).size ≤ m := by have := G.size_kid ks j hlt; simp only [G.size] at hm; omega
          have hBw : Below w.heap.size w wr := ⟨hB.os, hB.tape, hB.output, by simpa using (Nat.le_trans (Nat.le_succ _) hsz), fun i hi => (hB.block i (by omega)).trans (Below.heap_alloc _ _ _ hi)⟩
          have q2 := r2.blw hBw
          have q3 := r3.blw hBw
          have hstep := Lib.hid (gwL_step ks j hlt L hL)
          have hbd2 := Lib.hid (gw_bd (ks[j]) L hL)
          have hdl : decide (L < 0) = false := by simpa using hL
          go_wp2_with fail
          refine (ih (ks[j]) L vn vk wr hsm (by omega) (by omega) q2 q3).mono ?_
          rintro e w1 ⟨rfl, hb1⟩
          go_wp2_with fail
          go_roundw
          case rel => exact ⟨j + 1, gw (ks[j]) L, by omega, by go_num, rfl, by have := hbd2.out; omega, by have := hbd2.out; omega, by rw [← hstep.out]; exact hE'.out, hB.trans (hb1.mono hsz)⟩
          case measure => simp [intOf]; omega
        · have hL' : L < 0 := by omega
          have hdl : decide (0 ≤ L) = false := by simpa using hL
          have hfin : gw (.mk k d ns ks) left = L := by rw [Hg.out, ← hE'.out, gwL_neg _ _ hL']
          have Hfin := Lib.hid hfin; clear hfin
          go_wp2_with fail
          go_ret
          exact ⟨ret_int Hfin.out.symm, ⟨hB.os, hB.tape, hB.output, by simpa using (Nat.le_trans (Nat.le_succ _) hsz), fun i hi => (hB.block i (by omega)).trans (Below.heap_alloc _ _ _ hi)⟩⟩
      · have hjj : j = ks.length := by omega
        have hfin : gw (.mk k d ns ks) left = L := by rw [Hg.out, ← hE'.out, hjj]; simp [gwL]
        have Hfin := Lib.hid hfin; clear hfin
        clear hjj
        have hdl : decide ((j : Int) < ks.length) = false := by simp; omega
        go_wp2_with fail
        go_ret
        exact ⟨ret_int Hfin.out.symm, ⟨hB.os, hB.tape, hB.output, by simpa using (Nat.le_trans (Nat.le_succ _) hsz), fun i hi => (hB.block i (by omega)).trans (Below.heap_alloc _ _ _ hi)⟩⟩
theorem c8 (S : Nat → Prop) (g : G) (vn vk : Value) (b : Nat) (w : World) (hb : b < w.heap.size)
    (k0 : w.cell? ⟨b, 0, none⟩ = some (.int .i64 g.kind)) (k1 : w.cell? ⟨b, 1, none⟩ = some (.int .i64 g.dim)) (k2 : w.cell? ⟨b, 2, none⟩ = some vn) (k3 : w.cell? ⟨b, 3, none⟩ = some vk)
    (hn : Rd S w (fl g.nums) vn) (hk : Rd S w (.list (G.fsL g.kids)) vk) :
    Calls Tryz.prog 8 #[.slice (some ⟨b, 0, none⟩) 1 1] w fun e w' => e = .returned (.bool (decide (0 ≤ gw g 2000))) ∧ Below w.heap.size w w' := by
  go_enter Tryz.func8, Tryz.ntmps8
  go_wp2_with fail
  go_loopw [3, 4] (fun l i wr => ((i = .int .i64 0 ∧ l = .int .i64 2000) ∨ (i = .int .i64 1 ∧ l = .int .i64 (gw g 2000))) ∧ Below w.heap.size w wr) (fun _ i _ => 1 - (intOf i).toNat)
  case atStart => exact ⟨.inl ⟨rfl, rfl⟩, Below.refl _ _⟩
  case round =>
    obtain ⟨⟨rfl, rfl⟩ | ⟨rfl, rfl⟩, hB⟩ := hrel
    · have hc := (bl_cells hB).1
      have q2 := hn.blw hB
      have q3 := hk.blw hB
      go_wp2_with fail
      refine (c22 S g.size g 2000 vn vk wr (Nat.le_refl _) (by omega) (by omega) q2 q3).mono ?_
      rintro e w1 ⟨rfl, hb1⟩
      go_wp2_with fail
      go_roundw
      case rel => exact ⟨.inr ⟨rfl, rfl⟩, hB.trans (hb1.mono hB.size)⟩
      case measure => simp [intOf]
    · go_wp2_with fail
      go_ret
      exact ⟨ret_bool rfl, hB⟩
theorem c7 (k d : Int) (an ak : Option Addr) (ln lk cn ck : Nat) (w : World) :
    Calls Tryz.prog 7 #[.agg #[.int .i64 k, .int .i64 d, .slice an ln cn, .slice ak lk ck]] w fun e w' => e = .returned (.bool (decide (ln ≤ 2147483647 ∧ lk ≤ 2147483647))) ∧ Below w.heap.size w w' := by
  by_cases h1 : ln ≤ 2147483647
  · by_cases h2 : lk ≤ 2147483647
    · go_enter Tryz.func7, Tryz.ntmps7
      go_wp2_with fail
      go_ret
      exact ⟨ret_bool (by simp [h1, h2]), (Below.refl _ _).alloc (Nat.le_refl _) _⟩
    · go_enter Tryz.func7, Tryz.ntmps7
      go_wp2_with fail
      go_ret
      exact ⟨ret_bool (by simp [h2]), (Below.refl _ _).alloc (Nat.le_refl _) _⟩
  · go_enter Tryz.func7, Tryz.ntmps7
    go_wp2_with fail
    go_ret
    exact ⟨ret_bool (by simp [h1]), (Below.refl _ _).alloc (Nat.le_refl _) _⟩
end Go.Proofs.YtahnhhkbdgaidaaGreatDoor
