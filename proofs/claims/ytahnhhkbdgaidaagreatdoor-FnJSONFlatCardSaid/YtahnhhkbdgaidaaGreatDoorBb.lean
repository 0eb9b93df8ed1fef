/-
  The small functions: types of coordinates, names, questions about numbers.
-/
import Derived.WalkKit
import Derived.Maps.AppendAt
import Derived.Deep.Draws
import Derived.Lib.Hide
import Derived.Test.YtahnhhkbdgaidaaGreatDoorProg
import Derived.WalkLawsBesides
import Derived.WalkSpells
import Derived.Deep.QuietTactic
import Derived.BigQuiet
import Derived.KernelRfl
namespace Go.Proofs.YtahnhhkbdgaidaaGreatDoor
open Go.RowKit

/-- One cell of data: a plain value, a slice of structs (each a list of cells), a boxed struct behind an interface value. -/
inductive F where
  | atom (v : Value)
  | list (es : List (List F))
  | box (t : TypeId) (fs : List F)

/-- The value reads as the data; every block that is read lies in S. -/
inductive Rd (S : Nat → Prop) (w : World) : F → Value → Prop
  | atom (v : Value) : Rd S w (.atom v) v
  | nil (a : Option Addr) (c : Nat) : Rd S w (.list []) (.slice a 0 c)
  | list (es : List (List F)) (b off c sz : Nat) (cell : Nat → Nat → Value) (hsz : 0 < sz) (hmax : es.length ≤ 17592186044416)
      (hlen : ∀ i (h : i < es.length), (es[i]).length = sz) (hS : S b) (hb : b < w.heap.size)
      (hc : ∀ i j, i < es.length → j < sz → w.cell? ⟨b, off + i * sz + j, none⟩ = some (cell i j))
      (hr : ∀ i (hi : i < es.length) j (hj : j < (es[i]).length), Rd S w (es[i][j]) (cell i j)) :
      Rd S w (.list es) (.slice (some ⟨b, off, none⟩) es.length c)
  | box (t : TypeId) (b : Nat) (fs : List F) (cell : Nat → Value) (hS : S b) (hb : b < w.heap.size)
      (hc : ∀ j, j < fs.length → w.cell? ⟨b, j, none⟩ = some (cell j))
      (hr : ∀ j (hj : j < fs.length), Rd S w (fs[j]) (cell j)) :
      Rd S w (.box t fs) (.iface t (.pointer (some ⟨b, 0, none⟩)))

theorem Rd.step {S S' : Nat → Prop} {w w' : World} {f : F} {v : Value} (h : Rd S w f v)
    (hk : ∀ b, b < w.heap.size → S b → w'.heap[b]? = w.heap[b]? ∧ S' b) (hs : w.heap.size ≤ w'.heap.size) : Rd S' w' f v := by
  induction h with
  | atom v => exact .atom v
  | nil a c => exact .nil a c
  | list es b off c sz cell hsz hmax hlen hS hb hc hr ih =>
    refine .list es b off c sz cell hsz hmax hlen (hk b hb hS).2 (Nat.lt_of_lt_of_le hb hs) (fun i j hi hj => ?_) ih
    rw [World.cell?_of_block (hk b hb hS).1]
    exact hc i j hi hj
  | box t b fs cell hS hb hc hr ih =>
    refine .box t b fs cell (hk b hb hS).2 (Nat.lt_of_lt_of_le hb hs) (fun j hj => ?_) ih
    rw [World.cell?_of_block (hk b hb hS).1]
    exact hc j hj

theorem Rd.mono {S S' : Nat → Prop} {w : World} {f : F} {v : Value} (h : Rd S w f v) (hk : ∀ b, b < w.heap.size → S b → S' b) : Rd S' w f v :=
  h.step (fun b hb hS => ⟨rfl, hk b hb hS⟩) (Nat.le_refl _)
theorem Rd.blw {S : Nat → Prop} {w w' : World} {f : F} {v : Value} (h : Rd S w f v) (hk : Below w.heap.size w w') : Rd S w' f v :=
  h.step (fun b hb hS => ⟨hk.block b hb, hS⟩) hk.size
theorem Rd.grown {S : Nat → Prop} {w w' : World} {row : Option Nat} {f : F} {v : Value} (h : Rd S w f v) (hk : w.grownBy w' row) (hne : ∀ b, S b → some b ≠ row) : Rd S w' f v :=
  h.step (fun b hb hS => ⟨hk.block b hb (hne b hS), hS⟩) hk.size
theorem Rd.alloc {S : Nat → Prop} {w : World} {f : F} {v : Value} (h : Rd S w f v) (o : Obj) : Rd S (w.alloc o) f v :=
  h.blw ((Below.refl _ _).alloc (Nat.le_refl _) o)
theorem Rd.setCell {S : Nat → Prop} {w : World} {f : F} {v : Value} (h : Rd S w f v) {p : Addr} (hp : ¬ S p.block) (x : Value) : Rd S (w.setCell p x) f v :=
  h.step (fun b _ hS => ⟨Below.heap_setCell w p x b (fun e => hp (e ▸ hS)), hS⟩) (by simp [World.setCell])
theorem Rd.drew {S : Nat → Prop} {w : World} {f : F} {v : Value} (h : Rd S w f v) : Rd S w.drew f v := h.step (fun _ _ hS => ⟨rfl, hS⟩) (Nat.le_refl _)
theorem Rd.drewN {S : Nat → Prop} {w : World} {f : F} {v : Value} (h : Rd S w f v) (n : Nat) : Rd S (w.drewN n) f v := h.step (fun _ _ hS => ⟨rfl, hS⟩) (Nat.le_refl _)

theorem Rd.atom_inv {S : Nat → Prop} {w : World} {x v : Value} (h : Rd S w (.atom x) v) : v = x := by cases h; rfl
theorem Rd.list_inv {S : Nat → Prop} {w : World} {es : List (List F)} {v : Value} (h : Rd S w (.list es) v) : ∃ a c, v = .slice a es.length c ∧ es.length ≤ 17592186044416 ∧
    ∀ i, i < es.length → ∃ b off sz, ∃ cell : Nat → Nat → Value, a = some ⟨b, off, none⟩ ∧ 0 < sz ∧ S b ∧ b < w.heap.size ∧ (∀ i (h : i < es.length), (es[i]).length = sz) ∧
      (∀ i j, i < es.length → j < sz → w.cell? ⟨b, off + i * sz + j, none⟩ = some (cell i j)) ∧ (∀ i (hi : i < es.length) j (hj : j < (es[i]).length), Rd S w (es[i][j]) (cell i j)) := by
  cases h with
  | nil a c => exact ⟨a, c, rfl, by simp, fun i hi => absurd hi (by simp)⟩
  | list _ b off c sz cell hsz hmax hlen hS hb hc hr => exact ⟨_, c, rfl, hmax, fun i _ => ⟨b, off, sz, cell, rfl, hsz, hS, hb, hlen, hc, hr⟩⟩
theorem Rd.box_inv {S : Nat → Prop} {w : World} {t : TypeId} {fs : List F} {v : Value} (h : Rd S w (.box t fs) v) : ∃ b, ∃ cell : Nat → Value, v = .iface t (.pointer (some ⟨b, 0, none⟩)) ∧ S b ∧ b < w.heap.size ∧
    (∀ j, j < fs.length → w.cell? ⟨b, j, none⟩ = some (cell j)) ∧ (∀ j (hj : j < fs.length), Rd S w (fs[j]) (cell j)) := by
  cases h with
  | box _ b _ cell hS hb hc hr => exact ⟨b, cell, rfl, hS, hb, hc, hr⟩

/-- The list at a nil slice, too. -/
theorem Rd.nil_nil (S : Nat → Prop) (w : World) : Rd S w (.list []) (.slice none 0 0) := .nil none 0

/-- What is known of old cells behind a step that leaves old blocks alone. -/
theorem bcell {W w1 : World} (hb : Below W.heap.size W w1) : (∀ b o, b < W.heap.size → w1.cell? ⟨b, o, none⟩ = W.cell? ⟨b, o, none⟩) ∧ (∀ b o, b < W.heap.size → w1.frozen? ⟨b, o, none⟩ = W.frozen? ⟨b, o, none⟩) :=
  ⟨fun b o h => hb.cell (p := ⟨b, o, none⟩) h, fun b o h => hb.frozen (p := ⟨b, o, none⟩) h⟩

/-- Behind boxes of the call's own. -/
theorem bl_box {n : Nat} {w W wr : World} (h : Below (w.heap.size + n) W wr) (h' : Below w.heap.size w W) : Below w.heap.size w wr := h'.trans (h.mono (Nat.le_add_right _ _))
theorem bl_box1 {w wr : World} {o : Obj} (h : Below (w.heap.size + 1) (w.alloc o) wr) : Below w.heap.size w wr := bl_box h ((Below.refl _ _).alloc (Nat.le_refl _) _)
theorem bl_box2 {w wr : World} {o o' : Obj} (h : Below (w.heap.size + 2) ((w.alloc o).alloc o') wr) : Below w.heap.size w wr := bl_box h (((Below.refl _ _).alloc (Nat.le_refl _) _).alloc (by simp) _)
theorem bl_cells {B : Nat} {W wr : World} (h : Below B W wr) : (∀ b o, b < B → wr.cell? ⟨b, o, none⟩ = W.cell? ⟨b, o, none⟩) ∧ (∀ b o, b < B → wr.frozen? ⟨b, o, none⟩ = W.frozen? ⟨b, o, none⟩) :=
  ⟨fun b o hb => h.cell (p := ⟨b, o, none⟩) hb, fun b o hb => h.frozen (p := ⟨b, o, none⟩) hb⟩
theorem bl_drewN {B : Nat} {a w : World} (h : Below B a w) (n : Nat) : Below B a (w.drewN n) := ⟨h.os, h.tape, h.output, h.size, h.block⟩
end Go.Proofs.YtahnhhkbdgaidaaGreatDoor
namespace Go.Proofs.YtahnhhkbdgaidaaGreatDoor
open Go.RowKit

theorem and_i64_3 (d : Int) : bits .and .i64 d 3 = d % 4 := by
  show IntKind.i64.wrap ((BitVec.ofInt 64 d &&& BitVec.ofInt 64 3).toNat : Int) = _
  have h2 : (BitVec.ofInt 64 3).toNat = 2 ^ 2 - 1 := rfl
  rw [BitVec.toNat_and, h2, Nat.and_two_pow_sub_one_eq_mod, BitVec.toNat_ofInt]
  simp [IntKind.wrap, IntKind.bits, IntKind.signed]
  omega
theorem and_i64_1 (d : Int) : bits .and .i64 d 1 = d % 2 := by
  show IntKind.i64.wrap ((BitVec.ofInt 64 d &&& BitVec.ofInt 64 1).toNat : Int) = _
  have h2 : (BitVec.ofInt 64 1).toNat = 2 ^ 1 - 1 := rfl
  rw [BitVec.toNat_and, h2, Nat.and_two_pow_sub_one_eq_mod, BitVec.toNat_ofInt]
  simp [IntKind.wrap, IntKind.bits, IntKind.signed]
  omega
theorem four (t : Int) (h0 : 0 ≤ t) (h1 : t ≤ 3) : t = 0 ∨ t = 1 ∨ t = 2 ∨ t = 3 := by omega

/-- How many numbers a place has. -/
def dimN (t : Int) : Int := 2 + t % 2 + t / 2 % 2
theorem dimN_bd (t : Int) : 2 ≤ dimN t ∧ dimN t ≤ 4 := by unfold dimN; omega
def hasZ (t : Int) : Bool := t % 2 == 1
def hasM (t : Int) : Bool := t / 2 % 2 == 1

theorem ret_int {k : IntKind} {a b : Int} (h : a = b) : Ending.returned (.int k a) = .returned (.int k b) := by rw [h]
theorem ret_bool {a b : Bool} (h : a = b) : Ending.returned (.bool a) = .returned (.bool b) := by rw [h]

theorem c49 (d : Int) (w : World) : Calls Tryz.prog 49 #[.int .i64 d] w fun e w' => e = .returned (.int .u8 (d % 4)) ∧ w = w' := by
  go_enter Tryz.func49, Tryz.ntmps49
  go_wp2
  go_ret
  exact ⟨ret_int (by rw [and_i64_3]; omega), rfl⟩

theorem c135 (t : Int) (w : World) (h0 : 0 ≤ t) (h1 : t ≤ 3) : Calls Tryz.prog 135 #[.int .u8 t] w fun e w' => e = .returned (.int .i64 (dimN t)) ∧ w = w' := by
  have i0 : ∀ w, (Instr.index 198 (.agg #[.int .i64 2, .int .i64 3, .int .i64 3, .int .i64 4]) (.int .u8 0)).run Tryz.prog w = .ok (.int .i64 2) w := fun _ => by kernel_rfl
  have i1 : ∀ w, (Instr.index 198 (.agg #[.int .i64 2, .int .i64 3, .int .i64 3, .int .i64 4]) (.int .u8 1)).run Tryz.prog w = .ok (.int .i64 3) w := fun _ => by kernel_rfl
  have i2 : ∀ w, (Instr.index 198 (.agg #[.int .i64 2, .int .i64 3, .int .i64 3, .int .i64 4]) (.int .u8 2)).run Tryz.prog w = .ok (.int .i64 3) w := fun _ => by kernel_rfl
  have i3 : ∀ w, (Instr.index 198 (.agg #[.int .i64 2, .int .i64 3, .int .i64 3, .int .i64 4]) (.int .u8 3)).run Tryz.prog w = .ok (.int .i64 4) w := fun _ => by kernel_rfl
  rcases four t h0 h1 with rfl | rfl | rfl | rfl
  all_goals
    go_enter Tryz.func135, Tryz.ntmps135
    go_wp2
    go_ret
    exact ⟨rfl, rfl⟩

theorem c31 (d : Int) (w : World) : Calls Tryz.prog 31 #[.int .i64 d] w fun e w' => e = .returned (.int .i64 (dimN d)) ∧ w = w' := by
  have h1 := and_i64_1 d
  have h2 := and_i64_1 (d / 2)
  go_enter Tryz.func31, Tryz.ntmps31
  go_wp2
  go_ret
  exact ⟨rfl, rfl⟩

theorem c30 (d : Int) (w : World) : Calls Tryz.prog 30 #[.int .i64 d] w fun e w' => e = .returned (.bool (d == 1 || d == 2)) ∧ w = w' := by
  by_cases h : d = 1
  · subst h
    go_enter Tryz.func30, Tryz.ntmps30
    go_wp2
    go_ret
    exact ⟨rfl, rfl⟩
  · have hb : (d == 1) = false := by simpa using h
    go_enter Tryz.func30, Tryz.ntmps30
    go_wp2
    go_ret
    exact ⟨ret_bool (by simp [hb]), rfl⟩

/-- The kind of the parts. -/
def kidOf (k : Int) : Int := if k = 4 then 1 else if k = 3 then 2 else if k = 5 then 2 else if k = 6 then 3 else -1
theorem c32 (k : Int) (w : World) : Calls Tryz.prog 32 #[.int .i64 k] w fun e w' => e = .returned (.int .i64 (kidOf k)) ∧ w = w' := by
  by_cases h4 : k = 4
  · subst h4
    go_enter Tryz.func32, Tryz.ntmps32
    go_wp2
    go_ret
    exact ⟨rfl, rfl⟩
  by_cases h3 : k = 3
  · subst h3
    go_enter Tryz.func32, Tryz.ntmps32
    go_wp2
    go_ret
    exact ⟨rfl, rfl⟩
  by_cases h5 : k = 5
  · subst h5
    go_enter Tryz.func32, Tryz.ntmps32
    go_wp2
    go_ret
    exact ⟨rfl, rfl⟩
  by_cases h6 : k = 6
  · subst h6
    go_enter Tryz.func32, Tryz.ntmps32
    go_wp2
    go_ret
    exact ⟨rfl, rfl⟩
  go_enter Tryz.func32, Tryz.ntmps32
  go_wp2
  go_ret
  exact ⟨ret_int (by simp [kidOf, h3, h4, h5, h6]), rfl⟩

/-- A text as a value. -/
def str (l : List UInt8) : Value := .string ⟨l.toArray⟩

def kindName (k : Int) : List UInt8 :=
  if k = 1 then [80, 79, 73, 78, 84] else if k = 2 then [76, 73, 78, 69, 83, 84, 82, 73, 78, 71] else if k = 3 then [80, 79, 76, 89, 71, 79, 78]
  else if k = 4 then [77, 85, 76, 84, 73, 80, 79, 73, 78, 84] else if k = 5 then [77, 85, 76, 84, 73, 76, 73, 78, 69, 83, 84, 82, 73, 78, 71]
  else if k = 6 then [77, 85, 76, 84, 73, 80, 79, 76, 89, 71, 79, 78] else [71, 69, 79, 77, 69, 84, 82, 89, 67, 79, 76, 76, 69, 67, 84, 73, 79, 78]
theorem ret_str {a b : List UInt8} (h : a = b) : Ending.returned (.string ⟨a.toArray⟩) = .returned (str b) := by rw [h]; rfl
theorem c27 (k : Int) (w : World) : Calls Tryz.prog 27 #[.int .i64 k] w fun e w' => e = .returned (str (kindName k)) ∧ w = w' := by
  by_cases h1 : k = 1
  · subst h1
    go_enter Tryz.func27, Tryz.ntmps27
    go_wp2
    go_ret
    exact ⟨rfl, rfl⟩
  by_cases h2 : k = 2
  · subst h2
    go_enter Tryz.func27, Tryz.ntmps27
    go_wp2
    go_ret
    exact ⟨rfl, rfl⟩
  by_cases h3 : k = 3
  · subst h3
    go_enter Tryz.func27, Tryz.ntmps27
    go_wp2
    go_ret
    exact ⟨rfl, rfl⟩
  by_cases h4 : k = 4
  · subst h4
    go_enter Tryz.func27, Tryz.ntmps27
    go_wp2
    go_ret
    exact ⟨rfl, rfl⟩
  by_cases h5 : k = 5
  · subst h5
    go_enter Tryz.func27, Tryz.ntmps27
    go_wp2
    go_ret
    exact ⟨rfl, rfl⟩
  by_cases h6 : k = 6
  · subst h6
    go_enter Tryz.func27, Tryz.ntmps27
    go_wp2
    go_ret
    exact ⟨rfl, rfl⟩
  go_enter Tryz.func27, Tryz.ntmps27
  go_wp2
  go_ret
  exact ⟨ret_str (by simp [kindName, h1, h2, h3, h4, h5, h6]), rfl⟩

def dimName (t : Int) : List UInt8 := if t = 1 then [90] else if t = 2 then [77] else if t = 3 then [90, 77] else []
theorem c28 (t : Int) (w : World) : Calls Tryz.prog 28 #[.int .i64 t] w fun e w' => e = .returned (str (dimName t)) ∧ w = w' := by
  by_cases h1 : t = 1
  · subst h1
    go_enter Tryz.func28, Tryz.ntmps28
    go_wp2
    go_ret
    exact ⟨rfl, rfl⟩
  by_cases h2 : t = 2
  · subst h2
    go_enter Tryz.func28, Tryz.ntmps28
    go_wp2
    go_ret
    exact ⟨rfl, rfl⟩
  by_cases h3 : t = 3
  · subst h3
    go_enter Tryz.func28, Tryz.ntmps28
    go_wp2
    go_ret
    exact ⟨rfl, rfl⟩
  go_enter Tryz.func28, Tryz.ntmps28
  go_wp2
  go_ret
  exact ⟨ret_str (by simp [dimName, h1, h2, h3]), rfl⟩

theorem c138 (t : Int) (w : World) (h0 : 0 ≤ t) (h1 : t ≤ 3) : Calls Tryz.prog 138 #[.int .u8 t] w fun e w' => e = .returned (.bool (hasZ t)) ∧ w = w' := by
  rcases four t h0 h1 with rfl | rfl | rfl | rfl
  all_goals
    go_enter Tryz.func138, Tryz.ntmps138
    go_wp2
    go_ret
    exact ⟨ret_bool (by decide), rfl⟩
theorem c148 (t : Int) (w : World) (h0 : 0 ≤ t) (h1 : t ≤ 3) : Calls Tryz.prog 148 #[.int .u8 t] w fun e w' => e = .returned (.bool (hasM t)) ∧ w = w' := by
  rcases four t h0 h1 with rfl | rfl | rfl | rfl
  all_goals
    go_enter Tryz.func148, Tryz.ntmps148
    go_wp2
    go_ret
    exact ⟨ret_bool (by decide), rfl⟩

/- Numbers: their bits, and questions that answer some bool. -/
theorem x122 (x : Nat) (w : World) : (callFunc 122 #[.float .f64 x]).run Tryz.prog w = .ok (.value (.int .u64 x)) w := by
  rw [run_callFunc_extern Tryz.func122 (by kernel_rfl) (by kernel_rfl) (by kernel_rfl) (e := Extern.MathFloatBits.float64bits) (by kernel_rfl)]; rfl
theorem x123 (n : Int) (w : World) : (callFunc 123 #[.int .u64 n]).run Tryz.prog w = .ok (.value (.float .f64 n.toNat)) w := by
  rw [run_callFunc_extern Tryz.func123 (by kernel_rfl) (by kernel_rfl) (by kernel_rfl) (e := Extern.MathFloatBits.float64frombits) (by kernel_rfl)]; rfl
theorem x310 (x : Nat) (w : World) : (callFunc 310 #[.float .f64 x]).run Tryz.prog w = .ok (.value (.int .u64 x)) w := by
  rw [run_callFunc_extern Tryz.func310 (by kernel_rfl) (by kernel_rfl) (by kernel_rfl) (e := Extern.MathFloatBits.float64bits) (by kernel_rfl)]; rfl

theorem c23 (x : Nat) (w : World) : Calls Tryz.prog 23 #[.float .f64 x] w fun e w' => ∃ b, e = .returned (.bool b) ∧ w = w' := by
  go_enter Tryz.func23, Tryz.ntmps23
  go_wp2
  go_ret
  exact ⟨_, rfl, rfl⟩
set_option maxRecDepth 100000 in
theorem c56 (x : Nat) (w : World) : Calls Tryz.prog 56 #[.float .f64 x] w fun e w' => ∃ y, e = .returned (.float .f64 y) ∧ w = w' := by
  have h1 := x122
  have h2 := x123
  go_enter Tryz.func56, Tryz.ntmps56
  go_wp2
  go_ret
  exact ⟨_, rfl, rfl⟩
set_option maxRecDepth 100000 in
theorem c24 (x : Nat) (w : World) : Calls Tryz.prog 24 #[.float .f64 x, .int .i64 0] w fun e w' => ∃ b, e = .returned (.bool b) ∧ w = w' := by
  go_enter Tryz.func24, Tryz.ntmps24
  go_wp2_with (go_at_call 56; refine (c56 _ _).mono ?_; rintro e w' ⟨y, rfl, rfl⟩)
  go_ret
  exact ⟨_, rfl, rfl⟩
set_option maxRecDepth 100000 in
theorem c10 (x : Nat) (w : World) : Calls Tryz.prog 10 #[.float .f64 x] w fun e w' => ∃ b, e = .returned (.bool b) ∧ w = w' := by
  go_enter Tryz.func10, Tryz.ntmps10
  go_wp2_with (first | (go_at_call 23; refine (c23 _ _).mono ?_; rintro e w' ⟨b, rfl, rfl⟩; cases b) | (go_at_call 24; refine (c24 _ _).mono ?_; rintro e w' ⟨b, rfl, rfl⟩))
  all_goals go_ret
  all_goals exact ⟨_, rfl, rfl⟩
end Go.Proofs.YtahnhhkbdgaidaaGreatDoor
