/-
  The reading of nested data in memory: fields, lists of structs, boxed structs; it lasts while blocks that it leads to are not written; rows that a call builds.
-/
import Derived.WalkKit
import Derived.Maps.AppendAt
import Derived.Deep.Draws
import Derived.Lib.Hide
namespace Go.Proofs.YtahnhhkbdgaidaaGreatDoor
open Go.RowKit

/-- One cell of data: a plain value, a slice of structs (each a list of cells), a boxed struct behind an interface value. -/
inductive F where
  | atom (v : Value)
  | list (es : List (List F))
  | box (t : TypeId) (fs : List F)

/-- The value reads as the data; every block that is read lies in S. -/
inductive Rd (S : Nat → Prop) (w : World) : F → Value → Prop
  | atom (v : Value) : Rd S w (.atom v) v
  | nil (a : Option Addr) (c : Nat) : Rd S w (.list []) (.slice a 0 c)
  | list (es : List (List F)) (b off c sz : Nat) (cell : Nat → Nat → Value) (hsz : 0 < sz) (hmax : es.length ≤ 17592186044416)
      (hlen : ∀ i (h : i < es.length), (es[i]).length = sz) (hS : S b) (hb : b < w.heap.size)
      (hc : ∀ i j, i < es.length → j < sz → w.cell? ⟨b, off + i * sz + j, none⟩ = some (cell i j))
      (hr : ∀ i (hi : i < es.length) j (hj : j < (es[i]).length), Rd S w (es[i][j]) (cell i j)) :
      Rd S w (.list es) (.slice (some ⟨b, off, none⟩) es.length c)
  | box (t : TypeId) (b : Nat) (fs : List F) (cell : Nat → Value) (hS : S b) (hb : b < w.heap.size)
      (hc : ∀ j, j < fs.length → w.cell? ⟨b, j, none⟩ = some (cell j))
      (hr : ∀ j (hj : j < fs.length), Rd S w (fs[j]) (cell j)) :
      Rd S w (.box t fs) (.iface t (.pointer (some ⟨b, 0, none⟩)))

theorem Rd.step {S S' : Nat → Prop} {w w' : World} {f : F} {v : Value} (h : Rd S w f v)
    (hk : ∀ b, b < w.heap.size → S b → w'.heap[b]? = w.heap[b]? ∧ S' b) (hs : w.heap.size ≤ w'.heap.size) : Rd S' w' f v := by
  induction h with
  | atom v => exact .atom v
  | nil a c => exact .nil a c
  | list es b off c sz cell hsz hmax hlen hS hb hc hr ih =>
    refine .list es b off c sz cell hsz hmax hlen (hk b hb hS).2 (Nat.lt_of_lt_of_le hb hs) (fun i j hi hj => ?_) ih
    rw [World.cell?_of_block (hk b hb hS).1]
    exact hc i j hi hj
  | box t b fs cell hS hb hc hr ih =>
    refine .box t b fs cell (hk b hb hS).2 (Nat.lt_of_lt_of_le hb hs) (fun j hj => ?_) ih
    rw [World.cell?_of_block (hk b hb hS).1]
    exact hc j hj

theorem Rd.mono {S S' : Nat → Prop} {w : World} {f : F} {v : Value} (h : Rd S w f v) (hk : ∀ b, b < w.heap.size → S b → S' b) : Rd S' w f v :=
  h.step (fun b hb hS => ⟨rfl, hk b hb hS⟩) (Nat.le_refl _)
theorem Rd.blw {S : Nat → Prop} {w w' : World} {f : F} {v : Value} (h : Rd S w f v) (hk : Below w.heap.size w w') : Rd S w' f v :=
  h.step (fun b hb hS => ⟨hk.block b hb, hS⟩) hk.size
theorem Rd.grown {S : Nat → Prop} {w w' : World} {row : Option Nat} {f : F} {v : Value} (h : Rd S w f v) (hk : w.grownBy w' row) (hne : ∀ b, S b → some b ≠ row) : Rd S w' f v :=
  h.step (fun b hb hS => ⟨hk.block b hb (hne b hS), hS⟩) hk.size
theorem Rd.alloc {S : Nat → Prop} {w : World} {f : F} {v : Value} (h : Rd S w f v) (o : Obj) : Rd S (w.alloc o) f v :=
  h.blw ((Below.refl _ _).alloc (Nat.le_refl _) o)
theorem Rd.setCell {S : Nat → Prop} {w : World} {f : F} {v : Value} (h : Rd S w f v) {p : Addr} (hp : ¬ S p.block) (x : Value) : Rd S (w.setCell p x) f v :=
  h.step (fun b _ hS => ⟨Below.heap_setCell w p x b (fun e => hp (e ▸ hS)), hS⟩) (by simp [World.setCell])
theorem Rd.drew {S : Nat → Prop} {w : World} {f : F} {v : Value} (h : Rd S w f v) : Rd S w.drew f v := h.step (fun _ _ hS => ⟨rfl, hS⟩) (Nat.le_refl _)
theorem Rd.drewN {S : Nat → Prop} {w : World} {f : F} {v : Value} (h : Rd S w f v) (n : Nat) : Rd S (w.drewN n) f v := h.step (fun _ _ hS => ⟨rfl, hS⟩) (Nat.le_refl _)

theorem Rd.atom_inv {S : Nat → Prop} {w : World} {x v : Value} (h : Rd S w (.atom x) v) : v = x := by cases h; rfl
theorem Rd.list_inv {S : Nat → Prop} {w : World} {es : List (List F)} {v : Value} (h : Rd S w (.list es) v) : ∃ a c, v = .slice a es.length c ∧ es.length ≤ 17592186044416 ∧
    ∀ i, i < es.length → ∃ b off sz, ∃ cell : Nat → Nat → Value, a = some ⟨b, off, none⟩ ∧ 0 < sz ∧ S b ∧ b < w.heap.size ∧ (∀ i (h : i < es.length), (es[i]).length = sz) ∧
      (∀ i j, i < es.length → j < sz → w.cell? ⟨b, off + i * sz + j, none⟩ = some (cell i j)) ∧ (∀ i (hi : i < es.length) j (hj : j < (es[i]).length), Rd S w (es[i][j]) (cell i j)) := by
  cases h with
  | nil a c => exact ⟨a, c, rfl, by simp, fun i hi => absurd hi (by simp)⟩
  | list _ b off c sz cell hsz hmax hlen hS hb hc hr => exact ⟨_, c, rfl, hmax, fun i _ => ⟨b, off, sz, cell, rfl, hsz, hS, hb, hlen, hc, hr⟩⟩
theorem Rd.box_inv {S : Nat → Prop} {w : World} {t : TypeId} {fs : List F} {v : Value} (h : Rd S w (.box t fs) v) : ∃ b, ∃ cell : Nat → Value, v = .iface t (.pointer (some ⟨b, 0, none⟩)) ∧ S b ∧ b < w.heap.size ∧
    (∀ j, j < fs.length → w.cell? ⟨b, j, none⟩ = some (cell j)) ∧ (∀ j (hj : j < fs.length), Rd S w (fs[j]) (cell j)) := by
  cases h with
  | box _ b _ cell hS hb hc hr => exact ⟨b, cell, rfl, hS, hb, hc, hr⟩

/-- The list at a nil slice, too. -/
theorem Rd.nil_nil (S : Nat → Prop) (w : World) : Rd S w (.list []) (.slice none 0 0) := .nil none 0

/-- What is known of old cells behind a step that leaves old blocks alone. -/
theorem bcell {W w1 : World} (hb : Below W.heap.size W w1) : (∀ b o, b < W.heap.size → w1.cell? ⟨b, o, none⟩ = W.cell? ⟨b, o, none⟩) ∧ (∀ b o, b < W.heap.size → w1.frozen? ⟨b, o, none⟩ = W.frozen? ⟨b, o, none⟩) :=
  ⟨fun b o h => hb.cell (p := ⟨b, o, none⟩) h, fun b o h => hb.frozen (p := ⟨b, o, none⟩) h⟩

/-- Behind boxes of the call's own. -/
theorem bl_box {n : Nat} {w W wr : World} (h : Below (w.heap.size + n) W wr) (h' : Below w.heap.size w W) : Below w.heap.size w wr := h'.trans (h.mono (Nat.le_add_right _ _))
theorem bl_box1 {w wr : World} {o : Obj} (h : Below (w.heap.size + 1) (w.alloc o) wr) : Below w.heap.size w wr := bl_box h ((Below.refl _ _).alloc (Nat.le_refl _) _)
theorem bl_box2 {w wr : World} {o o' : Obj} (h : Below (w.heap.size + 2) ((w.alloc o).alloc o') wr) : Below w.heap.size w wr := bl_box h (((Below.refl _ _).alloc (Nat.le_refl _) _).alloc (by simp) _)
theorem bl_cells {B : Nat} {W wr : World} (h : Below B W wr) : (∀ b o, b < B → wr.cell? ⟨b, o, none⟩ = W.cell? ⟨b, o, none⟩) ∧ (∀ b o, b < B → wr.frozen? ⟨b, o, none⟩ = W.frozen? ⟨b, o, none⟩) :=
  ⟨fun b o hb => h.cell (p := ⟨b, o, none⟩) hb, fun b o hb => h.frozen (p := ⟨b, o, none⟩) hb⟩
theorem bl_drewN {B : Nat} {a w : World} (h : Below B a w) (n : Nat) : Below B a (w.drewN n) := ⟨h.os, h.tape, h.output, h.size, h.block⟩
end Go.Proofs.YtahnhhkbdgaidaaGreatDoor
