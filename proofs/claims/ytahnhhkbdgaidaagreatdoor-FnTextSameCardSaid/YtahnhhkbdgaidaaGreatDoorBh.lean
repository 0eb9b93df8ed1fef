/-
  The makers and the getters of the kinds.
-/
import Derived.Test.YtahnhhkbdgaidaaGreatDoorBg
namespace Go.Proofs.YtahnhhkbdgaidaaGreatDoor
open Go.RowKit

theorem c85 (t : Int) (w : World) : Calls Tryz.prog 85 #[.int .u8 t] w fun e w' => e = .returned (.agg #[.float .f64 0, .float .f64 0, .float .f64 0, .float .f64 0, .int .u8 t, .bool false]) ∧ Below w.heap.size w w' := by
  have hsf := st_float
  go_enter Tryz.func85, Tryz.ntmps85
  go_wp2
  exact bodyPost_ret (v := .agg #[.float .f64 0, .float .f64 0, .float .f64 0, .float .f64 0, .int .u8 t, .bool false]) (by simp [results, Tryz.results85, go_sem]) rfl ⟨rfl, by first | exact ((Below.refl _ _).alloc (Nat.le_refl _) _) | (repeat (with_reducible first | refine Below.setCell ?_ (by simp) _ | exact ((Below.refl _ _).alloc (Nat.le_refl _) _)))⟩
theorem c86 (x y z m : Nat) (t : Int) (w : World) : Calls Tryz.prog 86 #[.agg #[.float .f64 x, .float .f64 y, .float .f64 z, .float .f64 m, .int .u8 t]] w fun e w' => e = .returned (.agg #[.float .f64 x, .float .f64 y, .float .f64 z, .float .f64 m, .int .u8 t, .bool true]) ∧ Below w.heap.size w w' := by
  have hsf := st_float
  go_enter Tryz.func86, Tryz.ntmps86
  go_wp2
  exact bodyPost_ret (v := .agg #[.float .f64 x, .float .f64 y, .float .f64 z, .float .f64 m, .int .u8 t, .bool true]) (by simp [results, Tryz.results86, go_sem]) rfl ⟨rfl, ((Below.refl _ _).alloc (Nat.le_refl _) _).alloc (by simp) _⟩
theorem c89 (t : Int) (a : Option Addr) (n c : Nat) (w : World) : Calls Tryz.prog 89 #[.agg #[.int .u8 t, .slice a n c]] w fun e w' => e = .returned (.agg #[.int .u8 t, .slice a n c]) ∧ Below w.heap.size w w' := by
  go_enter Tryz.func89, Tryz.ntmps89
  go_wp2
  exact bodyPost_ret (v := .agg #[.int .u8 t, .slice a n c]) (by simp [results, Tryz.results89, go_sem]) rfl ⟨rfl, ((Below.refl _ _).alloc (Nat.le_refl _) _).alloc (by simp) _⟩
theorem c57 (x y z m : Nat) (t : Int) (f : Bool) (w : World) : Calls Tryz.prog 57 #[.agg #[.float .f64 x, .float .f64 y, .float .f64 z, .float .f64 m, .int .u8 t, .bool f]] w fun e w' => ∃ b, e = .returned (.agg #[.int .i64 1, .iface 168 (.pointer (some ⟨b, 0, none⟩))]) ∧ w.heap.size ≤ b ∧ w'.heap[b]? = some (.cells #[.float .f64 x, .float .f64 y, .float .f64 z, .float .f64 m, .int .u8 t, .bool f] 63 (0, 0)) ∧ Below w.heap.size w w' := by
  have hsf := st_float
  go_enter Tryz.func57, Tryz.ntmps57
  go_wp2
  refine bodyPost_ret (v := .agg #[.int .i64 1, .iface 168 (.pointer (some ⟨w.heap.size, 0, none⟩))]) (by simp [results, Tryz.results57, go_sem]) rfl ⟨_, rfl, Nat.le_refl _, ?_, ((Below.refl _ _).alloc (Nat.le_refl _) _).alloc (by simp) _⟩
  rw [heap_alloc_old _ _ (by simp), heap_alloc_new]
theorem c58 (t : Int) (a : Option Addr) (n c : Nat) (w : World) : Calls Tryz.prog 58 #[.agg #[.int .u8 t, .slice a n c]] w fun e w' => ∃ b, e = .returned (.agg #[.int .i64 2, .iface 169 (.pointer (some ⟨b, 0, none⟩))]) ∧ w.heap.size ≤ b ∧ w'.heap[b]? = some (.cells #[.int .u8 t, .slice a n c] 69 (0, 0)) ∧ Below w.heap.size w w' := by
  go_enter Tryz.func58, Tryz.ntmps58
  go_wp2
  refine bodyPost_ret (v := .agg #[.int .i64 2, .iface 169 (.pointer (some ⟨w.heap.size, 0, none⟩))]) (by simp [results, Tryz.results58, go_sem]) rfl ⟨_, rfl, Nat.le_refl _, ?_, ((Below.refl _ _).alloc (Nat.le_refl _) _).alloc (by simp) _⟩
  rw [heap_alloc_old _ _ (by simp), heap_alloc_new]
theorem c59 (t : Int) (a : Option Addr) (n c : Nat) (w : World) : Calls Tryz.prog 59 #[.agg #[.slice a n c, .int .u8 t]] w fun e w' => ∃ b, e = .returned (.agg #[.int .i64 3, .iface 170 (.pointer (some ⟨b, 0, none⟩))]) ∧ w.heap.size ≤ b ∧ w'.heap[b]? = some (.cells #[.slice a n c, .int .u8 t] 73 (0, 0)) ∧ Below w.heap.size w w' := by
  go_enter Tryz.func59, Tryz.ntmps59
  go_wp2
  refine bodyPost_ret (v := .agg #[.int .i64 3, .iface 170 (.pointer (some ⟨w.heap.size, 0, none⟩))]) (by simp [results, Tryz.results59, go_sem]) rfl ⟨_, rfl, Nat.le_refl _, ?_, ((Below.refl _ _).alloc (Nat.le_refl _) _).alloc (by simp) _⟩
  rw [heap_alloc_old _ _ (by simp), heap_alloc_new]
theorem c60 (t : Int) (a : Option Addr) (n c : Nat) (w : World) : Calls Tryz.prog 60 #[.agg #[.slice a n c, .int .u8 t]] w fun e w' => ∃ b, e = .returned (.agg #[.int .i64 4, .iface 171 (.pointer (some ⟨b, 0, none⟩))]) ∧ w.heap.size ≤ b ∧ w'.heap[b]? = some (.cells #[.slice a n c, .int .u8 t] 77 (0, 0)) ∧ Below w.heap.size w w' := by
  go_enter Tryz.func60, Tryz.ntmps60
  go_wp2
  refine bodyPost_ret (v := .agg #[.int .i64 4, .iface 171 (.pointer (some ⟨w.heap.size, 0, none⟩))]) (by simp [results, Tryz.results60, go_sem]) rfl ⟨_, rfl, Nat.le_refl _, ?_, ((Below.refl _ _).alloc (Nat.le_refl _) _).alloc (by simp) _⟩
  rw [heap_alloc_old _ _ (by simp), heap_alloc_new]
theorem c61 (t : Int) (a : Option Addr) (n c : Nat) (w : World) : Calls Tryz.prog 61 #[.agg #[.slice a n c, .int .u8 t]] w fun e w' => ∃ b, e = .returned (.agg #[.int .i64 5, .iface 172 (.pointer (some ⟨b, 0, none⟩))]) ∧ w.heap.size ≤ b ∧ w'.heap[b]? = some (.cells #[.slice a n c, .int .u8 t] 80 (0, 0)) ∧ Below w.heap.size w w' := by
  go_enter Tryz.func61, Tryz.ntmps61
  go_wp2
  refine bodyPost_ret (v := .agg #[.int .i64 5, .iface 172 (.pointer (some ⟨w.heap.size, 0, none⟩))]) (by simp [results, Tryz.results61, go_sem]) rfl ⟨_, rfl, Nat.le_refl _, ?_, ((Below.refl _ _).alloc (Nat.le_refl _) _).alloc (by simp) _⟩
  rw [heap_alloc_old _ _ (by simp), heap_alloc_new]
theorem c62 (t : Int) (a : Option Addr) (n c : Nat) (w : World) : Calls Tryz.prog 62 #[.agg #[.slice a n c, .int .u8 t]] w fun e w' => ∃ b, e = .returned (.agg #[.int .i64 6, .iface 173 (.pointer (some ⟨b, 0, none⟩))]) ∧ w.heap.size ≤ b ∧ w'.heap[b]? = some (.cells #[.slice a n c, .int .u8 t] 84 (0, 0)) ∧ Below w.heap.size w w' := by
  go_enter Tryz.func62, Tryz.ntmps62
  go_wp2
  refine bodyPost_ret (v := .agg #[.int .i64 6, .iface 173 (.pointer (some ⟨w.heap.size, 0, none⟩))]) (by simp [results, Tryz.results62, go_sem]) rfl ⟨_, rfl, Nat.le_refl _, ?_, ((Below.refl _ _).alloc (Nat.le_refl _) _).alloc (by simp) _⟩
  rw [heap_alloc_old _ _ (by simp), heap_alloc_new]
theorem c64 (t : Int) (a : Option Addr) (n c : Nat) (w : World) : Calls Tryz.prog 64 #[.agg #[.slice a n c, .int .u8 t]] w fun e w' => ∃ b, e = .returned (.agg #[.int .i64 0, .iface 176 (.pointer (some ⟨b, 0, none⟩))]) ∧ w.heap.size ≤ b ∧ w'.heap[b]? = some (.cells #[.slice a n c, .int .u8 t] 104 (0, 0)) ∧ Below w.heap.size w w' := by
  go_enter Tryz.func64, Tryz.ntmps64
  go_wp2
  refine bodyPost_ret (v := .agg #[.int .i64 0, .iface 176 (.pointer (some ⟨w.heap.size, 0, none⟩))]) (by simp [results, Tryz.results64, go_sem]) rfl ⟨_, rfl, Nat.le_refl _, ?_, ((Below.refl _ _).alloc (Nat.le_refl _) _).alloc (by simp) _⟩
  rw [heap_alloc_old _ _ (by simp), heap_alloc_new]
theorem c126 (k : Int) (T : TypeId) (v : Value) (w : World) : Calls Tryz.prog 126 #[.agg #[.int .i64 k, .iface T v], .int .i64 k] w fun e w' => e = .returned (.tuple #[]) ∧ Below w.heap.size w w' := by
  go_enter Tryz.func126, Tryz.ntmps126
  go_wp2
  go_end0
  exact ⟨rfl, (Below.refl _ _).alloc (Nat.le_refl _) _⟩
set_option maxRecDepth 100000 in
theorem c67 (x y z m : Nat) (t : Int) (f : Bool) (b : Nat) (w : World) (h : w.heap[b]? = some (.cells #[.float .f64 x, .float .f64 y, .float .f64 z, .float .f64 m, .int .u8 t, .bool f] 63 (0, 0))) : Calls Tryz.prog 67 #[.agg #[.int .i64 1, .iface 168 (.pointer (some ⟨b, 0, none⟩))]] w fun e w' => e = .returned (.agg #[.float .f64 x, .float .f64 y, .float .f64 z, .float .f64 m, .int .u8 t, .bool f]) ∧ Below w.heap.size w w' := by
  have hb : b < w.heap.size := (Array.getElem?_eq_some_iff.1 h).1
  have hsf := st_float
  have hta : ∀ (p : Option Addr) (w : World), (Instr.typeAssert (.iface 168 (.pointer p)) 20 168 false).run Tryz.prog w = .ok (.pointer p) w := fun _ _ => by kernel_rfl
  go_enter Tryz.func67, Tryz.ntmps67
  go_wp2_with fail
  refine (c126 _ _ _ _).mono ?_
  rintro e w1 ⟨rfl, hb1⟩
  have h1 : w1.heap[b]? = some (.cells #[.float .f64 x, .float .f64 y, .float .f64 z, .float .f64 m, .int .u8 t, .bool f] 63 (0, 0)) := (hb1.block b (by simp <;> omega)).trans (by rw [heap_alloc_old _ _ (by simp <;> omega), heap_alloc_old _ _ hb]; exact h)
  have h2 : w1.heap[w.heap.size]? = some (.cells #[.int .i64 1, .iface 168 (.pointer (some ⟨b, 0, none⟩))] 47 (0, 0)) := (hb1.block w.heap.size (by simp <;> omega)).trans (by rw [heap_alloc_old _ _ (by simp), heap_alloc_new])
  have h3 : w1.heap[w.heap.size + 1]? = some (.cells #[.float .f64 0, .float .f64 0, .float .f64 0, .float .f64 0, .int .u8 0, .bool false] 63 (0, 0)) := (hb1.block (w.heap.size + 1) (by simp <;> omega)).trans (by simpa using heap_alloc_new (w.alloc (.cells #[.int .i64 1, .iface 168 (.pointer (some ⟨b, 0, none⟩))] 47)) (.cells #[.float .f64 0, .float .f64 0, .float .f64 0, .float .f64 0, .int .u8 0, .bool false] 63))
  obtain ⟨k1, _⟩ := cells_of h1
  obtain ⟨k2, _⟩ := cells_of h2
  obtain ⟨k3, f3⟩ := cells_of h3
  clear h h1 h2 h3
  go_wp2_with fail
  refine bodyPost_ret (v := .agg #[.float .f64 x, .float .f64 y, .float .f64 z, .float .f64 m, .int .u8 t, .bool f]) (by simp [results, Tryz.results67, go_sem, *]) rfl ⟨rfl, ?_⟩
  repeat (with_reducible first | refine Below.setCell ?_ (by simp) _ | exact (((Below.refl _ _).alloc (Nat.le_refl _) _).alloc (by simp) _).trans (hb1.mono (by simp <;> omega)))
set_option maxRecDepth 100000 in
theorem c69 (t : Int) (a : Option Addr) (n c : Nat) (b : Nat) (w : World) (h : w.heap[b]? = some (.cells #[.int .u8 t, .slice a n c] 69 (0, 0))) : Calls Tryz.prog 69 #[.agg #[.int .i64 2, .iface 169 (.pointer (some ⟨b, 0, none⟩))]] w fun e w' => e = .returned (.agg #[.int .u8 t, .slice a n c]) ∧ Below w.heap.size w w' := by
  have hb : b < w.heap.size := (Array.getElem?_eq_some_iff.1 h).1
  have hta : ∀ (p : Option Addr) (w : World), (Instr.typeAssert (.iface 169 (.pointer p)) 20 169 false).run Tryz.prog w = .ok (.pointer p) w := fun _ _ => by kernel_rfl
  go_enter Tryz.func69, Tryz.ntmps69
  go_wp2_with fail
  refine (c126 _ _ _ _).mono ?_
  rintro e w1 ⟨rfl, hb1⟩
  have h1 : w1.heap[b]? = some (.cells #[.int .u8 t, .slice a n c] 69 (0, 0)) := (hb1.block b (by simp <;> omega)).trans (by rw [heap_alloc_old _ _ (by simp <;> omega), heap_alloc_old _ _ hb]; exact h)
  have h2 : w1.heap[w.heap.size]? = some (.cells #[.int .i64 2, .iface 169 (.pointer (some ⟨b, 0, none⟩))] 47 (0, 0)) := (hb1.block w.heap.size (by simp <;> omega)).trans (by rw [heap_alloc_old _ _ (by simp), heap_alloc_new])
  have h3 : w1.heap[w.heap.size + 1]? = some (.cells #[.int .u8 0, .slice none 0 0] 69 (0, 0)) := (hb1.block (w.heap.size + 1) (by simp <;> omega)).trans (by simpa using heap_alloc_new (w.alloc (.cells #[.int .i64 2, .iface 169 (.pointer (some ⟨b, 0, none⟩))] 47)) (.cells #[.int .u8 0, .slice none 0 0] 69))
  obtain ⟨k1, _⟩ := cells_of h1
  obtain ⟨k2, _⟩ := cells_of h2
  obtain ⟨k3, f3⟩ := cells_of h3
  clear h h1 h2 h3
  go_wp2_with fail
  refine bodyPost_ret (v := .agg #[.int .u8 t, .slice a n c]) (by simp [results, Tryz.results69, go_sem, *]) rfl ⟨rfl, ?_⟩
  repeat (with_reducible first | refine Below.setCell ?_ (by simp) _ | exact (((Below.refl _ _).alloc (Nat.le_refl _) _).alloc (by simp) _).trans (hb1.mono (by simp <;> omega)))
set_option maxRecDepth 100000 in
theorem c71 (t : Int) (a : Option Addr) (n c : Nat) (b : Nat) (w : World) (h : w.heap[b]? = some (.cells #[.slice a n c, .int .u8 t] 73 (0, 0))) : Calls Tryz.prog 71 #[.agg #[.int .i64 3, .iface 170 (.pointer (some ⟨b, 0, none⟩))]] w fun e w' => e = .returned (.agg #[.slice a n c, .int .u8 t]) ∧ Below w.heap.size w w' := by
  have hb : b < w.heap.size := (Array.getElem?_eq_some_iff.1 h).1
  have hta : ∀ (p : Option Addr) (w : World), (Instr.typeAssert (.iface 170 (.pointer p)) 20 170 false).run Tryz.prog w = .ok (.pointer p) w := fun _ _ => by kernel_rfl
  go_enter Tryz.func71, Tryz.ntmps71
  go_wp2_with fail
  refine (c126 _ _ _ _).mono ?_
  rintro e w1 ⟨rfl, hb1⟩
  have h1 : w1.heap[b]? = some (.cells #[.slice a n c, .int .u8 t] 73 (0, 0)) := (hb1.block b (by simp <;> omega)).trans (by rw [heap_alloc_old _ _ (by simp <;> omega), heap_alloc_old _ _ hb]; exact h)
  have h2 : w1.heap[w.heap.size]? = some (.cells #[.int .i64 3, .iface 170 (.pointer (some ⟨b, 0, none⟩))] 47 (0, 0)) := (hb1.block w.heap.size (by simp <;> omega)).trans (by rw [heap_alloc_old _ _ (by simp), heap_alloc_new])
  have h3 : w1.heap[w.heap.size + 1]? = some (.cells #[.slice none 0 0, .int .u8 0] 73 (0, 0)) := (hb1.block (w.heap.size + 1) (by simp <;> omega)).trans (by simpa using heap_alloc_new (w.alloc (.cells #[.int .i64 3, .iface 170 (.pointer (some ⟨b, 0, none⟩))] 47)) (.cells #[.slice none 0 0, .int .u8 0] 73))
  obtain ⟨k1, _⟩ := cells_of h1
  obtain ⟨k2, _⟩ := cells_of h2
  obtain ⟨k3, f3⟩ := cells_of h3
  clear h h1 h2 h3
  go_wp2_with fail
  refine bodyPost_ret (v := .agg #[.slice a n c, .int .u8 t]) (by simp [results, Tryz.results71, go_sem, *]) rfl ⟨rfl, ?_⟩
  repeat (with_reducible first | refine Below.setCell ?_ (by simp) _ | exact (((Below.refl _ _).alloc (Nat.le_refl _) _).alloc (by simp) _).trans (hb1.mono (by simp <;> omega)))
set_option maxRecDepth 100000 in
theorem c73 (t : Int) (a : Option Addr) (n c : Nat) (b : Nat) (w : World) (h : w.heap[b]? = some (.cells #[.slice a n c, .int .u8 t] 77 (0, 0))) : Calls Tryz.prog 73 #[.agg #[.int .i64 4, .iface 171 (.pointer (some ⟨b, 0, none⟩))]] w fun e w' => e = .returned (.agg #[.slice a n c, .int .u8 t]) ∧ Below w.heap.size w w' := by
  have hb : b < w.heap.size := (Array.getElem?_eq_some_iff.1 h).1
  have hta : ∀ (p : Option Addr) (w : World), (Instr.typeAssert (.iface 171 (.pointer p)) 20 171 false).run Tryz.prog w = .ok (.pointer p) w := fun _ _ => by kernel_rfl
  go_enter Tryz.func73, Tryz.ntmps73
  go_wp2_with fail
  refine (c126 _ _ _ _).mono ?_
  rintro e w1 ⟨rfl, hb1⟩
  have h1 : w1.heap[b]? = some (.cells #[.slice a n c, .int .u8 t] 77 (0, 0)) := (hb1.block b (by simp <;> omega)).trans (by rw [heap_alloc_old _ _ (by simp <;> omega), heap_alloc_old _ _ hb]; exact h)
  have h2 : w1.heap[w.heap.size]? = some (.cells #[.int .i64 4, .iface 171 (.pointer (some ⟨b, 0, none⟩))] 47 (0, 0)) := (hb1.block w.heap.size (by simp <;> omega)).trans (by rw [heap_alloc_old _ _ (by simp), heap_alloc_new])
  have h3 : w1.heap[w.heap.size + 1]? = some (.cells #[.slice none 0 0, .int .u8 0] 77 (0, 0)) := (hb1.block (w.heap.size + 1) (by simp <;> omega)).trans (by simpa using heap_alloc_new (w.alloc (.cells #[.int .i64 4, .iface 171 (.pointer (some ⟨b, 0, none⟩))] 47)) (.cells #[.slice none 0 0, .int .u8 0] 77))
  obtain ⟨k1, _⟩ := cells_of h1
  obtain ⟨k2, _⟩ := cells_of h2
  obtain ⟨k3, f3⟩ := cells_of h3
  clear h h1 h2 h3
  go_wp2_with fail
  refine bodyPost_ret (v := .agg #[.slice a n c, .int .u8 t]) (by simp [results, Tryz.results73, go_sem, *]) rfl ⟨rfl, ?_⟩
  repeat (with_reducible first | refine Below.setCell ?_ (by simp) _ | exact (((Below.refl _ _).alloc (Nat.le_refl _) _).alloc (by simp) _).trans (hb1.mono (by simp <;> omega)))
set_option maxRecDepth 100000 in
theorem c75 (t : Int) (a : Option Addr) (n c : Nat) (b : Nat) (w : World) (h : w.heap[b]? = some (.cells #[.slice a n c, .int .u8 t] 80 (0, 0))) : Calls Tryz.prog 75 #[.agg #[.int .i64 5, .iface 172 (.pointer (some ⟨b, 0, none⟩))]] w fun e w' => e = .returned (.agg #[.slice a n c, .int .u8 t]) ∧ Below w.heap.size w w' := by
  have hb : b < w.heap.size := (Array.getElem?_eq_some_iff.1 h).1
  have hta : ∀ (p : Option Addr) (w : World), (Instr.typeAssert (.iface 172 (.pointer p)) 20 172 false).run Tryz.prog w = .ok (.pointer p) w := fun _ _ => by kernel_rfl
  go_enter Tryz.func75, Tryz.ntmps75
  go_wp2_with fail
  refine (c126 _ _ _ _).mono ?_
  rintro e w1 ⟨rfl, hb1⟩
  have h1 : w1.heap[b]? = some (.cells #[.slice a n c, .int .u8 t] 80 (0, 0)) := (hb1.block b (by simp <;> omega)).trans (by rw [heap_alloc_old _ _ (by simp <;> omega), heap_alloc_old _ _ hb]; exact h)
  have h2 : w1.heap[w.heap.size]? = some (.cells #[.int .i64 5, .iface 172 (.pointer (some ⟨b, 0, none⟩))] 47 (0, 0)) := (hb1.block w.heap.size (by simp <;> omega)).trans (by rw [heap_alloc_old _ _ (by simp), heap_alloc_new])
  have h3 : w1.heap[w.heap.size + 1]? = some (.cells #[.slice none 0 0, .int .u8 0] 80 (0, 0)) := (hb1.block (w.heap.size + 1) (by simp <;> omega)).trans (by simpa using heap_alloc_new (w.alloc (.cells #[.int .i64 5, .iface 172 (.pointer (some ⟨b, 0, none⟩))] 47)) (.cells #[.slice none 0 0, .int .u8 0] 80))
  obtain ⟨k1, _⟩ := cells_of h1
  obtain ⟨k2, _⟩ := cells_of h2
  obtain ⟨k3, f3⟩ := cells_of h3
  clear h h1 h2 h3
  go_wp2_with fail
  refine bodyPost_ret (v := .agg #[.slice a n c, .int .u8 t]) (by simp [results, Tryz.results75, go_sem, *]) rfl ⟨rfl, ?_⟩
  repeat (with_reducible first | refine Below.setCell ?_ (by simp) _ | exact (((Below.refl _ _).alloc (Nat.le_refl _) _).alloc (by simp) _).trans (hb1.mono (by simp <;> omega)))
set_option maxRecDepth 100000 in
theorem c77 (t : Int) (a : Option Addr) (n c : Nat) (b : Nat) (w : World) (h : w.heap[b]? = some (.cells #[.slice a n c, .int .u8 t] 84 (0, 0))) : Calls Tryz.prog 77 #[.agg #[.int .i64 6, .iface 173 (.pointer (some ⟨b, 0, none⟩))]] w fun e w' => e = .returned (.agg #[.slice a n c, .int .u8 t]) ∧ Below w.heap.size w w' := by
  have hb : b < w.heap.size := (Array.getElem?_eq_some_iff.1 h).1
  have hta : ∀ (p : Option Addr) (w : World), (Instr.typeAssert (.iface 173 (.pointer p)) 20 173 false).run Tryz.prog w = .ok (.pointer p) w := fun _ _ => by kernel_rfl
  go_enter Tryz.func77, Tryz.ntmps77
  go_wp2_with fail
  refine (c126 _ _ _ _).mono ?_
  rintro e w1 ⟨rfl, hb1⟩
  have h1 : w1.heap[b]? = some (.cells #[.slice a n c, .int .u8 t] 84 (0, 0)) := (hb1.block b (by simp <;> omega)).trans (by rw [heap_alloc_old _ _ (by simp <;> omega), heap_alloc_old _ _ hb]; exact h)
  have h2 : w1.heap[w.heap.size]? = some (.cells #[.int .i64 6, .iface 173 (.pointer (some ⟨b, 0, none⟩))] 47 (0, 0)) := (hb1.block w.heap.size (by simp <;> omega)).trans (by rw [heap_alloc_old _ _ (by simp), heap_alloc_new])
  have h3 : w1.heap[w.heap.size + 1]? = some (.cells #[.slice none 0 0, .int .u8 0] 84 (0, 0)) := (hb1.block (w.heap.size + 1) (by simp <;> omega)).trans (by simpa using heap_alloc_new (w.alloc (.cells #[.int .i64 6, .iface 173 (.pointer (some ⟨b, 0, none⟩))] 47)) (.cells #[.slice none 0 0, .int .u8 0] 84))
  obtain ⟨k1, _⟩ := cells_of h1
  obtain ⟨k2, _⟩ := cells_of h2
  obtain ⟨k3, f3⟩ := cells_of h3
  clear h h1 h2 h3
  go_wp2_with fail
  refine bodyPost_ret (v := .agg #[.slice a n c, .int .u8 t]) (by simp [results, Tryz.results77, go_sem, *]) rfl ⟨rfl, ?_⟩
  repeat (with_reducible first | refine Below.setCell ?_ (by simp) _ | exact (((Below.refl _ _).alloc (Nat.le_refl _) _).alloc (by simp) _).trans (hb1.mono (by simp <;> omega)))
set_option maxRecDepth 100000 in
theorem c65 (t : Int) (a : Option Addr) (n c : Nat) (b : Nat) (w : World) (h : w.heap[b]? = some (.cells #[.slice a n c, .int .u8 t] 104 (0, 0))) : Calls Tryz.prog 65 #[.agg #[.int .i64 0, .iface 176 (.pointer (some ⟨b, 0, none⟩))]] w fun e w' => e = .returned (.agg #[.slice a n c, .int .u8 t]) ∧ Below w.heap.size w w' := by
  have hb : b < w.heap.size := (Array.getElem?_eq_some_iff.1 h).1
  have hta : ∀ (p : Option Addr) (w : World), (Instr.typeAssert (.iface 176 (.pointer p)) 20 176 false).run Tryz.prog w = .ok (.pointer p) w := fun _ _ => by kernel_rfl
  go_enter Tryz.func65, Tryz.ntmps65
  go_wp2_with fail
  refine (c126 _ _ _ _).mono ?_
  rintro e w1 ⟨rfl, hb1⟩
  have h1 : w1.heap[b]? = some (.cells #[.slice a n c, .int .u8 t] 104 (0, 0)) := (hb1.block b (by simp <;> omega)).trans (by rw [heap_alloc_old _ _ (by simp <;> omega), heap_alloc_old _ _ hb]; exact h)
  have h2 : w1.heap[w.heap.size]? = some (.cells #[.int .i64 0, .iface 176 (.pointer (some ⟨b, 0, none⟩))] 47 (0, 0)) := (hb1.block w.heap.size (by simp <;> omega)).trans (by rw [heap_alloc_old _ _ (by simp), heap_alloc_new])
  have h3 : w1.heap[w.heap.size + 1]? = some (.cells #[.slice none 0 0, .int .u8 0] 104 (0, 0)) := (hb1.block (w.heap.size + 1) (by simp <;> omega)).trans (by simpa using heap_alloc_new (w.alloc (.cells #[.int .i64 0, .iface 176 (.pointer (some ⟨b, 0, none⟩))] 47)) (.cells #[.slice none 0 0, .int .u8 0] 104))
  obtain ⟨k1, _⟩ := cells_of h1
  obtain ⟨k2, _⟩ := cells_of h2
  obtain ⟨k3, f3⟩ := cells_of h3
  clear h h1 h2 h3
  go_wp2_with fail
  refine bodyPost_ret (v := .agg #[.slice a n c, .int .u8 t]) (by simp [results, Tryz.results65, go_sem, *]) rfl ⟨rfl, ?_⟩
  repeat (with_reducible first | refine Below.setCell ?_ (by simp) _ | exact (((Below.refl _ _).alloc (Nat.le_refl _) _).alloc (by simp) _).trans (hb1.mono (by simp <;> omega)))
theorem c186 (t : Int) (a : Option Addr) (n c : Nat) (w : World) : Calls Tryz.prog 186 #[.agg #[.int .u8 t, .slice a n c]] w fun e w' => e = .returned (.int .u8 t) ∧ Below w.heap.size w w' := by
  go_enter Tryz.func186, Tryz.ntmps186
  go_wp2
  go_ret
  exact ⟨rfl, by repeat (with_reducible first | exact Below.refl _ _ | refine Below.alloc ?_ (by simp) _)⟩
theorem c139 (t : Int) (a : Option Addr) (n c : Nat) (w : World) : Calls Tryz.prog 139 #[.agg #[.int .u8 t, .slice a n c]] w fun e w' => e = .returned (.int .u8 t) ∧ Below w.heap.size w w' := by
  go_enter Tryz.func139, Tryz.ntmps139
  go_wp2
  go_ret
  exact ⟨rfl, by repeat (with_reducible first | exact Below.refl _ _ | refine Below.alloc ?_ (by simp) _)⟩
theorem c142 (x y z m : Nat) (t : Int) (f : Bool) (w : World) : Calls Tryz.prog 142 #[.agg #[.float .f64 x, .float .f64 y, .float .f64 z, .float .f64 m, .int .u8 t, .bool f]] w fun e w' => e = .returned (.int .u8 t) ∧ Below w.heap.size w w' := by
  go_enter Tryz.func142, Tryz.ntmps142
  go_wp2
  go_ret
  exact ⟨rfl, by repeat (with_reducible first | exact Below.refl _ _ | refine Below.alloc ?_ (by simp) _)⟩
theorem c145 (t : Int) (a : Option Addr) (n c : Nat) (w : World) : Calls Tryz.prog 145 #[.agg #[.slice a n c, .int .u8 t]] w fun e w' => e = .returned (.int .u8 t) ∧ Below w.heap.size w w' := by
  go_enter Tryz.func145, Tryz.ntmps145
  go_wp2
  go_ret
  exact ⟨rfl, by repeat (with_reducible first | exact Below.refl _ _ | refine Below.alloc ?_ (by simp) _)⟩
theorem c151 (t : Int) (a : Option Addr) (n c : Nat) (w : World) : Calls Tryz.prog 151 #[.agg #[.slice a n c, .int .u8 t]] w fun e w' => e = .returned (.int .u8 t) ∧ Below w.heap.size w w' := by
  go_enter Tryz.func151, Tryz.ntmps151
  go_wp2
  go_ret
  exact ⟨rfl, by repeat (with_reducible first | exact Below.refl _ _ | refine Below.alloc ?_ (by simp) _)⟩
theorem c154 (t : Int) (a : Option Addr) (n c : Nat) (w : World) : Calls Tryz.prog 154 #[.agg #[.slice a n c, .int .u8 t]] w fun e w' => e = .returned (.int .u8 t) ∧ Below w.heap.size w w' := by
  go_enter Tryz.func154, Tryz.ntmps154
  go_wp2
  go_ret
  exact ⟨rfl, by repeat (with_reducible first | exact Below.refl _ _ | refine Below.alloc ?_ (by simp) _)⟩
theorem c155 (t : Int) (a : Option Addr) (n c : Nat) (w : World) : Calls Tryz.prog 155 #[.agg #[.slice a n c, .int .u8 t]] w fun e w' => e = .returned (.int .u8 t) ∧ Below w.heap.size w w' := by
  go_enter Tryz.func155, Tryz.ntmps155
  go_wp2
  go_ret
  exact ⟨rfl, by repeat (with_reducible first | exact Below.refl _ _ | refine Below.alloc ?_ (by simp) _)⟩
theorem c156 (t : Int) (a : Option Addr) (n c : Nat) (w : World) : Calls Tryz.prog 156 #[.agg #[.slice a n c, .int .u8 t]] w fun e w' => e = .returned (.int .u8 t) ∧ Below w.heap.size w w' := by
  go_enter Tryz.func156, Tryz.ntmps156
  go_wp2
  go_ret
  exact ⟨rfl, by repeat (with_reducible first | exact Below.refl _ _ | refine Below.alloc ?_ (by simp) _)⟩
end Go.Proofs.YtahnhhkbdgaidaaGreatDoor
