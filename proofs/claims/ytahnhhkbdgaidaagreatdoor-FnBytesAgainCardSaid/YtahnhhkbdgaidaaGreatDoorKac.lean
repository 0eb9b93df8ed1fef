/-
  The makers and the getters of the kinds.
  The point and the line of plain data.
-/
import Derived.Test.YtahnhhkbdgaidaaGreatDoorKab
namespace Go.Proofs.YtahnhhkbdgaidaaGreatDoor
open Go.RowKit
theorem list_at {S : Nat → Prop} {w : World} {es : List (List F)} {v : Value} (h : Rd S w (.list es) v) (sz : Nat) (hw : ∀ i (hi : i < es.length), (es[i]).length = sz) :
    ∃ a c, v = .slice a es.length c ∧ es.length ≤ 17592186044416 ∧ ∀ i (hi : i < es.length), ∃ b off, a = some ⟨b, off, none⟩ ∧ S b ∧ b < w.heap.size ∧
      ∃ x : Nat → Value, ∀ j (hj : j < (es[i]).length), w.cell? ⟨b, off + i * sz + j, none⟩ = some (x j) ∧ Rd S w (es[i][j]) (x j) := by
  obtain ⟨a, c, rfl, hm, hi⟩ := h.list_inv
  refine ⟨a, c, rfl, hm, fun i hlt => ?_⟩
  obtain ⟨b, off, sz', cell, rfl, hsz, hS, hb, hlen, hc, hr⟩ := hi i hlt
  have e : sz' = sz := (hlen i hlt).symm.trans (hw i hlt)
  subst e
  exact ⟨b, off, rfl, hS, hb, cell i, fun j hj => ⟨hc i j hlt (by rw [hlen i hlt] at hj; exact hj), hr i hlt j hj⟩⟩
theorem box_new {S : Nat → Prop} {w : World} {b : Nat} {cs : Array Value} {T t : TypeId} {fs : List F} (h : w.heap[b]? = some (.cells cs T (0, 0))) (hS : S b)
    (hr : ∀ j (hj : j < fs.length), ∃ x, cs[j]? = some x ∧ Rd S w (fs[j]) x) : Rd S w (.box t fs) (.iface t (.pointer (some ⟨b, 0, none⟩))) := by
  refine .box t b fs (fun j => cs[j]?.getD undef) hS (Array.getElem?_eq_some_iff.1 h).1 (fun j hj => ?_) (fun j hj => ?_)
  · obtain ⟨x, hx, _⟩ := hr j hj
    rw [(cells_of h).1, hx]; simp
  · obtain ⟨x, hx, r⟩ := hr j hj
    rw [hx]; simpa using r
/-- The blocks of S but the row's own. -/
def Sm (S : Nat → Prop) (v : Value) : Nat → Prop := fun k => S k ∧ some k ≠ v.ownBlock
/-- A row of structs that the call builds: its cells are the call's own, from block B on; what they lead to is not written. -/
structure Row (S : Nat → Prop) (B : Nat) (w : World) (E : TypeId) (sz : Nat) (v : Value) (es : List (List F)) : Prop where
  lens : ∀ i (hi : i < es.length), (es[i]).length = sz
  own : ∃ xs, w.ownsRow B E sz v es.length xs ∧ ∀ i (hi : i < es.length) j (hj : j < (es[i]).length), ∃ x, xs[i * sz + j]? = some x ∧ Rd (Sm S v) w (es[i][j]) x
theorem Row.nil (S : Nat → Prop) (B : Nat) (w : World) (E sz : TypeId) : Row S B w E sz (.slice none 0 0) [] :=
  ⟨by simp, [], World.ownsRow_nil w B E sz, by simp⟩
theorem Row.shape {S : Nat → Prop} {B : Nat} {w : World} {E : TypeId} {sz : Nat} {v : Value} {es : List (List F)} (h : Row S B w E sz v es) : ∃ a c, v = .slice a es.length c := by
  obtain ⟨_, xs, ⟨_, h⟩, _⟩ := h
  rcases h with ⟨rfl, h0⟩ | ⟨g, cap, cur, rfl, _⟩
  · exact ⟨none, 0, by rw [h0]⟩
  · exact ⟨_, cap, rfl⟩
theorem Row.lt {S : Nat → Prop} {B : Nat} {w : World} {E : TypeId} {sz : Nat} {v : Value} {es : List (List F)} (h : Row S B w E sz v es) : ∀ k, v.ownBlock = some k → B ≤ k ∧ k < w.heap.size := by
  obtain ⟨_, xs, h, _⟩ := h
  exact h.lt
/-- The row lasts while its own block and the blocks of S are left alone. -/
theorem Row.step {S : Nat → Prop} {B : Nat} {w w' : World} {E : TypeId} {sz : Nat} {v : Value} {es : List (List F)} (h : Row S B w E sz v es) (hk : Below w.heap.size w w') : Row S B w' E sz v es := by
  obtain ⟨hl, xs, ho, hr⟩ := h
  have hg : w.grownBy w' none := ⟨hk.os, hk.tape, hk.output, hk.size, fun k hk' _ => hk.block k hk'⟩
  exact ⟨hl, xs, ho.kept hg (by cases hv : v.ownBlock <;> simp), fun i hi j hj => let ⟨x, hx, r⟩ := hr i hi j hj; ⟨x, hx, r.blw hk⟩⟩
theorem Row.alloc {S : Nat → Prop} {B : Nat} {w : World} {E : TypeId} {sz : Nat} {v : Value} {es : List (List F)} (h : Row S B w E sz v es) (o : Obj) : Row S B (w.alloc o) E sz v es :=
  h.step ((Below.refl _ _).alloc (Nat.le_refl _) _)
/-- The row as data. -/
theorem Row.rd {S : Nat → Prop} {B : Nat} {w : World} {E : TypeId} {sz : Nat} {v : Value} {es : List (List F)} (h : Row S B w E sz v es) (hsz : 0 < sz) (hS : ∀ k, B ≤ k → S k) (hm : es.length ≤ 17592186044416) : Rd S w (.list es) v := by
  obtain ⟨hl, xs, ⟨hx, ho⟩, hr⟩ := h
  rcases ho with ⟨rfl, h0⟩ | ⟨g, cap, cur, rfl, hB, hg, hn, _, hcs, htake⟩
  · obtain rfl : es = [] := List.eq_nil_of_length_eq_zero h0
    exact .nil _ _
  · have hat : ∀ p x, xs[p]? = some x → w.cell? ⟨g, p, none⟩ = some x := fun p x hp => by
      rw [(cells_of hg).1]
      rw [← htake, List.getElem?_take] at hp
      split at hp
      · simpa using hp
      · cases hp
    refine .list es g 0 cap sz (fun i j => xs[i * sz + j]?.getD undef) hsz hm hl (hS g hB) (Array.getElem?_eq_some_iff.1 hg).1 (fun i j hi hj => ?_) (fun i hi j hj => ?_)
    · obtain ⟨x, hx, _⟩ := hr i hi j (by rw [hl i hi]; exact hj)
      rw [Nat.zero_add, hx]; exact hat _ _ hx
    · obtain ⟨x, hx, r⟩ := hr i hi j hj
      rw [hx]
      exact r.mono fun b _ hb => hb.1
theorem app_one {P : Program} (T E : TypeId) (sz bytes : Nat) (z : Value) (hT : P.underlying T = some (.slice E)) (hinfo : (P.info? E).map (fun i => (i.zero, i.size, i.bytes)) = some (some z, sz, bytes))
    (hzs : z.cells.size = sz) (hsz : 0 < sz) (hby : bytes ≤ 64) {S : Nat → Prop} {B : Nat} {w : World} {v : Value} {es : List (List F)} (hrow : Row S B w E sz v es) (fs : List F) (hfs : fs.length = sz)
    (cs : Array Value) (hcs : cs.size = sz) (h1 : ∀ x ∈ cs.toList, x.oneCell' = true) (hrd : ∀ j (hj : j < fs.length), ∃ x, cs[j]? = some x ∧ Rd (Sm S v) w (fs[j]) x)
    (hlen : es.length ≤ 1000000000) (hB : B ≤ w.heap.size) :
    ∃ v' w', (Builtin.append_ #[T, T] T #[v, .slice (some ⟨w.heap.size, 0, none⟩) 1 1]).run P (w.alloc (.cells cs E)) = .ok v' w' ∧ (∃ a c, v' = .slice a (es.length + 1) c) ∧ Row S B w' E sz v' (es ++ [fs]) ∧ w.grownBy w' v.ownBlock := by
  obtain ⟨i0, hi0, hz0, hz1, hz2⟩ := info_parts hinfo
  have hr1 := hrow.alloc (.cells cs E)
  obtain ⟨hl, xs, ho, hr⟩ := hr1
  obtain ⟨v', w', hrun, ho', hg, _, hat⟩ := run_append_own_at (P := P) (w.alloc (.cells cs E)) B T T E i0 z sz bytes hT hi0 hz0 hz1 hz2 hzs hsz v es.length xs ho
    ⟨w.heap.size, 0, none⟩ 1 1 cs.toList (by simp [hcs]) (fun j u hj => by
      rw [Addr.add_lit, World.cell?_alloc_at _ _ _ _ rfl]; simpa using hj) h1 (by simp only [maxLen]; omega)
    (Nat.le_trans (Nat.mul_le_mul (Nat.succ_le_succ hlen) hby) (by omega)) (by simp; omega)
  have hg' : w.grownBy w' v.ownBlock := ⟨hg.os, hg.tape, hg.output, Nat.le_trans (by simp) hg.size, fun k hk hne => (hg.block k (by simp; omega) hne).trans (heap_alloc_old w _ hk)⟩
  have hnew : ∀ k, k < w.heap.size → some k ≠ v.ownBlock → some k ≠ v'.ownBlock := fun k hk hne e => by
    rcases hat with h | h
    · exact hne (e.trans h)
    · rw [h] at e; simp at e; omega
  refine ⟨v', w', hrun, ?_, ⟨fun i hi => ?_, xs ++ cs.toList, by simpa using ho', fun i hi j hj => ?_⟩, hg'⟩
  · rcases ho'.2 with ⟨rfl, h0⟩ | ⟨g, cap, cur, rfl, _⟩
    · exact absurd h0 (by omega)
    · exact ⟨_, _, rfl⟩
  · by_cases h : i < es.length
    · rw [List.getElem_append_left h]; exact hl i h
    · simp at hi
      obtain rfl : i = es.length := by omega
      simpa using hfs
  · by_cases h : i < es.length
    · have e : (es ++ [fs])[i] = es[i] := List.getElem_append_left h
      simp only [e] at hj ⊢
      obtain ⟨x, hx, r⟩ := hr i h j hj
      have hp : i * sz + j < xs.length := (List.getElem?_eq_some_iff.1 hx).1
      refine ⟨x, by rw [List.getElem?_append_left hp]; exact hx, ?_⟩
      have r0 : Rd (Sm S v) w (es[i][j]) x := by
        obtain ⟨_, xs0, ho0, hr0⟩ := hrow
        obtain ⟨x0, hx0, r0⟩ := hr0 i h j hj
        have : xs0 = xs := by
          rcases ho0.2 with ⟨rfl, h0⟩ | ⟨g, cap, cur, rfl, _, hg0, _, _, _, ht0⟩
          · omega
          · rcases ho.2 with ⟨h2, _⟩ | ⟨g2, cap2, cur2, h2, _, hg2, _, _, _, ht2⟩
            · cases h2
            · simp only [Value.slice.injEq, Option.some.injEq, Addr.mk.injEq, and_true] at h2
              obtain ⟨rfl, _⟩ := h2
              rw [heap_alloc_old w _ (Array.getElem?_eq_some_iff.1 hg0).1, hg0] at hg2
              simp only [Option.some.injEq, Obj.cells.injEq] at hg2
              rw [← ht0, ← ht2, hg2.1]
        rw [this, hx] at hx0
        obtain rfl := Option.some.inj hx0
        exact r0
      exact r0.step (fun b hb hS => ⟨hg'.block b hb hS.2, hS.1, hnew b hb hS.2⟩) hg'.size
    · simp at hi
      obtain rfl : i = es.length := by omega
      have e : (es ++ [fs])[es.length] = fs := by simp
      simp only [e] at hj ⊢
      obtain ⟨x, hx, r⟩ := hrd j hj
      have hxl : xs.length = es.length * sz := ho.1
      refine ⟨x, by rw [List.getElem?_append_right (by omega), show es.length * sz + j - xs.length = j by omega]; simpa using hx, ?_⟩
      exact r.step (fun b hb hS => ⟨hg'.block b hb hS.2, hS.1, hnew b hb hS.2⟩) hg'.size
end Go.Proofs.YtahnhhkbdgaidaaGreatDoor
namespace Go.Proofs.YtahnhhkbdgaidaaGreatDoor
open Go.RowKit
theorem c85 (t : Int) (w : World) : Calls Tryz.prog 85 #[.int .u8 t] w fun e w' => e = .returned (.agg #[.float .f64 0, .float .f64 0, .float .f64 0, .float .f64 0, .int .u8 t, .bool false]) ∧ Below w.heap.size w w' := by
  have hsf := st_float
  go_enter Tryz.func85, Tryz.ntmps85
  go_wp2
  exact bodyPost_ret (v := .agg #[.float .f64 0, .float .f64 0, .float .f64 0, .float .f64 0, .int .u8 t, .bool false]) (by simp [results, Tryz.results85, go_sem]) rfl ⟨rfl, by first | exact ((Below.refl _ _).alloc (Nat.le_refl _) _) | (repeat (with_reducible first | refine Below.setCell ?_ (by simp) _ | exact ((Below.refl _ _).alloc (Nat.le_refl _) _)))⟩
theorem c86 (x y z m : Nat) (t : Int) (w : World) : Calls Tryz.prog 86 #[.agg #[.float .f64 x, .float .f64 y, .float .f64 z, .float .f64 m, .int .u8 t]] w fun e w' => e = .returned (.agg #[.float .f64 x, .float .f64 y, .float .f64 z, .float .f64 m, .int .u8 t, .bool true]) ∧ Below w.heap.size w w' := by
  have hsf := st_float
  go_enter Tryz.func86, Tryz.ntmps86
  go_wp2
  exact bodyPost_ret (v := .agg #[.float .f64 x, .float .f64 y, .float .f64 z, .float .f64 m, .int .u8 t, .bool true]) (by simp [results, Tryz.results86, go_sem]) rfl ⟨rfl, ((Below.refl _ _).alloc (Nat.le_refl _) _).alloc (by simp) _⟩
theorem c89 (t : Int) (a : Option Addr) (n c : Nat) (w : World) : Calls Tryz.prog 89 #[.agg #[.int .u8 t, .slice a n c]] w fun e w' => e = .returned (.agg #[.int .u8 t, .slice a n c]) ∧ Below w.heap.size w w' := by
  go_enter Tryz.func89, Tryz.ntmps89
  go_wp2
  exact bodyPost_ret (v := .agg #[.int .u8 t, .slice a n c]) (by simp [results, Tryz.results89, go_sem]) rfl ⟨rfl, ((Below.refl _ _).alloc (Nat.le_refl _) _).alloc (by simp) _⟩
theorem c57 (x y z m : Nat) (t : Int) (f : Bool) (w : World) : Calls Tryz.prog 57 #[.agg #[.float .f64 x, .float .f64 y, .float .f64 z, .float .f64 m, .int .u8 t, .bool f]] w fun e w' => ∃ b, e = .returned (.agg #[.int .i64 1, .iface 168 (.pointer (some ⟨b, 0, none⟩))]) ∧ w.heap.size ≤ b ∧ w'.heap[b]? = some (.cells #[.float .f64 x, .float .f64 y, .float .f64 z, .float .f64 m, .int .u8 t, .bool f] 63 (0, 0)) ∧ Below w.heap.size w w' := by
  have hsf := st_float
  go_enter Tryz.func57, Tryz.ntmps57
  go_wp2
  refine bodyPost_ret (v := .agg #[.int .i64 1, .iface 168 (.pointer (some ⟨w.heap.size, 0, none⟩))]) (by simp [results, Tryz.results57, go_sem]) rfl ⟨_, rfl, Nat.le_refl _, ?_, ((Below.refl _ _).alloc (Nat.le_refl _) _).alloc (by simp) _⟩
  rw [heap_alloc_old _ _ (by simp), heap_alloc_new]
theorem c58 (t : Int) (a : Option Addr) (n c : Nat) (w : World) : Calls Tryz.prog 58 #[.agg #[.int .u8 t, .slice a n c]] w fun e w' => ∃ b, e = .returned (.agg #[.int .i64 2, .iface 169 (.pointer (some ⟨b, 0, none⟩))]) ∧ w.heap.size ≤ b ∧ w'.heap[b]? = some (.cells #[.int .u8 t, .slice a n c] 69 (0, 0)) ∧ Below w.heap.size w w' := by
  go_enter Tryz.func58, Tryz.ntmps58
  go_wp2
  refine bodyPost_ret (v := .agg #[.int .i64 2, .iface 169 (.pointer (some ⟨w.heap.size, 0, none⟩))]) (by simp [results, Tryz.results58, go_sem]) rfl ⟨_, rfl, Nat.le_refl _, ?_, ((Below.refl _ _).alloc (Nat.le_refl _) _).alloc (by simp) _⟩
  rw [heap_alloc_old _ _ (by simp), heap_alloc_new]
theorem c59 (t : Int) (a : Option Addr) (n c : Nat) (w : World) : Calls Tryz.prog 59 #[.agg #[.slice a n c, .int .u8 t]] w fun e w' => ∃ b, e = .returned (.agg #[.int .i64 3, .iface 170 (.pointer (some ⟨b, 0, none⟩))]) ∧ w.heap.size ≤ b ∧ w'.heap[b]? = some (.cells #[.slice a n c, .int .u8 t] 73 (0, 0)) ∧ Below w.heap.size w w' := by
  go_enter Tryz.func59, Tryz.ntmps59
  go_wp2
  refine bodyPost_ret (v := .agg #[.int .i64 3, .iface 170 (.pointer (some ⟨w.heap.size, 0, none⟩))]) (by simp [results, Tryz.results59, go_sem]) rfl ⟨_, rfl, Nat.le_refl _, ?_, ((Below.refl _ _).alloc (Nat.le_refl _) _).alloc (by simp) _⟩
  rw [heap_alloc_old _ _ (by simp), heap_alloc_new]
theorem c60 (t : Int) (a : Option Addr) (n c : Nat) (w : World) : Calls Tryz.prog 60 #[.agg #[.slice a n c, .int .u8 t]] w fun e w' => ∃ b, e = .returned (.agg #[.int .i64 4, .iface 171 (.pointer (some ⟨b, 0, none⟩))]) ∧ w.heap.size ≤ b ∧ w'.heap[b]? = some (.cells #[.slice a n c, .int .u8 t] 77 (0, 0)) ∧ Below w.heap.size w w' := by
  go_enter Tryz.func60, Tryz.ntmps60
  go_wp2
  refine bodyPost_ret (v := .agg #[.int .i64 4, .iface 171 (.pointer (some ⟨w.heap.size, 0, none⟩))]) (by simp [results, Tryz.results60, go_sem]) rfl ⟨_, rfl, Nat.le_refl _, ?_, ((Below.refl _ _).alloc (Nat.le_refl _) _).alloc (by simp) _⟩
  rw [heap_alloc_old _ _ (by simp), heap_alloc_new]
theorem c61 (t : Int) (a : Option Addr) (n c : Nat) (w : World) : Calls Tryz.prog 61 #[.agg #[.slice a n c, .int .u8 t]] w fun e w' => ∃ b, e = .returned (.agg #[.int .i64 5, .iface 172 (.pointer (some ⟨b, 0, none⟩))]) ∧ w.heap.size ≤ b ∧ w'.heap[b]? = some (.cells #[.slice a n c, .int .u8 t] 80 (0, 0)) ∧ Below w.heap.size w w' := by
  go_enter Tryz.func61, Tryz.ntmps61
  go_wp2
  refine bodyPost_ret (v := .agg #[.int .i64 5, .iface 172 (.pointer (some ⟨w.heap.size, 0, none⟩))]) (by simp [results, Tryz.results61, go_sem]) rfl ⟨_, rfl, Nat.le_refl _, ?_, ((Below.refl _ _).alloc (Nat.le_refl _) _).alloc (by simp) _⟩
  rw [heap_alloc_old _ _ (by simp), heap_alloc_new]
theorem c62 (t : Int) (a : Option Addr) (n c : Nat) (w : World) : Calls Tryz.prog 62 #[.agg #[.slice a n c, .int .u8 t]] w fun e w' => ∃ b, e = .returned (.agg #[.int .i64 6, .iface 173 (.pointer (some ⟨b, 0, none⟩))]) ∧ w.heap.size ≤ b ∧ w'.heap[b]? = some (.cells #[.slice a n c, .int .u8 t] 84 (0, 0)) ∧ Below w.heap.size w w' := by
  go_enter Tryz.func62, Tryz.ntmps62
  go_wp2
  refine bodyPost_ret (v := .agg #[.int .i64 6, .iface 173 (.pointer (some ⟨w.heap.size, 0, none⟩))]) (by simp [results, Tryz.results62, go_sem]) rfl ⟨_, rfl, Nat.le_refl _, ?_, ((Below.refl _ _).alloc (Nat.le_refl _) _).alloc (by simp) _⟩
  rw [heap_alloc_old _ _ (by simp), heap_alloc_new]
theorem c64 (t : Int) (a : Option Addr) (n c : Nat) (w : World) : Calls Tryz.prog 64 #[.agg #[.slice a n c, .int .u8 t]] w fun e w' => ∃ b, e = .returned (.agg #[.int .i64 0, .iface 176 (.pointer (some ⟨b, 0, none⟩))]) ∧ w.heap.size ≤ b ∧ w'.heap[b]? = some (.cells #[.slice a n c, .int .u8 t] 104 (0, 0)) ∧ Below w.heap.size w w' := by
  go_enter Tryz.func64, Tryz.ntmps64
  go_wp2
  refine bodyPost_ret (v := .agg #[.int .i64 0, .iface 176 (.pointer (some ⟨w.heap.size, 0, none⟩))]) (by simp [results, Tryz.results64, go_sem]) rfl ⟨_, rfl, Nat.le_refl _, ?_, ((Below.refl _ _).alloc (Nat.le_refl _) _).alloc (by simp) _⟩
  rw [heap_alloc_old _ _ (by simp), heap_alloc_new]
theorem c126 (k : Int) (T : TypeId) (v : Value) (w : World) : Calls Tryz.prog 126 #[.agg #[.int .i64 k, .iface T v], .int .i64 k] w fun e w' => e = .returned (.tuple #[]) ∧ Below w.heap.size w w' := by
  go_enter Tryz.func126, Tryz.ntmps126
  go_wp2
  go_end0
  exact ⟨rfl, (Below.refl _ _).alloc (Nat.le_refl _) _⟩
theorem c186 (t : Int) (a : Option Addr) (n c : Nat) (w : World) : Calls Tryz.prog 186 #[.agg #[.int .u8 t, .slice a n c]] w fun e w' => e = .returned (.int .u8 t) ∧ Below w.heap.size w w' := by
  go_enter Tryz.func186, Tryz.ntmps186
  go_wp2
  go_ret
  exact ⟨rfl, by repeat (with_reducible first | exact Below.refl _ _ | refine Below.alloc ?_ (by simp) _)⟩
theorem c139 (t : Int) (a : Option Addr) (n c : Nat) (w : World) : Calls Tryz.prog 139 #[.agg #[.int .u8 t, .slice a n c]] w fun e w' => e = .returned (.int .u8 t) ∧ Below w.heap.size w w' := by
  go_enter Tryz.func139, Tryz.ntmps139
  go_wp2
  go_ret
  exact ⟨rfl, by repeat (with_reducible first | exact Below.refl _ _ | refine Below.alloc ?_ (by simp) _)⟩
theorem c142 (x y z m : Nat) (t : Int) (f : Bool) (w : World) : Calls Tryz.prog 142 #[.agg #[.float .f64 x, .float .f64 y, .float .f64 z, .float .f64 m, .int .u8 t, .bool f]] w fun e w' => e = .returned (.int .u8 t) ∧ Below w.heap.size w w' := by
  go_enter Tryz.func142, Tryz.ntmps142
  go_wp2
  go_ret
  exact ⟨rfl, by repeat (with_reducible first | exact Below.refl _ _ | refine Below.alloc ?_ (by simp) _)⟩
theorem c145 (t : Int) (a : Option Addr) (n c : Nat) (w : World) : Calls Tryz.prog 145 #[.agg #[.slice a n c, .int .u8 t]] w fun e w' => e = .returned (.int .u8 t) ∧ Below w.heap.size w w' := by
  go_enter Tryz.func145, Tryz.ntmps145
  go_wp2
  go_ret
  exact ⟨rfl, by repeat (with_reducible first | exact Below.refl _ _ | refine Below.alloc ?_ (by simp) _)⟩
theorem c151 (t : Int) (a : Option Addr) (n c : Nat) (w : World) : Calls Tryz.prog 151 #[.agg #[.slice a n c, .int .u8 t]] w fun e w' => e = .returned (.int .u8 t) ∧ Below w.heap.size w w' := by
  go_enter Tryz.func151, Tryz.ntmps151
  go_wp2
  go_ret
  exact ⟨rfl, by repeat (with_reducible first | exact Below.refl _ _ | refine Below.alloc ?_ (by simp) _)⟩
theorem c154 (t : Int) (a : Option Addr) (n c : Nat) (w : World) : Calls Tryz.prog 154 #[.agg #[.slice a n c, .int .u8 t]] w fun e w' => e = .returned (.int .u8 t) ∧ Below w.heap.size w w' := by
  go_enter Tryz.func154, Tryz.ntmps154
  go_wp2
  go_ret
  exact ⟨rfl, by repeat (with_reducible first | exact Below.refl _ _ | refine Below.alloc ?_ (by simp) _)⟩
theorem c155 (t : Int) (a : Option Addr) (n c : Nat) (w : World) : Calls Tryz.prog 155 #[.agg #[.slice a n c, .int .u8 t]] w fun e w' => e = .returned (.int .u8 t) ∧ Below w.heap.size w w' := by
  go_enter Tryz.func155, Tryz.ntmps155
  go_wp2
  go_ret
  exact ⟨rfl, by repeat (with_reducible first | exact Below.refl _ _ | refine Below.alloc ?_ (by simp) _)⟩
theorem c156 (t : Int) (a : Option Addr) (n c : Nat) (w : World) : Calls Tryz.prog 156 #[.agg #[.slice a n c, .int .u8 t]] w fun e w' => e = .returned (.int .u8 t) ∧ Below w.heap.size w w' := by
  go_enter Tryz.func156, Tryz.ntmps156
  go_wp2
  go_ret
  exact ⟨rfl, by repeat (with_reducible first | exact Below.refl _ _ | refine Below.alloc ?_ (by simp) _)⟩
end Go.Proofs.YtahnhhkbdgaidaaGreatDoor
namespace Go.Proofs.YtahnhhkbdgaidaaGreatDoor
open Go.RowKit
/-- A line: its type of coordinates and its numbers. -/
structure Ln where
  t : Int
  xs : List Nat
def Ln.fs (l : Ln) : List F := [.atom (.int .u8 l.t), fl l.xs]
/-- A point: its place, and whether it is full. -/
structure Pt where
  c : Crd
  full : Bool
def Pt.fs (p : Pt) : List F := [.atom (.float .f64 p.c.x), .atom (.float .f64 p.c.y), .atom (.float .f64 p.c.z), .atom (.float .f64 p.c.m), .atom (.int .u8 p.c.t), .atom (.bool p.full)]
def Pt.cells (p : Pt) : Array Value := #[.float .f64 p.c.x, .float .f64 p.c.y, .float .f64 p.c.z, .float .f64 p.c.m, .int .u8 p.c.t, .bool p.full]
def lineOf (k d : Int) (ns : List Nat) : Ln := if k = 2 then ⟨d % 4, seqX (d % 4) ns⟩ else ⟨d % 4, []⟩
def emptyPt (t : Int) : Pt := ⟨⟨0, 0, 0, 0, t⟩, false⟩
def pointOf (k d : Int) (ns : List Nat) : Pt := if k = 1 ∧ 0 < (seqX (d % 4) ns).length / dN (d % 4) then ⟨crdOf (d % 4) (seqX (d % 4) ns) 0, true⟩ else emptyPt (d % 4)
theorem nb2 (w : World) (o o' : Obj) : ((w.alloc o).alloc o').heap[w.heap.size + 1]? = some o' := by simpa using heap_alloc_new (w.alloc o) o'
theorem bl_a1 (w : World) (o : Obj) : Below w.heap.size w (w.alloc o) := (Below.refl _ _).alloc (Nat.le_refl _) _
theorem bl_a2 (w : World) (o o' : Obj) : Below w.heap.size w ((w.alloc o).alloc o') := ((Below.refl _ _).alloc (Nat.le_refl _) _).alloc (by simp) _
/-- All of S but one block. -/
def Ex (S : Nat → Prop) (L : Nat) : Nat → Prop := fun k => S k ∧ k ≠ L
theorem Rd.ex {S : Nat → Prop} {w : World} {f : F} {v : Value} (h : Rd S w f v) {L : Nat} (hL : w.heap.size ≤ L) : Rd (Ex S L) w f v := h.mono fun _ hb hS => ⟨hS, by omega⟩
theorem Rd.unex {S : Nat → Prop} {L : Nat} {w : World} {f : F} {v : Value} (h : Rd (Ex S L) w f v) : Rd S w f v := h.mono fun _ _ hS => hS.1
theorem Rd.set {S : Nat → Prop} {L : Nat} {w : World} {f : F} {v : Value} (h : Rd (Ex S L) w f v) (o : Nat) (x : Value) : Rd (Ex S L) (w.setCell ⟨L, o, none⟩ x) f v := h.setCell (fun hs => hs.2 rfl) x
theorem Ex.up {S : Nat → Prop} {n L m : Nat} (hS : ∀ b, n ≤ b → S b) (hn : n ≤ m) (hL : L < m) : ∀ b, m ≤ b → Ex S L b := fun b hb => ⟨hS b (by omega), by omega⟩
theorem c37 (S : Nat → Prop) (k d : Int) (ns : List Nat) (vn : Value) (ak : Option Addr) (lk ck : Nat) (w : World) (hS : ∀ b, w.heap.size ≤ b → S b) (h : Rd S w (fl ns) vn) :
    Calls Tryz.prog 37 #[.agg #[.int .i64 k, .int .i64 d, vn, .slice ak lk ck]] w fun e w' => ∃ a c, e = .returned (.agg #[.int .u8 (lineOf k d ns).t, .slice a (lineOf k d ns).xs.length c]) ∧ Rd S w' (fl (lineOf k d ns).xs) (.slice a (lineOf k d ns).xs.length c) ∧ Below w.heap.size w w' := by
  obtain ⟨an, cn, rfl⟩ := fl_shape h
  by_cases hk : k = 2
  · subst hk
    have hdef : lineOf 2 d ns = ⟨d % 4, seqX (d % 4) ns⟩ := by simp [lineOf]
    rw [hdef]
    generalize hq : seqX (d % 4) ns = q at *
    have Hq := Lib.hid hq; clear hq hdef
    go_enter Tryz.func37, Tryz.ntmps37
    go_wp2_with fail
    refine (c83 (Ex S (w.heap.size + 1)) d ns _ _ (Ex.up hS (by simp <;> omega) (by simp <;> omega)) (((h.ex (by simp)).alloc _).alloc _)).mono ?_
    rintro e w1 ⟨a, c, rfl, hr, hb1⟩
    rw [Hq.out] at hr ⊢
    go_wp2_with fail
    refine (c89 _ _ _ _ _).mono ?_
    rintro e w2 ⟨rfl, hb2⟩
    have hs1 : w.heap.size + 2 ≤ w1.heap.size := by simpa using hb1.size
    have hL := (hb2.block (w.heap.size + 1) (by omega)).trans ((hb1.block (w.heap.size + 1) (by simp)).trans (nb2 w _ _))
    obtain ⟨kc, kf⟩ := cells_of hL
    clear hL
    go_wp2_with fail
    refine bodyPost_ret (v := .agg #[.int .u8 (d % 4), .slice a q.length c]) (by simp [results, Tryz.results37, go_sem, kc]) rfl ⟨_, _, rfl, ?_, ?_⟩
    · refine Rd.unex (L := w.heap.size + 1) ?_
      repeat (with_reducible first | refine Rd.set ?_ _ _ | exact hr.blw hb2)
    · repeat (with_reducible first | refine Below.setCell ?_ (by simp) _ | exact ((bl_a2 w _ _).trans (hb1.mono (by simp <;> omega))).trans (hb2.mono (by omega)))
  · have hdef : lineOf k d ns = ⟨d % 4, []⟩ := by simp [lineOf, hk]
    rw [hdef]
    have Hq : Hid (seqX (d % 4) [] = []) := Lib.hid (by simp [seqX])
    clear hdef
    go_enter Tryz.func37, Tryz.ntmps37
    go_wp2_with fail
    refine (c83 (Ex S (w.heap.size + 1)) d [] _ _ (Ex.up hS (by simp <;> omega) (by simp <;> omega)) (Rd.nil _ _)).mono ?_
    rintro e w1 ⟨a, c, rfl, hr, hb1⟩
    rw [Hq.out] at hr ⊢
    go_wp2_with fail
    refine (c89 _ _ _ _ _).mono ?_
    rintro e w2 ⟨rfl, hb2⟩
    have hs1 : w.heap.size + 2 ≤ w1.heap.size := by simpa using hb1.size
    have hL := (hb2.block (w.heap.size + 1) (by omega)).trans ((hb1.block (w.heap.size + 1) (by simp)).trans (nb2 w _ _))
    obtain ⟨kc, kf⟩ := cells_of hL
    clear hL
    go_wp2_with fail
    refine bodyPost_ret (v := .agg #[.int .u8 (d % 4), .slice a ([] : List Nat).length c]) (by simp [results, Tryz.results37, go_sem, kc]) rfl ⟨_, _, rfl, ?_, ?_⟩
    · refine Rd.unex (L := w.heap.size + 1) ?_
      have hz : Rd (Ex S (w.heap.size + 1)) w2 (fl []) (.slice a 0 c) := hr.blw hb2
      repeat (with_reducible first | refine Rd.set ?_ _ _ | exact hz)
    · repeat (with_reducible first | refine Below.setCell ?_ (by simp) _ | exact ((bl_a2 w _ _).trans (hb1.mono (by simp <;> omega))).trans (hb2.mono (by omega)))
/-- A block of the call's own. -/
def Lb (w : World) (b : Nat) (cs : Array Value) (T : TypeId) : Prop := w.heap[b]? = some (.cells cs T (0, 0))
theorem Lb.blw {w w' : World} {b : Nat} {cs : Array Value} {T : TypeId} (h : Lb w b cs T) (hb : Below w.heap.size w w') : Lb w' b cs T := (hb.block b (Array.getElem?_eq_some_iff.1 h).1).trans h
theorem Lb.grown {w w' : World} {b : Nat} {cs : Array Value} {T : TypeId} {row : Option Nat} (h : Lb w b cs T) (hb : w.grownBy w' row) (hne : some b ≠ row) : Lb w' b cs T := (hb.block b (Array.getElem?_eq_some_iff.1 h).1 hne).trans h
theorem Lb.use {w : World} {b : Nat} {cs : Array Value} {T : TypeId} (h : Lb w b cs T) : (∀ o, w.cell? ⟨b, o, none⟩ = cs[o]?) ∧ (∀ o, w.frozen? ⟨b, o, none⟩ = false) ∧ b < w.heap.size :=
  ⟨(cells_of h).1, (cells_of h).2, (Array.getElem?_eq_some_iff.1 h).1⟩
theorem Lb.alloc {w : World} {b : Nat} {cs : Array Value} {T : TypeId} (h : Lb w b cs T) (o : Obj) : Lb (w.alloc o) b cs T := h.blw (bl_a1 w o)
theorem Lb.new (w : World) (cs : Array Value) (T : TypeId) : Lb (w.alloc (.cells cs T)) w.heap.size cs T := heap_alloc_new w _
theorem Lb.new' (w : World) (cs : Array Value) (T : TypeId) (o : Obj) : Lb ((w.alloc (.cells cs T)).alloc o) w.heap.size cs T := (Lb.new w cs T).alloc o
theorem Lb.new2 (w : World) (o : Obj) (cs : Array Value) (T : TypeId) : Lb ((w.alloc o).alloc (.cells cs T)) (w.heap.size + 1) cs T := by simpa using Lb.new (w.alloc o) cs T
theorem c35 (S : Nat → Prop) (k d : Int) (ns : List Nat) (vn : Value) (ak : Option Addr) (lk ck : Nat) (w : World) (hS : ∀ b, w.heap.size ≤ b → S b) (h : Rd S w (fl ns) vn) :
    Calls Tryz.prog 35 #[.agg #[.int .i64 k, .int .i64 d, vn, .slice ak lk ck]] w fun e w' => e = .returned (.agg (pointOf k d ns).cells) ∧ Below w.heap.size w w' := by
  have hsf := st_float
  obtain ⟨an, cn, rfl⟩ := fl_shape h
  have h0 : 0 ≤ d % 4 := by omega
  have h1 : d % 4 ≤ 3 := by omega
  have hd := dN_bd (d % 4)
  have hsl : (seqX (d % 4) ns).length ≤ 17592186044416 := by
    obtain ⟨_, _, _, hm, _⟩ := fl_inv h
    unfold seqX; simp; omega
  have hpd : pointOf k d ns = if k = 1 ∧ 0 < (seqX (d % 4) ns).length / dN (d % 4) then ⟨crdOf (d % 4) (seqX (d % 4) ns) 0, true⟩ else emptyPt (d % 4) := rfl
  have hdiv : 0 < (seqX (d % 4) ns).length / dN (d % 4) → dN (d % 4) ≤ (seqX (d % 4) ns).length := fun hp => by
    rcases Nat.lt_or_ge (seqX (d % 4) ns).length (dN (d % 4)) with hlt | hge
    · rw [Nat.div_eq_of_lt hlt] at hp; omega
    · exact hge
  go_enter Tryz.func35, Tryz.ntmps35
  go_wp2_with fail
  refine (c83 S d ns _ _ (fun b hb => hS b (by simp at hb; omega)) ((h.alloc _).alloc _)).mono ?_
  rintro e w1 ⟨a, c, rfl, hr, hb1⟩
  have L0 := (Lb.new' w _ _ _).blw hb1
  have L1 := (Lb.new2 w _ _ _).blw hb1
  have hBw := (bl_a2 w _ _).trans (hb1.mono (by simp <;> omega))
  generalize seqX (d % 4) ns = q at *
  have Hpd := Lib.hid hpd; clear hpd
  have Hdiv := Lib.hid hdiv; clear hdiv
  clear hb1
  have HL0 := Lib.hid L0
  have HL1 := Lib.hid L1
  have HB := Lib.hid hBw
  have hs1 : w.heap.size + 1 < w1.heap.size := L1.use.2.2
  obtain ⟨k0, _, lt0⟩ := L0.use
  clear L0 L1 hBw
  by_cases hk : k = 1
  · subst hk
    go_wp2_with fail
    refine (c84 _ _ _ _ _ h0 h1 hsl).mono ?_
    rintro e w2 ⟨rfl, hb2⟩
    have HL0' := Lib.hid ((HL0.out.alloc _).blw hb2)
    have HL1' := Lib.hid ((HL1.out.alloc _).blw hb2)
    have HL2' := Lib.hid ((Lb.new w1 _ _).blw hb2)
    have hr2 := (hr.alloc _).blw hb2
    have HB' := Lib.hid ((HB.out.trans ((bl_a1 w1 _).mono (by omega))).trans (hb2.mono (by simp; omega)))
    clear hb2 k0
    by_cases hz : 0 < q.length / dN (d % 4)
    · have hz' : (((q.length / dN (d % 4) : Nat) : Int) == 0) = false := by rw [beq_eq_false_iff_ne]; omega
      have hE : pointOf 1 d ns = ⟨crdOf (d % 4) q 0, true⟩ := by rw [Hpd.out]; simp [hz]
      have HE := Lib.hid hE; clear hE
      have hdv := Hdiv.out hz
      obtain ⟨k0, _, lt0'⟩ := HL0'.out.use
      obtain ⟨k2, _, lt2'⟩ := HL2'.out.use
      have Hz := Lib.hid hz; clear hz
      go_wp2_with fail
      refine (c87 S (d % 4) q a c 0 _ h0 h1 hr2 (by omega)).mono ?_
      rintro e w3 ⟨rfl, hb3⟩
      go_wp2_with fail
      refine (c86 _ _ _ _ _ _).mono ?_
      rintro e w4 ⟨rfl, hb4⟩
      have L1' := (HL1'.out.blw hb3).blw hb4
      have HB3 := (HB'.out.trans (hb3.mono (by omega))).trans (hb4.mono (by have := hb3.size; omega))
      obtain ⟨k1, f1, lt1⟩ := L1'.use
      clear hb3 hb4 k0 k2
      go_wp2_with fail
      rw [HE.out]
      refine bodyPost_ret (v := .agg (Pt.cells ⟨crdOf (d % 4) q 0, true⟩)) (by simp [results, Tryz.results35, go_sem, k1, Pt.cells, crdOf]) rfl ⟨rfl, ?_⟩
      repeat (with_reducible first | refine Below.setCell ?_ (by simp) _ | exact HB3)
    · have hz' : (((q.length / dN (d % 4) : Nat) : Int) == 0) = true := by rw [Nat.eq_zero_of_not_pos hz]; rfl
      have hE : pointOf 1 d ns = emptyPt (d % 4) := by rw [Hpd.out]; simp [hz]
      have HE := Lib.hid hE; clear hE
      obtain ⟨k0, _, lt0'⟩ := HL0'.out.use
      clear hz
      go_wp2_with (go_at_call 49; refine (c49 _ _).mono ?_; rintro e w' ⟨rfl, rfl⟩)
      refine (c85 _ _).mono ?_
      rintro e w4 ⟨rfl, hb4⟩
      have L1' := HL1'.out.blw hb4
      have HB3 := HB'.out.trans (hb4.mono (by omega))
      obtain ⟨k1, f1, lt1⟩ := L1'.use
      clear hb4 k0
      go_wp2_with fail
      rw [HE.out]
      refine bodyPost_ret (v := .agg (Pt.cells (emptyPt (d % 4)))) (by simp [results, Tryz.results35, go_sem, k1, Pt.cells, emptyPt]) rfl ⟨rfl, ?_⟩
      repeat (with_reducible first | refine Below.setCell ?_ (by simp) _ | exact HB3)
  · have hkb : (k != 1) = true := by simpa using hk
    have hE : pointOf k d ns = emptyPt (d % 4) := by rw [Hpd.out]; simp [hk]
    have HE := Lib.hid hE; clear hE
    go_wp2_with (go_at_call 49; refine (c49 _ _).mono ?_; rintro e w' ⟨rfl, rfl⟩)
    refine (c85 _ _).mono ?_
    rintro e w4 ⟨rfl, hb4⟩
    have L1' := (HL1.out.alloc _).blw hb4
    have HB3 := (HB.out.trans ((bl_a1 w1 _).mono (by omega))).trans (hb4.mono (by simp; omega))
    obtain ⟨k1, f1, lt1⟩ := L1'.use
    clear hb4 k0
    go_wp2_with fail
    rw [HE.out]
    refine bodyPost_ret (v := .agg (Pt.cells (emptyPt (d % 4)))) (by simp [results, Tryz.results35, go_sem, k1, Pt.cells, emptyPt]) rfl ⟨rfl, ?_⟩
    repeat (with_reducible first | refine Below.setCell ?_ (by simp) _ | exact HB3)
end Go.Proofs.YtahnhhkbdgaidaaGreatDoor
