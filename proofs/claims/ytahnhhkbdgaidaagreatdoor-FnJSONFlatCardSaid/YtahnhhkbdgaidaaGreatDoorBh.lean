/-
  The makers and the getters of the kinds.
-/
import Derived.Test.YtahnhhkbdgaidaaGreatDoorBf
namespace Go.Proofs.YtahnhhkbdgaidaaGreatDoor
open Go.RowKit

theorem list_at {S : Nat → Prop} {w : World} {es : List (List F)} {v : Value} (h : Rd S w (.list es) v) (sz : Nat) (hw : ∀ i (hi : i < es.length), (es[i]).length = sz) :
    ∃ a c, v = .slice a es.length c ∧ es.length ≤ 17592186044416 ∧ ∀ i (hi : i < es.length), ∃ b off, a = some ⟨b, off, none⟩ ∧ S b ∧ b < w.heap.size ∧
      ∃ x : Nat → Value, ∀ j (hj : j < (es[i]).length), w.cell? ⟨b, off + i * sz + j, none⟩ = some (x j) ∧ Rd S w (es[i][j]) (x j) := by
  obtain ⟨a, c, rfl, hm, hi⟩ := h.list_inv
  refine ⟨a, c, rfl, hm, fun i hlt => ?_⟩
  obtain ⟨b, off, sz', cell, rfl, hsz, hS, hb, hlen, hc, hr⟩ := hi i hlt
  have e : sz' = sz := (hlen i hlt).symm.trans (hw i hlt)
  subst e
  exact ⟨b, off, rfl, hS, hb, cell i, fun j hj => ⟨hc i j hlt (by rw [hlen i hlt] at hj; exact hj), hr i hlt j hj⟩⟩

theorem box_new {S : Nat → Prop} {w : World} {b : Nat} {cs : Array Value} {T t : TypeId} {fs : List F} (h : w.heap[b]? = some (.cells cs T (0, 0))) (hS : S b)
    (hr : ∀ j (hj : j < fs.length), ∃ x, cs[j]? = some x ∧ Rd S w (fs[j]) x) : Rd S w (.box t fs) (.iface t (.pointer (some ⟨b, 0, none⟩))) := by
  refine .box t b fs (fun j => cs[j]?.getD undef) hS (Array.getElem?_eq_some_iff.1 h).1 (fun j hj => ?_) (fun j hj => ?_)
  · obtain ⟨x, hx, _⟩ := hr j hj
    rw [(cells_of h).1, hx]; simp
  · obtain ⟨x, hx, r⟩ := hr j hj
    rw [hx]; simpa using r

/-- The blocks of S but the row's own. -/
def Sm (S : Nat → Prop) (v : Value) : Nat → Prop := fun k => S k ∧ some k ≠ v.ownBlock
/-- A row of structs that the call builds: its cells are the call's own, from block B on; what they lead to is not written. -/
structure Row (S : Nat → Prop) (B : Nat) (w : World) (E : TypeId) (sz : Nat) (v : Value) (es : List (List F)) : Prop where
  lens : ∀ i (hi : i < es.length), (es[i]).length = sz
  own : ∃ xs, w.ownsRow B E sz v es.length xs ∧ ∀ i (hi : i < es.length) j (hj : j < (es[i]).length), ∃ x, xs[i * sz + j]? = some x ∧ Rd (Sm S v) w (es[i][j]) x

theorem Row.nil (S : Nat → Prop) (B : Nat) (w : World) (E sz : TypeId) : Row S B w E sz (.slice none 0 0) [] :=
  ⟨by simp, [], World.ownsRow_nil w B E sz, by simp⟩
theorem Row.shape {S : Nat → Prop} {B : Nat} {w : World} {E : TypeId} {sz : Nat} {v : Value} {es : List (List F)} (h : Row S B w E sz v es) : ∃ a c, v = .slice a es.length c := by
  obtain ⟨_, xs, ⟨_, h⟩, _⟩ := h
  rcases h with ⟨rfl, h0⟩ | ⟨g, cap, cur, rfl, _⟩
  · exact ⟨none, 0, by rw [h0]⟩
  · exact ⟨_, cap, rfl⟩
theorem Row.lt {S : Nat → Prop} {B : Nat} {w : World} {E : TypeId} {sz : Nat} {v : Value} {es : List (List F)} (h : Row S B w E sz v es) : ∀ k, v.ownBlock = some k → B ≤ k ∧ k < w.heap.size := by
  obtain ⟨_, xs, h, _⟩ := h
  exact h.lt
/-- The row lasts while its own block and the blocks of S are left alone. -/
theorem Row.step {S : Nat → Prop} {B : Nat} {w w' : World} {E : TypeId} {sz : Nat} {v : Value} {es : List (List F)} (h : Row S B w E sz v es) (hk : Below w.heap.size w w') : Row S B w' E sz v es := by
  obtain ⟨hl, xs, ho, hr⟩ := h
  have hg : w.grownBy w' none := ⟨hk.os, hk.tape, hk.output, hk.size, fun k hk' _ => hk.block k hk'⟩
  exact ⟨hl, xs, ho.kept hg (by cases hv : v.ownBlock <;> simp), fun i hi j hj => let ⟨x, hx, r⟩ := hr i hi j hj; ⟨x, hx, r.blw hk⟩⟩
theorem Row.alloc {S : Nat → Prop} {B : Nat} {w : World} {E : TypeId} {sz : Nat} {v : Value} {es : List (List F)} (h : Row S B w E sz v es) (o : Obj) : Row S B (w.alloc o) E sz v es :=
  h.step ((Below.refl _ _).alloc (Nat.le_refl _) _)
/-- The row as data. -/
theorem Row.rd {S : Nat → Prop} {B : Nat} {w : World} {E : TypeId} {sz : Nat} {v : Value} {es : List (List F)} (h : Row S B w E sz v es) (hsz : 0 < sz) (hS : ∀ k, B ≤ k → S k) (hm : es.length ≤ 17592186044416) : Rd S w (.list es) v := by
  obtain ⟨hl, xs, ⟨hx, ho⟩, hr⟩ := h
  rcases ho with ⟨rfl, h0⟩ | ⟨g, cap, cur, rfl, hB, hg, hn, _, hcs, htake⟩
  · obtain rfl : es = [] := List.eq_nil_of_length_eq_zero h0
    exact .nil _ _
  · have hat : ∀ p x, xs[p]? = some x → w.cell? ⟨g, p, none⟩ = some x := fun p x hp => by
      rw [(cells_of hg).1]
      rw [← htake, List.getElem?_take] at hp
      split at hp
      · simpa using hp
      · cases hp
    refine .list es g 0 cap sz (fun i j => xs[i * sz + j]?.getD undef) hsz hm hl (hS g hB) (Array.getElem?_eq_some_iff.1 hg).1 (fun i j hi hj => ?_) (fun i hi j hj => ?_)
    · obtain ⟨x, hx, _⟩ := hr i hi j (by rw [hl i hi]; exact hj)
      rw [Nat.zero_add, hx]; exact hat _ _ hx
    · obtain ⟨x, hx, r⟩ := hr i hi j hj
      rw [hx]
      exact r.mono fun b _ hb => hb.1

theorem app_one {P : Program} (T E : TypeId) (sz bytes : Nat) (z : Value) (hT : P.underlying T = some (.slice E)) (hinfo : (P.info? E).map (fun i => (i.zero, i.size, i.bytes)) = some (some z, sz, bytes))
    (hzs : z.cells.size = sz) (hsz : 0 < sz) (hby : bytes ≤ 64) {S : Nat → Prop} {B : Nat} {w : World} {v : Value} {es : List (List F)} (hrow : Row S B w E sz v es) (fs : List F) (hfs : fs.length = sz)
    (cs : Array Value) (hcs : cs.size = sz) (h1 : ∀ x ∈ cs.toList, x.oneCell' = true) (hrd : ∀ j (hj : j < fs.length), ∃ x, cs[j]? = some x ∧ Rd (Sm S v) w (fs[j]) x)
    (hlen : es.length ≤ 1000000000) (hB : B ≤ w.heap.size) :
    ∃ v' w', (Builtin.append_ #[T, T] T #[v, .slice (some ⟨w.heap.size, 0, none⟩) 1 1]).run P (w.alloc (.cells cs E)) = .ok v' w' ∧ (∃ a c, v' = .slice a (es.length + 1) c) ∧ Row S B w' E sz v' (es ++ [fs]) ∧ w.grownBy w' v.ownBlock := by
  obtain ⟨i0, hi0, hz0, hz1, hz2⟩ := info_parts hinfo
  have hr1 := hrow.alloc (.cells cs E)
  obtain ⟨hl, xs, ho, hr⟩ := hr1
  obtain ⟨v', w', hrun, ho', hg, _, hat⟩ := run_append_own_at (P := P) (w.alloc (.cells cs E)) B T T E i0 z sz bytes hT hi0 hz0 hz1 hz2 hzs hsz v es.length xs ho
    ⟨w.heap.size, 0, none⟩ 1 1 cs.toList (by simp [hcs]) (fun j u hj => by
      rw [Addr.add_lit, World.cell?_alloc_at _ _ _ _ rfl]; simpa using hj) h1 (by simp only [maxLen]; omega)
    (Nat.le_trans (Nat.mul_le_mul (Nat.succ_le_succ hlen) hby) (by omega)) (by simp; omega)
  have hg' : w.grownBy w' v.ownBlock := ⟨hg.os, hg.tape, hg.output, Nat.le_trans (by simp) hg.size, fun k hk hne => (hg.block k (by simp; omega) hne).trans (heap_alloc_old w _ hk)⟩
  have hnew : ∀ k, k < w.heap.size → some k ≠ v.ownBlock → some k ≠ v'.ownBlock := fun k hk hne e => by
    rcases hat with h | h
    · exact hne (e.trans h)
    · rw [h] at e; simp at e; omega
  refine ⟨v', w', hrun, ?_, ⟨fun i hi => ?_, xs ++ cs.toList, by simpa using ho', fun i hi j hj => ?_⟩, hg'⟩
  · rcases ho'.2 with ⟨rfl, h0⟩ | ⟨g, cap, cur, rfl, _⟩
    · exact absurd h0 (by omega)
    · exact ⟨_, _, rfl⟩
  · by_cases h : i < es.length
    · rw [List.getElem_append_left h]; exact hl i h
    · simp at hi
      obtain rfl : i = es.length := by omega
      simpa using hfs
  · by_cases h : i < es.length
    · have e : (es ++ [fs])[i] = es[i] := List.getElem_append_left h
      simp only [e] at hj ⊢
      obtain ⟨x, hx, r⟩ := hr i h j hj
      have hp : i * sz + j < xs.length := (List.getElem?_eq_some_iff.1 hx).1
      refine ⟨x, by rw [List.getElem?_append_left hp]; exact hx, ?_⟩
      have r0 : Rd (Sm S v) w (es[i][j]) x := by
        obtain ⟨_, xs0, ho0, hr0⟩ := hrow
        obtain ⟨x0, hx0, r0⟩ := hr0 i h j hj
        have : xs0 = xs := by
          rcases ho0.2 with ⟨rfl, h0⟩ | ⟨g, cap, cur, rfl, _, hg0, _, _, _, ht0⟩
          · omega
          · rcases ho.2 with ⟨h2, _⟩ | ⟨g2, cap2, cur2, h2, _, hg2, _, _, _, ht2⟩
            · cases h2
            · simp only [Value.slice.injEq, Option.some.injEq, Addr.mk.injEq, and_true] at h2
              obtain ⟨rfl, _⟩ := h2
              rw [heap_alloc_old w _ (Array.getElem?_eq_some_iff.1 hg0).1, hg0] at hg2
              simp only [Option.some.injEq, Obj.cells.injEq] at hg2
              rw [← ht0, ← ht2, hg2.1]
        rw [this, hx] at hx0
        obtain rfl := Option.some.inj hx0
        exact r0
      exact r0.step (fun b hb hS => ⟨hg'.block b hb hS.2, hS.1, hnew b hb hS.2⟩) hg'.size
    · simp at hi
      obtain rfl : i = es.length := by omega
      have e : (es ++ [fs])[es.length] = fs := by simp
      simp only [e] at hj ⊢
      obtain ⟨x, hx, r⟩ := hrd j hj
      have hxl : xs.length = es.length * sz := ho.1
      refine ⟨x, by rw [List.getElem?_append_right (by omega), show es.length * sz + j - xs.length = j by omega]; simpa using hx, ?_⟩
      exact r.step (fun b hb hS => ⟨hg'.block b hb hS.2, hS.1, hnew b hb hS.2⟩) hg'.size
end Go.Proofs.YtahnhhkbdgaidaaGreatDoor
namespace Go.Proofs.YtahnhhkbdgaidaaGreatDoor
open Go.RowKit

theorem c85 (t : Int) (w : World) : Calls Tryz.prog 85 #[.int .u8 t] w fun e w' => e = .returned (.agg #[.float .f64 0, .float .f64 0, .float .f64 0, .float .f64 0, .int .u8 t, .bool false]) ∧ Below w.heap.size w w' := by
  have hsf := st_float
  go_enter Tryz.func85, Tryz.ntmps85
  go_wp2
  exact bodyPost_ret (v := .agg #[.float .f64 0, .float .f64 0, .float .f64 0, .float .f64 0, .int .u8 t, .bool false]) (by simp [results, Tryz.results85, go_sem]) rfl ⟨rfl, by first | exact ((Below.refl _ _).alloc (Nat.le_refl _) _) | (repeat (with_reducible first | refine Below.setCell ?_ (by simp) _ | exact ((Below.refl _ _).alloc (Nat.le_refl _) _)))⟩
theorem c86 (x y z m : Nat) (t : Int) (w : World) : Calls Tryz.prog 86 #[.agg #[.float .f64 x, .float .f64 y, .float .f64 z, .float .f64 m, .int .u8 t]] w fun e w' => e = .returned (.agg #[.float .f64 x, .float .f64 y, .float .f64 z, .float .f64 m, .int .u8 t, .bool true]) ∧ Below w.heap.size w w' := by
  have hsf := st_float
  go_enter Tryz.func86, Tryz.ntmps86
  go_wp2
  exact bodyPost_ret (v := .agg #[.float .f64 x, .float .f64 y, .float .f64 z, .float .f64 m, .int .u8 t, .bool true]) (by simp [results, Tryz.results86, go_sem]) rfl ⟨rfl, ((Below.refl _ _).alloc (Nat.le_refl _) _).alloc (by simp) _⟩
theorem c89 (t : Int) (a : Option Addr) (n c : Nat) (w : World) : Calls Tryz.prog 89 #[.agg #[.int .u8 t, .slice a n c]] w fun e w' => e = .returned (.agg #[.int .u8 t, .slice a n c]) ∧ Below w.heap.size w w' := by
  go_enter Tryz.func89, Tryz.ntmps89
  go_wp2
  exact bodyPost_ret (v := .agg #[.int .u8 t, .slice a n c]) (by simp [results, Tryz.results89, go_sem]) rfl ⟨rfl, ((Below.refl _ _).alloc (Nat.le_refl _) _).alloc (by simp) _⟩
theorem c57 (x y z m : Nat) (t : Int) (f : Bool) (w : World) : Calls Tryz.prog 57 #[.agg #[.float .f64 x, .float .f64 y, .float .f64 z, .float .f64 m, .int .u8 t, .bool f]] w fun e w' => ∃ b, e = .returned (.agg #[.int .i64 1, .iface 168 (.pointer (some ⟨b, 0, none⟩))]) ∧ w.heap.size ≤ b ∧ w'.heap[b]? = some (.cells #[.float .f64 x, .float .f64 y, .float .f64 z, .float .f64 m, .int .u8 t, .bool f] 63 (0, 0)) ∧ Below w.heap.size w w' := by
  have hsf := st_float
  go_enter Tryz.func57, Tryz.ntmps57
  go_wp2
  refine bodyPost_ret (v := .agg #[.int .i64 1, .iface 168 (.pointer (some ⟨w.heap.size, 0, none⟩))]) (by simp [results, Tryz.results57, go_sem]) rfl ⟨_, rfl, Nat.le_refl _, ?_, ((Below.refl _ _).alloc (Nat.le_refl _) _).alloc (by simp) _⟩
  rw [heap_alloc_old _ _ (by simp), heap_alloc_new]
theorem c58 (t : Int) (a : Option Addr) (n c : Nat) (w : World) : Calls Tryz.prog 58 #[.agg #[.int .u8 t, .slice a n c]] w fun e w' => ∃ b, e = .returned (.agg #[.int .i64 2, .iface 169 (.pointer (some ⟨b, 0, none⟩))]) ∧ w.heap.size ≤ b ∧ w'.heap[b]? = some (.cells #[.int .u8 t, .slice a n c] 69 (0, 0)) ∧ Below w.heap.size w w' := by
  go_enter Tryz.func58, Tryz.ntmps58
  go_wp2
  refine bodyPost_ret (v := .agg #[.int .i64 2, .iface 169 (.pointer (some ⟨w.heap.size, 0, none⟩))]) (by simp [results, Tryz.results58, go_sem]) rfl ⟨_, rfl, Nat.le_refl _, ?_, ((Below.refl _ _).alloc (Nat.le_refl _) _).alloc (by simp) _⟩
  rw [heap_alloc_old _ _ (by simp), heap_alloc_new]
theorem c59 (t : Int) (a : Option Addr) (n c : Nat) (w : World) : Calls Tryz.prog 59 #[.agg #[.slice a n c, .int .u8 t]] w fun e w' => ∃ b, e = .returned (.agg #[.int .i64 3, .iface 170 (.pointer (some ⟨b, 0, none⟩))]) ∧ w.heap.size ≤ b ∧ w'.heap[b]? = some (.cells #[.slice a n c, .int .u8 t] 73 (0, 0)) ∧ Below w.heap.size w w' := by
  go_enter Tryz.func59, Tryz.ntmps59
  go_wp2
  refine bodyPost_ret (v := .agg #[.int .i64 3, .iface 170 (.pointer (some ⟨w.heap.size, 0, none⟩))]) (by simp [results, Tryz.results59, go_sem]) rfl ⟨_, rfl, Nat.le_refl _, ?_, ((Below.refl _ _).alloc (Nat.le_refl _) _).alloc (by simp) _⟩
  rw [heap_alloc_old _ _ (by simp), heap_alloc_new]
theorem c60 (t : Int) (a : Option Addr) (n c : Nat) (w : World) : Calls Tryz.prog 60 #[.agg #[.slice a n c, .int .u8 t]] w fun e w' => ∃ b, e = .returned (.agg #[.int .i64 4, .iface 171 (.pointer (some ⟨b, 0, none⟩))]) ∧ w.heap.size ≤ b ∧ w'.heap[b]? = some (.cells #[.slice a n c, .int .u8 t] 77 (0, 0)) ∧ Below w.heap.size w w' := by
  go_enter Tryz.func60, Tryz.ntmps60
  go_wp2
  refine bodyPost_ret (v := .agg #[.int .i64 4, .iface 171 (.pointer (some ⟨w.heap.size, 0, none⟩))]) (by simp [results, Tryz.results60, go_sem]) rfl ⟨_, rfl, Nat.le_refl _, ?_, ((Below.refl _ _).alloc (Nat.le_refl _) _).alloc (by simp) _⟩
  rw [heap_alloc_old _ _ (by simp), heap_alloc_new]
theorem c61 (t : Int) (a : Option Addr) (n c : Nat) (w : World) : Calls Tryz.prog 61 #[.agg #[.slice a n c, .int .u8 t]] w fun e w' => ∃ b, e = .returned (.agg #[.int .i64 5, .iface 172 (.pointer (some ⟨b, 0, none⟩))]) ∧ w.heap.size ≤ b ∧ w'.heap[b]? = some (.cells #[.slice a n c, .int .u8 t] 80 (0, 0)) ∧ Below w.heap.size w w' := by
  go_enter Tryz.func61, Tryz.ntmps61
  go_wp2
  refine bodyPost_ret (v := .agg #[.int .i64 5, .iface 172 (.pointer (some ⟨w.heap.size, 0, none⟩))]) (by simp [results, Tryz.results61, go_sem]) rfl ⟨_, rfl, Nat.le_refl _, ?_, ((Below.refl _ _).alloc (Nat.le_refl _) _).alloc (by simp) _⟩
  rw [heap_alloc_old _ _ (by simp), heap_alloc_new]
theorem c62 (t : Int) (a : Option Addr) (n c : Nat) (w : World) : Calls Tryz.prog 62 #[.agg #[.slice a n c, .int .u8 t]] w fun e w' => ∃ b, e = .returned (.agg #[.int .i64 6, .iface 173 (.pointer (some ⟨b, 0, none⟩))]) ∧ w.heap.size ≤ b ∧ w'.heap[b]? = some (.cells #[.slice a n c, .int .u8 t] 84 (0, 0)) ∧ Below w.heap.size w w' := by
  go_enter Tryz.func62, Tryz.ntmps62
  go_wp2
  refine bodyPost_ret (v := .agg #[.int .i64 6, .iface 173 (.pointer (some ⟨w.heap.size, 0, none⟩))]) (by simp [results, Tryz.results62, go_sem]) rfl ⟨_, rfl, Nat.le_refl _, ?_, ((Below.refl _ _).alloc (Nat.le_refl _) _).alloc (by simp) _⟩
  rw [heap_alloc_old _ _ (by simp), heap_alloc_new]
theorem c64 (t : Int) (a : Option Addr) (n c : Nat) (w : World) : Calls Tryz.prog 64 #[.agg #[.slice a n c, .int .u8 t]] w fun e w' => ∃ b, e = .returned (.agg #[.int .i64 0, .iface 176 (.pointer (some ⟨b, 0, none⟩))]) ∧ w.heap.size ≤ b ∧ w'.heap[b]? = some (.cells #[.slice a n c, .int .u8 t] 104 (0, 0)) ∧ Below w.heap.size w w' := by
  go_enter Tryz.func64, Tryz.ntmps64
  go_wp2
  refine bodyPost_ret (v := .agg #[.int .i64 0, .iface 176 (.pointer (some ⟨w.heap.size, 0, none⟩))]) (by simp [results, Tryz.results64, go_sem]) rfl ⟨_, rfl, Nat.le_refl _, ?_, ((Below.refl _ _).alloc (Nat.le_refl _) _).alloc (by simp) _⟩
  rw [heap_alloc_old _ _ (by simp), heap_alloc_new]
theorem c126 (k : Int) (T : TypeId) (v : Value) (w : World) : Calls Tryz.prog 126 #[.agg #[.int .i64 k, .iface T v], .int .i64 k] w fun e w' => e = .returned (.tuple #[]) ∧ Below w.heap.size w w' := by
  go_enter Tryz.func126, Tryz.ntmps126
  go_wp2
  go_end0
  exact ⟨rfl, (Below.refl _ _).alloc (Nat.le_refl _) _⟩
set_option maxRecDepth 100000 in
theorem c67 (x y z m : Nat) (t : Int) (f : Bool) (b : Nat) (w : World) (h : w.heap[b]? = some (.cells #[.float .f64 x, .float .f64 y, .float .f64 z, .float .f64 m, .int .u8 t, .bool f] 63 (0, 0))) : Calls Tryz.prog 67 #[.agg #[.int .i64 1, .iface 168 (.pointer (some ⟨b, 0, none⟩))]] w fun e w' => e = .returned (.agg #[.float .f64 x, .float .f64 y, .float .f64 z, .float .f64 m, .int .u8 t, .bool f]) ∧ Below w.heap.size w w' := by
  have hb : b < w.heap.size := (Array.getElem?_eq_some_iff.1 h).1
  have hsf := st_float
  have hta : ∀ (p : Option Addr) (w : World), (Instr.typeAssert (.iface 168 (.pointer p)) 20 168 false).run Tryz.prog w = .ok (.pointer p) w := fun _ _ => by kernel_rfl
  go_enter Tryz.func67, Tryz.ntmps67
  go_wp2_with fail
  refine (c126 _ _ _ _).mono ?_
  rintro e w1 ⟨rfl, hb1⟩
  have h1 : w1.heap[b]? = some (.cells #[.float .f64 x, .float .f64 y, .float .f64 z, .float .f64 m, .int .u8 t, .bool f] 63 (0, 0)) := (hb1.block b (by simp <;> omega)).trans (by rw [heap_alloc_old _ _ (by simp <;> omega), heap_alloc_old _ _ hb]; exact h)
  have h2 : w1.heap[w.heap.size]? = some (.cells #[.int .i64 1, .iface 168 (.pointer (some ⟨b, 0, none⟩))] 47 (0, 0)) := (hb1.block w.heap.size (by simp <;> omega)).trans (by rw [heap_alloc_old _ _ (by simp), heap_alloc_new])
  have h3 : w1.heap[w.heap.size + 1]? = some (.cells #[.float .f64 0, .float .f64 0, .float .f64 0, .float .f64 0, .int .u8 0, .bool false] 63 (0, 0)) := (hb1.block (w.heap.size + 1) (by simp <;> omega)).trans (by simpa using heap_alloc_new (w.alloc (.cells #[.int .i64 1, .iface 168 (.pointer (some ⟨b, 0, none⟩))] 47)) (.cells #[.float .f64 0, .float .f64 0, .float .f64 0, .float .f64 0, .int .u8 0, .bool false] 63))
  obtain ⟨k1, _⟩ := cells_of h1
  obtain ⟨k2, _⟩ := cells_of h2
  obtain ⟨k3, f3⟩ := cells_of h3
  clear h h1 h2 h3
  go_wp2_with fail
  refine bodyPost_ret (v := .agg #[.float .f64 x, .float .f64 y, .float .f64 z, .float .f64 m, .int .u8 t, .bool f]) (by simp [results, Tryz.results67, go_sem, *]) rfl ⟨rfl, ?_⟩
  repeat (with_reducible first | refine Below.setCell ?_ (by simp) _ | exact (((Below.refl _ _).alloc (Nat.le_refl _) _).alloc (by simp) _).trans (hb1.mono (by simp <;> omega)))
set_option maxRecDepth 100000 in
theorem c69 (t : Int) (a : Option Addr) (n c : Nat) (b : Nat) (w : World) (h : w.heap[b]? = some (.cells #[.int .u8 t, .slice a n c] 69 (0, 0))) : Calls Tryz.prog 69 #[.agg #[.int .i64 2, .iface 169 (.pointer (some ⟨b, 0, none⟩))]] w fun e w' => e = .returned (.agg #[.int .u8 t, .slice a n c]) ∧ Below w.heap.size w w' := by
  have hb : b < w.heap.size := (Array.getElem?_eq_some_iff.1 h).1
  have hta : ∀ (p : Option Addr) (w : World), (Instr.typeAssert (.iface 169 (.pointer p)) 20 169 false).run Tryz.prog w = .ok (.pointer p) w := fun _ _ => by kernel_rfl
  go_enter Tryz.func69, Tryz.ntmps69
  go_wp2_with fail
  refine (c126 _ _ _ _).mono ?_
  rintro e w1 ⟨rfl, hb1⟩
  have h1 : w1.heap[b]? = some (.cells #[.int .u8 t, .slice a n c] 69 (0, 0)) := (hb1.block b (by simp <;> omega)).trans (by rw [heap_alloc_old _ _ (by simp <;> omega), heap_alloc_old _ _ hb]; exact h)
  have h2 : w1.heap[w.heap.size]? = some (.cells #[.int .i64 2, .iface 169 (.pointer (some ⟨b, 0, none⟩))] 47 (0, 0)) := (hb1.block w.heap.size (by simp <;> omega)).trans (by rw [heap_alloc_old _ _ (by simp), heap_alloc_new])
  have h3 : w1.heap[w.heap.size + 1]? = some (.cells #[.int .u8 0, .slice none 0 0] 69 (0, 0)) := (hb1.block (w.heap.size + 1) (by simp <;> omega)).trans (by simpa using heap_alloc_new (w.alloc (.cells #[.int .i64 2, .iface 169 (.pointer (some ⟨b, 0, none⟩))] 47)) (.cells #[.int .u8 0, .slice none 0 0] 69))
  obtain ⟨k1, _⟩ := cells_of h1
  obtain ⟨k2, _⟩ := cells_of h2
  obtain ⟨k3, f3⟩ := cells_of h3
  clear h h1 h2 h3
  go_wp2_with fail
  refine bodyPost_ret (v := .agg #[.int .u8 t, .slice a n c]) (by simp [results, Tryz.results69, go_sem, *]) rfl ⟨rfl, ?_⟩
  repeat (with_reducible first | refine Below.setCell ?_ (by simp) _ | exact (((Below.refl _ _).alloc (Nat.le_refl _) _).alloc (by simp) _).trans (hb1.mono (by simp <;> omega)))
set_option maxRecDepth 100000 in
theorem c71 (t : Int) (a : Option Addr) (n c : Nat) (b : Nat) (w : World) (h : w.heap[b]? = some (.cells #[.slice a n c, .int .u8 t] 73 (0, 0))) : Calls Tryz.prog 71 #[.agg #[.int .i64 3, .iface 170 (.pointer (some ⟨b, 0, none⟩))]] w fun e w' => e = .returned (.agg #[.slice a n c, .int .u8 t]) ∧ Below w.heap.size w w' := by
  have hb : b < w.heap.size := (Array.getElem?_eq_some_iff.1 h).1
  have hta : ∀ (p : Option Addr) (w : World), (Instr.typeAssert (.iface 170 (.pointer p)) 20 170 false).run Tryz.prog w = .ok (.pointer p) w := fun _ _ => by kernel_rfl
  go_enter Tryz.func71, Tryz.ntmps71
  go_wp2_with fail
  refine (c126 _ _ _ _).mono ?_
  rintro e w1 ⟨rfl, hb1⟩
  have h1 : w1.heap[b]? = some (.cells #[.slice a n c, .int .u8 t] 73 (0, 0)) := (hb1.block b (by simp <;> omega)).trans (by rw [heap_alloc_old _ _ (by simp <;> omega), heap_alloc_old _ _ hb]; exact h)
  have h2 : w1.heap[w.heap.size]? = some (.cells #[.int .i64 3, .iface 170 (.pointer (some ⟨b, 0, none⟩))] 47 (0, 0)) := (hb1.block w.heap.size (by simp <;> omega)).trans (by rw [heap_alloc_old _ _ (by simp), heap_alloc_new])
  have h3 : w1.heap[w.heap.size + 1]? = some (.cells #[.slice none 0 0, .int .u8 0] 73 (0, 0)) := (hb1.block (w.heap.size + 1) (by simp <;> omega)).trans (by simpa using heap_alloc_new (w.alloc (.cells #[.int .i64 3, .iface 170 (.pointer (some ⟨b, 0, none⟩))] 47)) (.cells #[.slice none 0 0, .int .u8 0] 73))
  obtain ⟨k1, _⟩ := cells_of h1
  obtain ⟨k2, _⟩ := cells_of h2
  obtain ⟨k3, f3⟩ := cells_of h3
  clear h h1 h2 h3
  go_wp2_with fail
  refine bodyPost_ret (v := .agg #[.slice a n c, .int .u8 t]) (by simp [results, Tryz.results71, go_sem, *]) rfl ⟨rfl, ?_⟩
  repeat (with_reducible first | refine Below.setCell ?_ (by simp) _ | exact (((Below.refl _ _).alloc (Nat.le_refl _) _).alloc (by simp) _).trans (hb1.mono (by simp <;> omega)))
set_option maxRecDepth 100000 in
theorem c73 (t : Int) (a : Option Addr) (n c : Nat) (b : Nat) (w : World) (h : w.heap[b]? = some (.cells #[.slice a n c, .int .u8 t] 77 (0, 0))) : Calls Tryz.prog 73 #[.agg #[.int .i64 4, .iface 171 (.pointer (some ⟨b, 0, none⟩))]] w fun e w' => e = .returned (.agg #[.slice a n c, .int .u8 t]) ∧ Below w.heap.size w w' := by
  have hb : b < w.heap.size := (Array.getElem?_eq_some_iff.1 h).1
  have hta : ∀ (p : Option Addr) (w : World), (Instr.typeAssert (.iface 171 (.pointer p)) 20 171 false).run Tryz.prog w = .ok (.pointer p) w := fun _ _ => by kernel_rfl
  go_enter Tryz.func73, Tryz.ntmps73
  go_wp2_with fail
  refine (c126 _ _ _ _).mono ?_
  rintro e w1 ⟨rfl, hb1⟩
  have h1 : w1.heap[b]? = some (.cells #[.slice a n c, .int .u8 t] 77 (0, 0)) := (hb1.block b (by simp <;> omega)).trans (by rw [heap_alloc_old _ _ (by simp <;> omega), heap_alloc_old _ _ hb]; exact h)
  have h2 : w1.heap[w.heap.size]? = some (.cells #[.int .i64 4, .iface 171 (.pointer (some ⟨b, 0, none⟩))] 47 (0, 0)) := (hb1.block w.heap.size (by simp <;> omega)).trans (by rw [heap_alloc_old _ _ (by simp), heap_alloc_new])
  have h3 : w1.heap[w.heap.size + 1]? = some (.cells #[.slice none 0 0, .int .u8 0] 77 (0, 0)) := (hb1.block (w.heap.size + 1) (by simp <;> omega)).trans (by simpa using heap_alloc_new (w.alloc (.cells #[.int .i64 4, .iface 171 (.pointer (some ⟨b, 0, none⟩))] 47)) (.cells #[.slice none 0 0, .int .u8 0] 77))
  obtain ⟨k1, _⟩ := cells_of h1
  obtain ⟨k2, _⟩ := cells_of h2
  obtain ⟨k3, f3⟩ := cells_of h3
  clear h h1 h2 h3
  go_wp2_with fail
  refine bodyPost_ret (v := .agg #[.slice a n c, .int .u8 t]) (by simp [results, Tryz.results73, go_sem, *]) rfl ⟨rfl, ?_⟩
  repeat (with_reducible first | refine Below.setCell ?_ (by simp) _ | exact (((Below.refl _ _).alloc (Nat.le_refl _) _).alloc (by simp) _).trans (hb1.mono (by simp <;> omega)))
set_option maxRecDepth 100000 in
theorem c75 (t : Int) (a : Option Addr) (n c : Nat) (b : Nat) (w : World) (h : w.heap[b]? = some (.cells #[.slice a n c, .int .u8 t] 80 (0, 0))) : Calls Tryz.prog 75 #[.agg #[.int .i64 5, .iface 172 (.pointer (some ⟨b, 0, none⟩))]] w fun e w' => e = .returned (.agg #[.slice a n c, .int .u8 t]) ∧ Below w.heap.size w w' := by
  have hb : b < w.heap.size := (Array.getElem?_eq_some_iff.1 h).1
  have hta : ∀ (p : Option Addr) (w : World), (Instr.typeAssert (.iface 172 (.pointer p)) 20 172 false).run Tryz.prog w = .ok (.pointer p) w := fun _ _ => by kernel_rfl
  go_enter Tryz.func75, Tryz.ntmps75
  go_wp2_with fail
  refine (c126 _ _ _ _).mono ?_
  rintro e w1 ⟨rfl, hb1⟩
  have h1 : w1.heap[b]? = some (.cells #[.slice a n c, .int .u8 t] 80 (0, 0)) := (hb1.block b (by simp <;> omega)).trans (by rw [heap_alloc_old _ _ (by simp <;> omega), heap_alloc_old _ _ hb]; exact h)
  have h2 : w1.heap[w.heap.size]? = some (.cells #[.int .i64 5, .iface 172 (.pointer (some ⟨b, 0, none⟩))] 47 (0, 0)) := (hb1.block w.heap.size (by simp <;> omega)).trans (by rw [heap_alloc_old _ _ (by simp), heap_alloc_new])
  have h3 : w1.heap[w.heap.size + 1]? = some (.cells #[.slice none 0 0, .int .u8 0] 80 (0, 0)) := (hb1.block (w.heap.size + 1) (by simp <;> omega)).trans (by simpa using heap_alloc_new (w.alloc (.cells #[.int .i64 5, .iface 172 (.pointer (some ⟨b, 0, none⟩))] 47)) (.cells #[.slice none 0 0, .int .u8 0] 80))
  obtain ⟨k1, _⟩ := cells_of h1
  obtain ⟨k2, _⟩ := cells_of h2
  obtain ⟨k3, f3⟩ := cells_of h3
  clear h h1 h2 h3
  go_wp2_with fail
  refine bodyPost_ret (v := .agg #[.slice a n c, .int .u8 t]) (by simp [results, Tryz.results75, go_sem, *]) rfl ⟨rfl, ?_⟩
  repeat (with_reducible first | refine Below.setCell ?_ (by simp) _ | exact (((Below.refl _ _).alloc (Nat.le_refl _) _).alloc (by simp) _).trans (hb1.mono (by simp <;> omega)))
set_option maxRecDepth 100000 in
theorem c77 (t : Int) (a : Option Addr) (n c : Nat) (b : Nat) (w : World) (h : w.heap[b]? = some (.cells #[.slice a n c, .int .u8 t] 84 (0, 0))) : Calls Tryz.prog 77 #[.agg #[.int .i64 6, .iface 173 (.pointer (some ⟨b, 0, none⟩))]] w fun e w' => e = .returned (.agg #[.slice a n c, .int .u8 t]) ∧ Below w.heap.size w w' := by
  have hb : b < w.heap.size := (Array.getElem?_eq_some_iff.1 h).1
  have hta : ∀ (p : Option Addr) (w : World), (Instr.typeAssert (.iface 173 (.pointer p)) 20 173 false).run Tryz.prog w = .ok (.pointer p) w := fun _ _ => by kernel_rfl
  go_enter Tryz.func77, Tryz.ntmps77
  go_wp2_with fail
  refine (c126 _ _ _ _).mono ?_
  rintro e w1 ⟨rfl, hb1⟩
  have h1 : w1.heap[b]? = some (.cells #[.slice a n c, .int .u8 t] 84 (0, 0)) := (hb1.block b (by simp <;> omega)).trans (by rw [heap_alloc_old _ _ (by simp <;> omega), heap_alloc_old _ _ hb]; exact h)
  have h2 : w1.heap[w.heap.size]? = some (.cells #[.int .i64 6, .iface 173 (.pointer (some ⟨b, 0, none⟩))] 47 (0, 0)) := (hb1.block w.heap.size (by simp <;> omega)).trans (by rw [heap_alloc_old _ _ (by simp), heap_alloc_new])
  have h3 : w1.heap[w.heap.size + 1]? = some (.cells #[.slice none 0 0, .int .u8 0] 84 (0, 0)) := (hb1.block (w.heap.size + 1) (by simp <;> omega)).trans (by simpa using heap_alloc_new (w.alloc (.cells #[.int .i64 6, .iface 173 (.pointer (some ⟨b, 0, none⟩))] 47)) (.cells #[.slice none 0 0, .int .u8 0] 84))
  obtain ⟨k1, _⟩ := cells_of h1
  obtain ⟨k2, _⟩ := cells_of h2
  obtain ⟨k3, f3⟩ := cells_of h3
  clear h h1 h2 h3
  go_wp2_with fail
  refine bodyPost_ret (v := .agg #[.slice a n c, .int .u8 t]) (by simp [results, Tryz.results77, go_sem, *]) rfl ⟨rfl, ?_⟩
  repeat (with_reducible first | refine Below.setCell ?_ (by simp) _ | exact (((Below.refl _ _).alloc (Nat.le_refl _) _).alloc (by simp) _).trans (hb1.mono (by simp <;> omega)))
set_option maxRecDepth 100000 in
theorem c65 (t : Int) (a : Option Addr) (n c : Nat) (b : Nat) (w : World) (h : w.heap[b]? = some (.cells #[.slice a n c, .int .u8 t] 104 (0, 0))) : Calls Tryz.prog 65 #[.agg #[.int .i64 0, .iface 176 (.pointer (some ⟨b, 0, none⟩))]] w fun e w' => e = .returned (.agg #[.slice a n c, .int .u8 t]) ∧ Below w.heap.size w w' := by
  have hb : b < w.heap.size := (Array.getElem?_eq_some_iff.1 h).1
  have hta : ∀ (p : Option Addr) (w : World), (Instr.typeAssert (.iface 176 (.pointer p)) 20 176 false).run Tryz.prog w = .ok (.pointer p) w := fun _ _ => by kernel_rfl
  go_enter Tryz.func65, Tryz.ntmps65
  go_wp2_with fail
  refine (c126 _ _ _ _).mono ?_
  rintro e w1 ⟨rfl, hb1⟩
  have h1 : w1.heap[b]? = some (.cells #[.slice a n c, .int .u8 t] 104 (0, 0)) := (hb1.block b (by simp <;> omega)).trans (by rw [heap_alloc_old _ _ (by simp <;> omega), heap_alloc_old _ _ hb]; exact h)
  have h2 : w1.heap[w.heap.size]? = some (.cells #[.int .i64 0, .iface 176 (.pointer (some ⟨b, 0, none⟩))] 47 (0, 0)) := (hb1.block w.heap.size (by simp <;> omega)).trans (by rw [heap_alloc_old _ _ (by simp), heap_alloc_new])
  have h3 : w1.heap[w.heap.size + 1]? = some (.cells #[.slice none 0 0, .int .u8 0] 104 (0, 0)) := (hb1.block (w.heap.size + 1) (by simp <;> omega)).trans (by simpa using heap_alloc_new (w.alloc (.cells #[.int .i64 0, .iface 176 (.pointer (some ⟨b, 0, none⟩))] 47)) (.cells #[.slice none 0 0, .int .u8 0] 104))
  obtain ⟨k1, _⟩ := cells_of h1
  obtain ⟨k2, _⟩ := cells_of h2
  obtain ⟨k3, f3⟩ := cells_of h3
  clear h h1 h2 h3
  go_wp2_with fail
  refine bodyPost_ret (v := .agg #[.slice a n c, .int .u8 t]) (by simp [results, Tryz.results65, go_sem, *]) rfl ⟨rfl, ?_⟩
  repeat (with_reducible first | refine Below.setCell ?_ (by simp) _ | exact (((Below.refl _ _).alloc (Nat.le_refl _) _).alloc (by simp) _).trans (hb1.mono (by simp <;> omega)))
theorem c186 (t : Int) (a : Option Addr) (n c : Nat) (w : World) : Calls Tryz.prog 186 #[.agg #[.int .u8 t, .slice a n c]] w fun e w' => e = .returned (.int .u8 t) ∧ Below w.heap.size w w' := by
  go_enter Tryz.func186, Tryz.ntmps186
  go_wp2
  go_ret
  exact ⟨rfl, by repeat (with_reducible first | exact Below.refl _ _ | refine Below.alloc ?_ (by simp) _)⟩
theorem c139 (t : Int) (a : Option Addr) (n c : Nat) (w : World) : Calls Tryz.prog 139 #[.agg #[.int .u8 t, .slice a n c]] w fun e w' => e = .returned (.int .u8 t) ∧ Below w.heap.size w w' := by
  go_enter Tryz.func139, Tryz.ntmps139
  go_wp2
  go_ret
  exact ⟨rfl, by repeat (with_reducible first | exact Below.refl _ _ | refine Below.alloc ?_ (by simp) _)⟩
theorem c142 (x y z m : Nat) (t : Int) (f : Bool) (w : World) : Calls Tryz.prog 142 #[.agg #[.float .f64 x, .float .f64 y, .float .f64 z, .float .f64 m, .int .u8 t, .bool f]] w fun e w' => e = .returned (.int .u8 t) ∧ Below w.heap.size w w' := by
  go_enter Tryz.func142, Tryz.ntmps142
  go_wp2
  go_ret
  exact ⟨rfl, by repeat (with_reducible first | exact Below.refl _ _ | refine Below.alloc ?_ (by simp) _)⟩
theorem c145 (t : Int) (a : Option Addr) (n c : Nat) (w : World) : Calls Tryz.prog 145 #[.agg #[.slice a n c, .int .u8 t]] w fun e w' => e = .returned (.int .u8 t) ∧ Below w.heap.size w w' := by
  go_enter Tryz.func145, Tryz.ntmps145
  go_wp2
  go_ret
  exact ⟨rfl, by repeat (with_reducible first | exact Below.refl _ _ | refine Below.alloc ?_ (by simp) _)⟩
theorem c151 (t : Int) (a : Option Addr) (n c : Nat) (w : World) : Calls Tryz.prog 151 #[.agg #[.slice a n c, .int .u8 t]] w fun e w' => e = .returned (.int .u8 t) ∧ Below w.heap.size w w' := by
  go_enter Tryz.func151, Tryz.ntmps151
  go_wp2
  go_ret
  exact ⟨rfl, by repeat (with_reducible first | exact Below.refl _ _ | refine Below.alloc ?_ (by simp) _)⟩
theorem c154 (t : Int) (a : Option Addr) (n c : Nat) (w : World) : Calls Tryz.prog 154 #[.agg #[.slice a n c, .int .u8 t]] w fun e w' => e = .returned (.int .u8 t) ∧ Below w.heap.size w w' := by
  go_enter Tryz.func154, Tryz.ntmps154
  go_wp2
  go_ret
  exact ⟨rfl, by repeat (with_reducible first | exact Below.refl _ _ | refine Below.alloc ?_ (by simp) _)⟩
theorem c155 (t : Int) (a : Option Addr) (n c : Nat) (w : World) : Calls Tryz.prog 155 #[.agg #[.slice a n c, .int .u8 t]] w fun e w' => e = .returned (.int .u8 t) ∧ Below w.heap.size w w' := by
  go_enter Tryz.func155, Tryz.ntmps155
  go_wp2
  go_ret
  exact ⟨rfl, by repeat (with_reducible first | exact Below.refl _ _ | refine Below.alloc ?_ (by simp) _)⟩
theorem c156 (t : Int) (a : Option Addr) (n c : Nat) (w : World) : Calls Tryz.prog 156 #[.agg #[.slice a n c, .int .u8 t]] w fun e w' => e = .returned (.int .u8 t) ∧ Below w.heap.size w w' := by
  go_enter Tryz.func156, Tryz.ntmps156
  go_wp2
  go_ret
  exact ⟨rfl, by repeat (with_reducible first | exact Below.refl _ _ | refine Below.alloc ?_ (by simp) _)⟩
end Go.Proofs.YtahnhhkbdgaidaaGreatDoor
