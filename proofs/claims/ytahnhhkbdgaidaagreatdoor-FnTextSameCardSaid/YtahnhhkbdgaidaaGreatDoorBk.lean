/-
  The kinds of geometries as data; a slice of structs that is filled in place.
-/
import Derived.Test.YtahnhhkbdgaidaaGreatDoorBj
namespace Go.Proofs.YtahnhhkbdgaidaaGreatDoor
open Go.RowKit

/-- A polygon: rings, a type. -/
structure Pg where
  rings : List Ln
  t : Int
def Pg.fs (p : Pg) : List F := [.list (p.rings.map Ln.fs), .atom (.int .u8 p.t)]
def Pg.force (p : Pg) (t' : Int) : Pg := ⟨p.rings.map (·.force t'), t'⟩
inductive Geo where
  | pt (p : Pt)
  | ln (l : Ln)
  | pg (p : Pg)
  | mp (ps : List Pt) (t : Int)
  | ml (ls : List Ln) (t : Int)
  | mg (ps : List Pg) (t : Int)
  | gc (gs : List Geo) (t : Int)
def Geo.kind : Geo → Int
  | .pt _ => 1 | .ln _ => 2 | .pg _ => 3 | .mp _ _ => 4 | .ml _ _ => 5 | .mg _ _ => 6 | .gc _ _ => 0
def Geo.tid : Geo → TypeId
  | .pt _ => 168 | .ln _ => 169 | .pg _ => 170 | .mp _ _ => 171 | .ml _ _ => 172 | .mg _ _ => 173 | .gc _ _ => 176
def Geo.t : Geo → Int
  | .pt p => p.c.t | .ln l => l.t | .pg p => p.t | .mp _ t => t | .ml _ t => t | .mg _ t => t | .gc _ t => t
mutual
def Geo.inner : Geo → List F
  | .pt p => p.fs
  | .ln l => l.fs
  | .pg p => p.fs
  | .mp ps t => [.list (ps.map Pt.fs), .atom (.int .u8 t)]
  | .ml ls t => [.list (ls.map Ln.fs), .atom (.int .u8 t)]
  | .mg ps t => [.list (ps.map Pg.fs), .atom (.int .u8 t)]
  | .gc gs t => [.list (Geo.fsL gs), .atom (.int .u8 t)]
def Geo.fsL : List Geo → List (List F)
  | [] => []
  | g :: r => [.atom (.int .i64 g.kind), .box g.tid g.inner] :: Geo.fsL r
end
def Geo.fs (g : Geo) : List F := [.atom (.int .i64 g.kind), .box g.tid g.inner]
theorem Geo.fsL_map : ∀ l : List Geo, Geo.fsL l = l.map Geo.fs
  | [] => by simp [Geo.fsL]
  | g :: r => by simp [Geo.fsL, Geo.fs, Geo.fsL_map r]

/-- A slice of structs that is filled in place: what stands there so far. -/
structure Fill (S : Nat → Prop) (w : World) (g : Nat) (E : TypeId) (sz n : Nat) (es : List (List F)) (cs : Array Value) : Prop where
  size : cs.size = n * sz
  blk : Lb w g cs E
  lens : ∀ i (hi : i < es.length), (es[i]).length = sz
  rd : ∀ i (hi : i < es.length) j (hj : j < (es[i]).length), ∃ x, cs[i * sz + j]? = some x ∧ Rd (Ex S g) w (es[i][j]) x
theorem Fill.blw {S : Nat → Prop} {w w' : World} {g : Nat} {E : TypeId} {sz n : Nat} {es : List (List F)} {cs : Array Value} (h : Fill S w g E sz n es cs) (hb : Below w.heap.size w w') : Fill S w' g E sz n es cs :=
  ⟨h.size, h.blk.blw hb, h.lens, fun i hi j hj => let ⟨x, hx, r⟩ := h.rd i hi j hj; ⟨x, hx, r.blw hb⟩⟩
theorem Fill.start {S : Nat → Prop} {w : World} {g : Nat} {E : TypeId} {sz n : Nat} {cs : Array Value} (hs : cs.size = n * sz) (hb : Lb w g cs E) : Fill S w g E sz n [] cs :=
  ⟨hs, hb, by simp, by simp⟩
theorem Fill.next {S : Nat → Prop} {w w' : World} {g : Nat} {E : TypeId} {sz n : Nat} {es : List (List F)} {cs cs' : Array Value} (h : Fill S w g E sz n es cs) (fs : List F) (hfs : fs.length = sz) (hs : cs'.size = n * sz) (hb : Lb w' g cs' E)
    (hkeep : ∀ b, b < w.heap.size → b ≠ g → w'.heap[b]? = w.heap[b]?) (hsz : w.heap.size ≤ w'.heap.size)
    (hold : ∀ p, p < es.length * sz → cs'[p]? = cs[p]?) (hnew : ∀ j (hj : j < fs.length), ∃ x, cs'[es.length * sz + j]? = some x ∧ Rd (Ex S g) w' (fs[j]) x) : Fill S w' g E sz n (es ++ [fs]) cs' := by
  refine ⟨hs, hb, fun i hi => ?_, fun i hi j hj => ?_⟩
  · by_cases hlt : i < es.length
    · rw [List.getElem_append_left hlt]; exact h.lens i hlt
    · simp at hi
      obtain rfl : i = es.length := by omega
      simpa using hfs
  · by_cases hlt : i < es.length
    · have e : (es ++ [fs])[i] = es[i] := List.getElem_append_left hlt
      simp only [e] at hj ⊢
      obtain ⟨x, hx, r⟩ := h.rd i hlt j hj
      have hj' : j < sz := by rw [h.lens i hlt] at hj; exact hj
      have hp : i * sz + j < es.length * sz := by
        have : (i + 1) * sz ≤ es.length * sz := Nat.mul_le_mul_right _ hlt
        rw [Nat.succ_mul] at this; omega
      exact ⟨x, (hold _ hp).trans hx, r.step (fun b hb hS => ⟨hkeep b hb hS.2, hS⟩) hsz⟩
    · simp at hi
      obtain rfl : i = es.length := by omega
      have e : (es ++ [fs])[es.length] = fs := by simp
      simp only [e] at hj ⊢
      exact hnew j hj
theorem Fill.done {S : Nat → Prop} {w : World} {g : Nat} {E : TypeId} {sz n : Nat} {es : List (List F)} {cs : Array Value} (h : Fill S w g E sz n es cs) (c : Nat) (hsz : 0 < sz) (hn : es.length = n) (hS : S g) (hm : n ≤ 17592186044416) : Rd S w (.list es) (.slice (some ⟨g, 0, none⟩) n c) := by
  subst hn
  refine .list es g 0 c sz (fun i j => cs[i * sz + j]?.getD undef) hsz hm h.lens hS h.blk.use.2.2 (fun i j hi hj => ?_) (fun i hi j hj => ?_)
  · obtain ⟨x, hx, _⟩ := h.rd i hi j (by rw [h.lens i hi]; exact hj)
    rw [Nat.zero_add, h.blk.use.1, hx]; simp
  · obtain ⟨x, hx, r⟩ := h.rd i hi j hj
    rw [hx]
    exact r.unex
theorem take_map_succ {α β : Type} (l : List α) (f : α → β) (j : Nat) (h : j < l.length) : (l.take (j + 1)).map f = (l.take j).map f ++ [f l[j]] := by
  rw [List.take_succ_eq_append_getElem h, List.map_append]; rfl
theorem two_old {cs : Array Value} {j p : Nat} {u v : Value} (hp : p < j * 2) : ((cs.setIfInBounds (j * 2) u).setIfInBounds (j * 2 + 1) v)[p]? = cs[p]? := by
  rw [Array.getElem?_setIfInBounds_ne (by omega), Array.getElem?_setIfInBounds_ne (by omega)]
theorem two_new0 {cs : Array Value} {j : Nat} {u v : Value} (hp : j * 2 + 1 < cs.size) : ((cs.setIfInBounds (j * 2) u).setIfInBounds (j * 2 + 1) v)[j * 2 + 0]? = some u := by
  rw [Array.getElem?_setIfInBounds_ne (by omega), Array.getElem?_setIfInBounds]; simp; omega
theorem two_new1 {cs : Array Value} {j : Nat} {u v : Value} (hp : j * 2 + 1 < cs.size) : ((cs.setIfInBounds (j * 2) u).setIfInBounds (j * 2 + 1) v)[j * 2 + 1]? = some v := by
  rw [Array.getElem?_setIfInBounds]; simp [hp]
theorem keep_two {w : World} {g : Nat} {o o' : Nat} {u v : Value} : ∀ b, b < w.heap.size → b ≠ g → ((w.setCell ⟨g, o, none⟩ u).setCell ⟨g, o', none⟩ v).heap[b]? = w.heap[b]? := fun b _ hb => by
  rw [Below.heap_setCell _ _ _ _ hb, Below.heap_setCell _ _ _ _ hb]

/-- A line among lines in memory. -/
theorem lines_at {S : Nat → Prop} {w : World} {ls : List Ln} {v : Value} (h : Rd S w (.list (ls.map Ln.fs)) v) : ∃ a c, v = .slice a ls.length c ∧ ls.length ≤ 17592186044416 ∧
    ∀ i (hi : i < ls.length), ∃ b off a' c', a = some ⟨b, off, none⟩ ∧ S b ∧ b < w.heap.size ∧ w.cell? ⟨b, off + i * 2, none⟩ = some (.int .u8 (ls[i]).t) ∧ w.cell? ⟨b, off + i * 2 + 1, none⟩ = some (.slice a' (ls[i]).xs.length c') ∧ Rd S w (fl (ls[i]).xs) (.slice a' (ls[i]).xs.length c') := by
  obtain ⟨a, c, rfl, hm, hi⟩ := list_at h 2 (by simp [Ln.fs])
  simp only [List.length_map] at *
  refine ⟨a, c, rfl, hm, fun i hlt => ?_⟩
  obtain ⟨b, off, rfl, hS, hb, x, hx⟩ := hi i hlt
  have e : (ls.map Ln.fs)[i]'(by simpa using hlt) = [.atom (.int .u8 (ls[i]).t), fl (ls[i]).xs] := by simp [Ln.fs]
  obtain ⟨c0, r0⟩ := hx 0 (by rw [e]; simp)
  obtain ⟨c1, r1⟩ := hx 1 (by rw [e]; simp)
  simp only [e, List.getElem_cons_zero, List.getElem_cons_succ] at r0 r1
  rw [r0.atom_inv] at c0
  obtain ⟨a', c', e1⟩ := fl_shape r1
  rw [e1] at c1 r1
  exact ⟨b, off, a', c', rfl, hS, hb, by simpa using c0, c1, r1⟩
end Go.Proofs.YtahnhhkbdgaidaaGreatDoor
