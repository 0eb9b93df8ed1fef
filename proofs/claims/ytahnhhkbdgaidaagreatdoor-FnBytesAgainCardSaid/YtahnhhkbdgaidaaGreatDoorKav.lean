/-
  Numbers laid into a row of bytes; bytes appended to a buffer behind a pointer.
  The reader of binary forms: bytes, counts, numbers, heads.
  The reader of binary forms: numbers of four and of eight bytes.
-/
import Derived.Test.YtahnhhkbdgaidaaGreatDoorKaa
import Derived.Test.YtahnhhkbdgaidaaGreatDoorKau
import Derived.Test.YtahnhhkbdgaidaaGreatDoorKam
namespace Go.Proofs.YtahnhhkbdgaidaaGreatDoor
open Go.RowKit
set_option maxRecDepth 100000
/-- Cells laid one behind another. -/
def setMany : Array Value → Nat → List Value → Array Value
  | cs, _, [] => cs
  | cs, o, v :: r => setMany (cs.setIfInBounds o v) (o + 1) r
theorem setMany_size : ∀ (vs : List Value) (cs : Array Value) (o : Nat), (setMany cs o vs).size = cs.size
  | [], _, _ => rfl
  | v :: r, cs, o => by rw [setMany, setMany_size r]; simp
theorem setMany_list : ∀ (vs : List Value) (cs : Array Value) (o : Nat), o + vs.length ≤ cs.size → (setMany cs o vs).toList = cs.toList.take o ++ vs ++ cs.toList.drop (o + vs.length)
  | [], cs, o, _ => by simp [setMany]
  | v :: r, cs, o, h => by
    simp only [List.length_cons] at h
    rw [setMany, setMany_list r _ _ (by simp; omega)]
    have e1 : (cs.setIfInBounds o v).toList.take (o + 1) = cs.toList.take o ++ [v] := by
      rw [Array.toList_setIfInBounds, List.take_set, List.take_succ_eq_append_getElem (by simp; omega), List.set_append_right _ _ (by simp; omega)]
      simp [Nat.min_eq_left (show o ≤ cs.size by omega)]
    have e2 : (cs.setIfInBounds o v).toList.drop (o + 1 + r.length) = cs.toList.drop (o + (v :: r).length) := by
      rw [Array.toList_setIfInBounds, List.drop_set_of_lt (by omega)]
      congr 1
      simp; omega
    rw [e1, e2]; simp
theorem Lb.setCells {g : Nat} {T : TypeId} : ∀ (vs : List Value) (o : Nat) (w : World) (cs : Array Value), Lb w g cs T → Lb (w.setCells g o vs) g (setMany cs o vs) T
  | [], _, _, _, h => h
  | v :: r, o, w, cs, h => by rw [World.setCells, setMany]; exact Lb.setCells r (o + 1) _ _ (h.set o v)
theorem setCells_heap {g : Nat} : ∀ (vs : List Value) (o : Nat) (w : World) (b : Nat), b ≠ g → (w.setCells g o vs).heap[b]? = w.heap[b]?
  | [], _, _, _, _ => rfl
  | v :: r, o, w, b, h => by rw [World.setCells, setCells_heap r _ _ b h]; exact Below.heap_setCell w _ _ b (fun e => h (by simpa using e))
theorem setCells_same {g : Nat} : ∀ (vs : List Value) (o : Nat) (w : World), (w.setCells g o vs).heap.size = w.heap.size ∧ (w.setCells g o vs).os = w.os ∧ (w.setCells g o vs).tape = w.tape ∧ (w.setCells g o vs).output = w.output
  | [], _, _ => ⟨rfl, rfl, rfl, rfl⟩
  | v :: r, o, w => by
    rw [World.setCells]
    obtain ⟨a, b, c, d⟩ := setCells_same (g := g) r (o + 1) (w.setCell ⟨g, o, none⟩ v)
    exact ⟨a.trans (by simp [World.setCell]), b, c, d⟩
theorem setCells_grown {g : Nat} (vs : List Value) (o : Nat) (w : World) : w.grownBy (w.setCells g o vs) (some g) := by
  obtain ⟨a, b, c, d⟩ := setCells_same (g := g) vs o w
  exact ⟨b, c, d, Nat.le_of_eq a.symm, fun k _ hk => setCells_heap vs o w k (fun e => hk (by rw [e]))⟩
theorem alloc_grown (w : World) (o : Obj) (r : Option Nat) : w.grownBy (w.alloc o) r := ⟨rfl, rfl, rfl, by simp, fun k hk _ => heap_alloc_old w o hk⟩
theorem grown_trans {w1 w2 w3 : World} {r : Option Nat} (h : w1.grownBy w2 r) (h' : w2.grownBy w3 r) : w1.grownBy w3 r := h.andThen h' (fun _ hj => .inr hj)
/-- PutUint32. -/
theorem c265 (v : Nat) (g : Nat) (x0 x1 x2 x3 : Value) (T : TypeId) (w : World) (hv : v < 4294967296) (h : Lb w g #[x0, x1, x2, x3] T) :
    Calls Tryz.prog 265 #[.agg #[], .slice (some ⟨g, 0, none⟩) 4 4, .int .u32 (v : Int)] w fun e w' => e = .returned (.tuple #[]) ∧ Lb w' g (bcells (Lib.leBytes 4 v)).toArray T ∧ w.grownBy w' (some g) := by
  obtain ⟨k, f, hl⟩ := h.use
  refine (Any.binary_LE_PutUint32 bin31 g 0 4 4 v hv x0 x1 x2 x3 w (Nat.le_refl _) (k 0) (k 1) (k 2) (k 3) (f 0) (f 1) (f 2) (f 3)).mono ?_
  rintro e w' ⟨rfl, rfl⟩
  refine ⟨rfl, ?_, grown_trans (alloc_grown _ _ _) (setCells_grown _ _ _)⟩
  have := (h.alloc (.cells #[] 270)).setCells (Lib.byteCells (Lib.leBytes 4 v)) 0
  exact this
/-- PutUint64. -/
theorem c308 (v : Nat) (g o n c : Nat) (cs : Array Value) (T : TypeId) (w : World) (hv : v < 18446744073709551616) (hn : 8 ≤ n) (ho : o + 8 ≤ cs.size) (h : Lb w g cs T) :
    Calls Tryz.prog 308 #[.agg #[], .slice (some ⟨g, o, none⟩) n c, .int .u64 (v : Int)] w fun e w' => e = .returned (.tuple #[]) ∧ Lb w' g (setMany cs o (bcells (Lib.leBytes 8 v))) T ∧ w.grownBy w' (some g) := by
  obtain ⟨k, f, hl⟩ := h.use
  have hk : ∀ j, j < 8 → w.cell? ⟨g, o + j, none⟩ = some (cs[o + j]?.getD undef) := fun j hj => by
    rw [k, Array.getElem?_eq_getElem (by omega)]; rfl
  refine (Any.binary_LE_PutUint64 bin34 g o n c v hv _ _ _ _ _ _ _ _ w hn (hk 0 (by omega)) (hk 1 (by omega)) (hk 2 (by omega)) (hk 3 (by omega)) (hk 4 (by omega)) (hk 5 (by omega)) (hk 6 (by omega)) (hk 7 (by omega)) (f _) (f _) (f _) (f _) (f _) (f _) (f _) (f _)).mono ?_
  rintro e w' ⟨rfl, rfl⟩
  refine ⟨rfl, ?_, grown_trans (alloc_grown _ _ _) (setCells_grown _ _ _)⟩
  exact (h.alloc (.cells #[] 270)).setCells (Lib.byteCells (Lib.leBytes 8 v)) o
/-- A buffer behind a pointer: block M holds the slice, which owns the bytes. -/
structure Bu (B M : Nat) (v : Value) (bs : List UInt8) (w : World) : Prop where
  own : w.ownsRow B 5 1 v bs.length (bcells bs)
  lb : Lb w M #[v] 261
  ne : some M ≠ v.ownBlock
  hB : B ≤ w.heap.size
/-- What a step on the buffer leaves: blocks but the pointer's and the slice's own. -/
structure Wr (w : World) (M : Nat) (v : Value) (w' : World) (v' : Value) : Prop where
  os : w'.os = w.os
  tape : w'.tape = w.tape
  output : w'.output = w.output
  size : w.heap.size ≤ w'.heap.size
  block : ∀ b, b < w.heap.size → b ≠ M → some b ≠ v.ownBlock → w'.heap[b]? = w.heap[b]?
  lies : ∀ j, v'.ownBlock = some j → w.heap.size ≤ j ∨ v.ownBlock = some j
theorem Wr.trans {w1 w2 w3 : World} {M : Nat} {v1 v2 v3 : Value} (h : Wr w1 M v1 w2 v2) (h' : Wr w2 M v2 w3 v3) : Wr w1 M v1 w3 v3 :=
  ⟨h'.os.trans h.os, h'.tape.trans h.tape, h'.output.trans h.output, Nat.le_trans h.size h'.size, fun b hb hM hv => (h'.block b (Nat.lt_of_lt_of_le hb h.size) hM (fun e => by
      rcases h.lies b e.symm with k | k
      · omega
      · exact hv k.symm)).trans (h.block b hb hM hv),
    fun j hj => by
      rcases h'.lies j hj with k | k
      · exact .inl (Nat.le_trans h.size k)
      · exact h.lies j k⟩
theorem Wr.of_below {w w' : World} (M : Nat) (v : Value) (hb : Below w.heap.size w w') : Wr w M v w' v := ⟨hb.os, hb.tape, hb.output, hb.size, fun b h _ _ => hb.block b h, fun _ hj => .inr hj⟩
theorem Wr.lb {w w' : World} {M : Nat} {v v' : Value} (h : Wr w M v w' v') {L : Nat} {cs : Array Value} {T : TypeId} (hL : Lb w L cs T) (h1 : L ≠ M) (h2 : some L ≠ v.ownBlock) : Lb w' L cs T :=
  (h.block L hL.use.2.2 h1 h2).trans hL
theorem Wr.rd {w w' : World} {M : Nat} {v v' : Value} (h : Wr w M v w' v') {S : Nat → Prop} {f : F} {x : Value} (hr : Rd S w f x) (h1 : ∀ b, S b → b ≠ M ∧ some b ≠ v.ownBlock) : Rd S w' f x :=
  hr.step (fun b hb hS => ⟨h.block b hb (h1 b hS).1 (h1 b hS).2, hS⟩) h.size
theorem Wr.fresh {w w' : World} {M : Nat} {v v' : Value} (h : Wr w M v w' v') {L : Nat} (hL : L < w.heap.size) (h2 : some L ≠ v.ownBlock) : some L ≠ v'.ownBlock := fun e => by
  rcases h.lies L e.symm with k | k
  · omega
  · exact h2 k.symm
theorem Bu.step {B M : Nat} {v : Value} {bs : List UInt8} {w w' : World} (h : Bu B M v bs w) (hb : Below w.heap.size w w') : Bu B M v bs w' :=
  ⟨h.own.kept (row := none) ⟨hb.os, hb.tape, hb.output, hb.size, fun i hi _ => hb.block i hi⟩ (by cases hv : v.ownBlock <;> simp), h.lb.blw hb, h.ne, Nat.le_trans h.hB hb.size⟩
theorem Bu.blk {B M : Nat} {v : Value} {bs : List UInt8} {w : World} (h : Bu B M v bs w) : ∀ j, v.ownBlock = some j → B ≤ j ∧ j < w.heap.size := h.own.lt
/-- Bytes of another slice appended to the buffer's slice. -/
theorem Bu.app {B M : Nat} {v : Value} {bs : List UInt8} {w : World} (h : Bu B M v bs w) (ys : List UInt8) (ad : Addr) (n c : Nat) (hn : ys.length = n) (hc : ∀ j (hj : j < ys.length), w.cell? (ad.add j) = some (.int .u8 ((ys[j]).toNat : Int))) (hlen : bs.length + n ≤ 140737488355328) :
    ∃ v' w', (Builtin.append_ #[32, 32] 32 #[v, .slice (some ad) n c]).run Tryz.prog w = .ok v' w' ∧ Lb w' M #[v] 261 ∧ Bu B M v' (bs ++ ys) (w'.setCell ⟨M, 0, none⟩ v') ∧ Wr w M v (w'.setCell ⟨M, 0, none⟩ v') v' ∧ w.heap.size ≤ w'.heap.size := by
  obtain ⟨i0, hi0, hz0, hz1, hz2⟩ := info_parts info5
  obtain ⟨v', w', hrun, ho', hg, _, hat⟩ := run_append_own_at (P := Tryz.prog) w B 32 32 5 i0 (.int .u8 0) 1 1 Tryz.underlying32 hi0 hz0 hz1 hz2 rfl (by decide) v bs.length (bcells bs) h.own ad n c (bcells ys) (by simp [bcells, hn]) (fun j u hj => by
      obtain ⟨hj', e⟩ := List.getElem?_eq_some_iff.1 hj
      have hj2 : j < ys.length := by simpa [bcells] using hj'
      rw [hc j hj2, ← e]; simp [bcells]) (by intro u hu; obtain ⟨x, _, rfl⟩ := List.mem_map.1 hu; rfl) (by simp only [maxLen]; omega) (by omega) h.hB
  have lM : Lb w' M #[v] 261 := h.lb.grown hg h.ne
  have hM : M < w.heap.size := h.lb.use.2.2
  have hlies : ∀ j, v'.ownBlock = some j → w.heap.size ≤ j ∨ v.ownBlock = some j := fun j hj => by
    rcases hat with e | e
    · exact .inr (e ▸ hj)
    · rw [e] at hj; exact .inl (by simp at hj; omega)
  have hne : some M ≠ v'.ownBlock := fun e => by
    rcases hlies M e.symm with k | k
    · omega
    · exact h.ne k.symm
  have hgs : w'.grownBy (w'.setCell ⟨M, 0, none⟩ v') (some M) := ⟨rfl, rfl, rfl, by simp [World.setCell], fun k _ hk => Below.heap_setCell w' _ _ k (fun e => hk (by rw [e]))⟩
  refine ⟨v', w', hrun, lM, ⟨?_, by simpa using lM.set 0 v', hne, Nat.le_trans h.hB (Nat.le_trans hg.size (by simp [World.setCell]))⟩, ⟨hg.os, hg.tape, hg.output, Nat.le_trans hg.size (by simp [World.setCell]), fun b hb h1 h2 => (Below.heap_setCell w' _ _ b (by simpa using h1)).trans (hg.block b hb h2), hlies⟩, hg.size⟩
  have e : bcells bs ++ bcells ys = bcells (bs ++ ys) := by simp [bcells]
  rw [e] at ho'
  rw [List.length_append, hn]
  refine ho'.kept hgs ?_
  cases hv : v'.ownBlock with
  | none => exact .inl rfl
  | some k => exact .inr (fun e => hne (by rw [hv]; exact e.symm))
end Go.Proofs.YtahnhhkbdgaidaaGreatDoor
namespace Go.Proofs.YtahnhhkbdgaidaaGreatDoor
open Go.RowKit
set_option maxRecDepth 100000
/-- The number that bytes spell, the greatest first if the order is 0, else the least. -/
def dec (bo : Int) (l : List UInt8) : Nat := if bo = 0 then Lib.beNat l else Lib.leNat l
/-- A reader: its block holds the bytes that are left, the order of bytes, and whether that is the machine's own. -/
def Pr (P b : Nat) (bo : Int) (no : Bool) (l : List UInt8) (w : World) : Prop :=
  ∃ off c, Lb w P #[.slice (some ⟨b, off, none⟩) l.length c, .int .u8 bo, .bool no] 160 ∧ l.length ≤ c ∧ l.length ≤ 17592186044416 ∧ b ≠ P ∧ b < w.heap.size ∧ ∀ j (h : j < l.length), w.cell? ⟨b, off + j, none⟩ = some (.int .u8 ((l[j]).toNat : Int))
theorem Pr.grown {P b : Nat} {bo : Int} {no : Bool} {l : List UInt8} {w w' : World} (h : Pr P b bo no l w) {r : Option Nat} (hg : w.grownBy w' r) (h1 : some P ≠ r) (h2 : some b ≠ r) : Pr P b bo no l w' := by
  obtain ⟨off, c, hL, hc, hm, hbP, hbl, hby⟩ := h
  refine ⟨off, c, hL.grown hg h1, hc, hm, hbP, Nat.lt_of_lt_of_le hbl hg.size, fun j hj => ?_⟩
  rw [World.cell?_of_block (hg.block b hbl h2)]
  exact hby j hj
theorem Pr.inb {P b : Nat} {bo : Int} {no : Bool} {l : List UInt8} {w : World} (h : Pr P b bo no l w) : b ≠ P ∧ b < w.heap.size := by
  obtain ⟨off, c, hL, hc, hm, hbP, hbl, hby⟩ := h; exact ⟨hbP, hbl⟩
theorem Pr.blw {P b : Nat} {bo : Int} {no : Bool} {l : List UInt8} {w w' : World} (h : Pr P b bo no l w) (hb : Below w.heap.size w w') : Pr P b bo no l w' := by
  obtain ⟨off, c, hL, hc, hm, hbP, hbl, hby⟩ := h
  exact ⟨off, c, hL.blw hb, hc, hm, hbP, Nat.lt_of_lt_of_le hbl hb.size, fun j hj => by rw [hb.cell (p := ⟨b, off + j, none⟩) hbl]; exact hby j hj⟩
theorem Pr.lt {P b : Nat} {bo : Int} {no : Bool} {l : List UInt8} {w : World} (h : Pr P b bo no l w) : P < w.heap.size := by
  obtain ⟨off, c, hL, _⟩ := h; exact hL.use.2.2
/-- What is left behind k bytes. -/
theorem Pr.rest {P : Nat} {bo : Int} {no : Bool} {l : List UInt8} {w : World} {b off c : Nat} (hL : Lb w P #[.slice (some ⟨b, off, none⟩) l.length c, .int .u8 bo, .bool no] 160) (hc : l.length ≤ c) (hm : l.length ≤ 17592186044416) (hbP : b ≠ P) (hbl : b < w.heap.size) (hby : ∀ j (h : j < l.length), w.cell? ⟨b, off + j, none⟩ = some (.int .u8 ((l[j]).toNat : Int)))
    (k : Nat) (hk : k ≤ l.length) (ad : Option Addr) (had : ad = if c = k then some ⟨b, off, none⟩ else some ⟨b, off + k, none⟩) : Pr P b bo no (l.drop k) (w.setCell ⟨P, 0, none⟩ (.slice ad (l.length - k) (c - k))) := by
  have hset := hL.set 0 (.slice ad (l.length - k) (c - k))
  have hcell : ∀ o, (w.setCell ⟨P, 0, none⟩ (.slice ad (l.length - k) (c - k))).cell? ⟨b, o, none⟩ = w.cell? ⟨b, o, none⟩ := fun o => World.cell?_of_block (Below.heap_setCell w _ _ b (by simpa using hbP))
  by_cases e : c = k
  · rw [if_pos e] at had
    subst had
    refine ⟨off, c - k, by simpa using hset, by simp; omega, by simp; omega, hbP, by simpa [World.setCell] using hbl, fun j hj => ?_⟩
    simp at hj; omega
  · rw [if_neg e] at had
    subst had
    refine ⟨off + k, c - k, by simpa using hset, by simp; omega, by simp; omega, hbP, by simpa [World.setCell] using hbl, fun j hj => ?_⟩
    rw [hcell, Nat.add_assoc, hby (k + j) (by simp at hj; omega)]
    simp
theorem set_grown (w : World) (P o : Nat) (x : Value) : w.grownBy (w.setCell ⟨P, o, none⟩ x) (some P) := ⟨rfl, rfl, rfl, by simp [World.setCell], fun k _ hk => Below.heap_setCell w _ _ k (fun e => hk (by rw [e]))⟩
theorem below_grown {w w' : World} (hb : Below w.heap.size w w') (r : Option Nat) : w.grownBy w' r := ⟨hb.os, hb.tape, hb.output, hb.size, fun k hk _ => hb.block k hk⟩
/-- What a step of the reader answers. -/
def Took (P b : Nat) (bo : Int) (no : Bool) (x : Value) (r : List UInt8) (w : World) : Ending → World → Prop := fun e w' => e = .returned x ∧ Pr P b bo no r w' ∧ w.grownBy w' (some P)
theorem Pr.rest0 {P : Nat} {bo : Int} {no : Bool} {l : List UInt8} {w : World} {b off : Nat} (k n : Nat) (hL : Lb w P #[.slice (some ⟨b, off, none⟩) n k, .int .u8 bo, .bool no] 160) (hn : l.length = n) (hc : n ≤ k) (hm : n ≤ 17592186044416) (hbP : b ≠ P) (hbl : b < w.heap.size) (hby : ∀ j (h : j < l.length), w.cell? ⟨b, off + j, none⟩ = some (.int .u8 ((l[j]).toNat : Int)))
    (hk : k ≤ n) : Pr P b bo no [] (w.setCell ⟨P, 0, none⟩ (.slice (some ⟨b, off, none⟩) 0 0)) := by
  subst hn
  have := Pr.rest hL hc hm hbP hbl hby k hk _ rfl
  have e : l.drop k = [] := List.drop_eq_nil_of_le hc
  rw [if_pos rfl, Nat.sub_self, e, show l.length - k = 0 by omega] at this
  exact this
theorem Pr.rest1 {P : Nat} {bo : Int} {no : Bool} {l r : List UInt8} {w : World} {b off c : Nat} (k n : Nat) (hL : Lb w P #[.slice (some ⟨b, off, none⟩) n c, .int .u8 bo, .bool no] 160) (hn : l.length = n) (hc : n ≤ c) (hm : n ≤ 17592186044416) (hbP : b ≠ P) (hbl : b < w.heap.size) (hby : ∀ j (h : j < l.length), w.cell? ⟨b, off + j, none⟩ = some (.int .u8 ((l[j]).toNat : Int)))
    (hk : k ≤ n) (hr : l.drop k = r) (hne : ¬ c = k) : Pr P b bo no r (w.setCell ⟨P, 0, none⟩ (.slice (some ⟨b, off + k, none⟩) r.length (c - k))) := by
  subst hn
  have := Pr.rest hL hc hm hbP hbl hby k hk _ rfl
  rw [if_neg hne, hr] at this
  have e : r.length = l.length - k := by rw [← hr, List.length_drop]
  rw [e]; exact this
set_option maxHeartbeats 1000000 in
theorem c187 (P b : Nat) (bo : Int) (no : Bool) (x : UInt8) (r : List UInt8) (w : World) (h : Pr P b bo no (x :: r) w) :
    Calls Tryz.prog 187 #[.pointer (some ⟨P, 0, none⟩)] w (Took P b bo no (.tuple #[.int .u8 (x.toNat : Int), .nilIface]) r w) := by
  obtain ⟨off, c, hL, hc, hm, hbP, hbl, hby⟩ := h
  have q0 := hby 0 (by simp)
  simp only [Nat.add_zero, List.getElem_cons_zero] at q0
  simp only [List.length_cons] at hc hm hL
  obtain ⟨kP, fP, lP⟩ := hL.use
  have hne : ((r.length : Int) + 1 == 0) = false := beq_false_of_ne (by omega)
  by_cases e1 : c = 1
  · subst e1
    obtain rfl : r = [] := List.eq_nil_of_length_eq_zero (by omega)
    have HP := Lib.hid (Pr.rest0 (l := [x]) 1 _ hL rfl hc hm hbP hbl hby (by simp))
    clear hL hby
    go_enter Tryz.func187, Tryz.ntmps187
    go_wp2_with fail
    exact bodyPost_ret (v := .tuple #[.int .u8 (x.toNat : Int), .nilIface]) (by simp [results, Tryz.results187, go_sem]) rfl ⟨rfl, HP.out, set_grown _ _ _ _⟩
  · have HP := Lib.hid (Pr.rest1 (l := x :: r) (r := r) 1 _ hL rfl hc hm hbP hbl hby (by simp) rfl e1)
    clear hL hby
    go_enter Tryz.func187, Tryz.ntmps187
    go_wp2_with fail
    exact bodyPost_ret (v := .tuple #[.int .u8 (x.toNat : Int), .nilIface]) (by simp [results, Tryz.results187, go_sem]) rfl ⟨rfl, HP.out, set_grown _ _ _ _⟩
end Go.Proofs.YtahnhhkbdgaidaaGreatDoor
namespace Go.Proofs.YtahnhhkbdgaidaaGreatDoor
open Go.RowKit
set_option maxRecDepth 100000
set_option maxHeartbeats 2000000 in
theorem c188_1 (P b : Nat) (no : Bool) (b0 b1 b2 b3 : UInt8) (r : List UInt8) (w : World) (h : Pr P b 1 no (b0 :: b1 :: b2 :: b3 :: r) w) :
    Calls Tryz.prog 188 #[.pointer (some ⟨P, 0, none⟩)] w (Took P b 1 no (.tuple #[.int .u32 ((Lib.leNat [b0, b1, b2, b3] : Nat) : Int), .nilIface]) r w) := by
  obtain ⟨off, c, hL, hc, hm, hbP, hbl, hby⟩ := h
  have q0 := hby 0 (by simp)
  have q1 := hby 1 (by simp)
  have q2 := hby 2 (by simp)
  have q3 := hby 3 (by simp)
  simp only [Nat.add_zero, List.getElem_cons_zero, List.getElem_cons_succ] at q0 q1 q2 q3
  simp only [List.length_cons] at hc hm hL
  have HC := Lib.hid (Any.binary_LE_Uint32 bin30 b off (r.length + 1 + 1 + 1 + 1) c b0 b1 b2 b3 w.drew (by omega) q0 q1 q2 q3)
  obtain ⟨kP, fP, lP⟩ := hL.use
  have hge : ¬ ((r.length : Int) + 1 + 1 + 1 + 1 < 4) := by omega
  have hlb : (((r.length + 1 + 1 + 1 + 1 : Nat)) : Int) = (r.length : Int) + 1 + 1 + 1 + 1 := by omega
  have hgb : decide ((r.length : Int) + 1 + 1 + 1 + 1 < 4) = false := decide_eq_false hge
  generalize Lib.leNat [b0, b1, b2, b3] = val at *
  by_cases e1 : c = 4
  · subst e1
    obtain rfl : r = [] := List.eq_nil_of_length_eq_zero (by omega)
    have HP : Hid (∀ w1, Below w.heap.size w w1 → Lb w1 P #[.slice (some ⟨b, off, none⟩) 4 4, .int .u8 1, .bool no] 160 ∧ Pr P b 1 no [] (w1.setCell ⟨P, 0, none⟩ (.slice (some ⟨b, off, none⟩) 0 0))) := Lib.hid fun w1 hb1 =>
      ⟨hL.blw hb1, Pr.rest0 (l := [b0, b1, b2, b3]) 4 _ (hL.blw hb1) rfl hc hm hbP (Nat.lt_of_lt_of_le hbl hb1.size) (fun j hj => by rw [hb1.cell (p := ⟨b, off + j, none⟩) hbl]; exact hby j hj) (by simp)⟩
    clear hby hL hge q0 q1 q2 q3
    go_enter Tryz.func188, Tryz.ntmps188
    go_wp2_with fail
    go_region_law (first
      | (go_simp; go_at_call 231; refine HC.out.mono ?_; rintro _ w1 ⟨rfl, hb1⟩))
    all_goals (
      have hb1' : Below w.heap.size w w1 := ⟨hb1.os, hb1.tape, hb1.output, hb1.size, hb1.block⟩
      obtain ⟨hL1, hP1⟩ := HP.out w1 hb1'
      obtain ⟨k1, f1, l1⟩ := hL1.use
      have HP1 := Lib.hid hP1
      have HG := Lib.hid (below_grown hb1' (some P))
      clear hb1 hb1' hL1 hP1 HP
      go_wp2_with fail
      exact bodyPost_ret (v := .tuple #[.int .u32 (val : Int), .nilIface]) (by simp [results, Tryz.results188, go_sem]) rfl ⟨rfl, HP1.out, grown_trans HG.out (set_grown _ _ _ _)⟩)
  · have HP : Hid (∀ w1, Below w.heap.size w w1 → Lb w1 P #[.slice (some ⟨b, off, none⟩) (r.length + 1 + 1 + 1 + 1) c, .int .u8 1, .bool no] 160 ∧ Pr P b 1 no r (w1.setCell ⟨P, 0, none⟩ (.slice (some ⟨b, off + 4, none⟩) r.length (c - 4)))) := Lib.hid fun w1 hb1 =>
      ⟨hL.blw hb1, Pr.rest1 (l := b0 :: b1 :: b2 :: b3 :: r) (r := r) 4 _ (hL.blw hb1) rfl hc hm hbP (Nat.lt_of_lt_of_le hbl hb1.size) (fun j hj => by rw [hb1.cell (p := ⟨b, off + j, none⟩) hbl]; exact hby j hj) (by omega) rfl e1⟩
    clear hby hL hge q0 q1 q2 q3
    go_enter Tryz.func188, Tryz.ntmps188
    go_wp2_with fail
    go_region_law (first
      | (go_simp; go_at_call 231; refine HC.out.mono ?_; rintro _ w1 ⟨rfl, hb1⟩))
    all_goals (
      have hb1' : Below w.heap.size w w1 := ⟨hb1.os, hb1.tape, hb1.output, hb1.size, hb1.block⟩
      obtain ⟨hL1, hP1⟩ := HP.out w1 hb1'
      obtain ⟨k1, f1, l1⟩ := hL1.use
      have HP1 := Lib.hid hP1
      have HG := Lib.hid (below_grown hb1' (some P))
      clear hb1 hb1' hL1 hP1 HP
      go_wp2_with fail
      exact bodyPost_ret (v := .tuple #[.int .u32 (val : Int), .nilIface]) (by simp [results, Tryz.results188, go_sem]) rfl ⟨rfl, HP1.out, grown_trans HG.out (set_grown _ _ _ _)⟩)
set_option maxHeartbeats 2000000 in
theorem c188_0 (P b : Nat) (no : Bool) (b0 b1 b2 b3 : UInt8) (r : List UInt8) (w : World) (h : Pr P b 0 no (b0 :: b1 :: b2 :: b3 :: r) w) :
    Calls Tryz.prog 188 #[.pointer (some ⟨P, 0, none⟩)] w (Took P b 0 no (.tuple #[.int .u32 ((Lib.beNat [b0, b1, b2, b3] : Nat) : Int), .nilIface]) r w) := by
  obtain ⟨off, c, hL, hc, hm, hbP, hbl, hby⟩ := h
  have q0 := hby 0 (by simp)
  have q1 := hby 1 (by simp)
  have q2 := hby 2 (by simp)
  have q3 := hby 3 (by simp)
  simp only [Nat.add_zero, List.getElem_cons_zero, List.getElem_cons_succ] at q0 q1 q2 q3
  simp only [List.length_cons] at hc hm hL
  have HC := Lib.hid (Any.binary_BE_Uint32 bin39 b off (r.length + 1 + 1 + 1 + 1) c b0 b1 b2 b3 w.drew (by omega) q0 q1 q2 q3)
  obtain ⟨kP, fP, lP⟩ := hL.use
  have hge : ¬ ((r.length : Int) + 1 + 1 + 1 + 1 < 4) := by omega
  have hlb : (((r.length + 1 + 1 + 1 + 1 : Nat)) : Int) = (r.length : Int) + 1 + 1 + 1 + 1 := by omega
  have hgb : decide ((r.length : Int) + 1 + 1 + 1 + 1 < 4) = false := decide_eq_false hge
  generalize Lib.beNat [b0, b1, b2, b3] = val at *
  by_cases e1 : c = 4
  · subst e1
    obtain rfl : r = [] := List.eq_nil_of_length_eq_zero (by omega)
    have HP : Hid (∀ w1, Below w.heap.size w w1 → Lb w1 P #[.slice (some ⟨b, off, none⟩) 4 4, .int .u8 0, .bool no] 160 ∧ Pr P b 0 no [] (w1.setCell ⟨P, 0, none⟩ (.slice (some ⟨b, off, none⟩) 0 0))) := Lib.hid fun w1 hb1 =>
      ⟨hL.blw hb1, Pr.rest0 (l := [b0, b1, b2, b3]) 4 _ (hL.blw hb1) rfl hc hm hbP (Nat.lt_of_lt_of_le hbl hb1.size) (fun j hj => by rw [hb1.cell (p := ⟨b, off + j, none⟩) hbl]; exact hby j hj) (by simp)⟩
    clear hby hL hge q0 q1 q2 q3
    go_enter Tryz.func188, Tryz.ntmps188
    go_wp2_with fail
    go_region_law (first
      | (go_simp; go_at_call 230; refine HC.out.mono ?_; rintro _ w1 ⟨rfl, hb1⟩))
    all_goals (
      have hb1' : Below w.heap.size w w1 := ⟨hb1.os, hb1.tape, hb1.output, hb1.size, hb1.block⟩
      obtain ⟨hL1, hP1⟩ := HP.out w1 hb1'
      obtain ⟨k1, f1, l1⟩ := hL1.use
      have HP1 := Lib.hid hP1
      have HG := Lib.hid (below_grown hb1' (some P))
      clear hb1 hb1' hL1 hP1 HP
      go_wp2_with fail
      exact bodyPost_ret (v := .tuple #[.int .u32 (val : Int), .nilIface]) (by simp [results, Tryz.results188, go_sem]) rfl ⟨rfl, HP1.out, grown_trans HG.out (set_grown _ _ _ _)⟩)
  · have HP : Hid (∀ w1, Below w.heap.size w w1 → Lb w1 P #[.slice (some ⟨b, off, none⟩) (r.length + 1 + 1 + 1 + 1) c, .int .u8 0, .bool no] 160 ∧ Pr P b 0 no r (w1.setCell ⟨P, 0, none⟩ (.slice (some ⟨b, off + 4, none⟩) r.length (c - 4)))) := Lib.hid fun w1 hb1 =>
      ⟨hL.blw hb1, Pr.rest1 (l := b0 :: b1 :: b2 :: b3 :: r) (r := r) 4 _ (hL.blw hb1) rfl hc hm hbP (Nat.lt_of_lt_of_le hbl hb1.size) (fun j hj => by rw [hb1.cell (p := ⟨b, off + j, none⟩) hbl]; exact hby j hj) (by omega) rfl e1⟩
    clear hby hL hge q0 q1 q2 q3
    go_enter Tryz.func188, Tryz.ntmps188
    go_wp2_with fail
    go_region_law (first
      | (go_simp; go_at_call 230; refine HC.out.mono ?_; rintro _ w1 ⟨rfl, hb1⟩))
    all_goals (
      have hb1' : Below w.heap.size w w1 := ⟨hb1.os, hb1.tape, hb1.output, hb1.size, hb1.block⟩
      obtain ⟨hL1, hP1⟩ := HP.out w1 hb1'
      obtain ⟨k1, f1, l1⟩ := hL1.use
      have HP1 := Lib.hid hP1
      have HG := Lib.hid (below_grown hb1' (some P))
      clear hb1 hb1' hL1 hP1 HP
      go_wp2_with fail
      exact bodyPost_ret (v := .tuple #[.int .u32 (val : Int), .nilIface]) (by simp [results, Tryz.results188, go_sem]) rfl ⟨rfl, HP1.out, grown_trans HG.out (set_grown _ _ _ _)⟩)
set_option maxHeartbeats 2000000 in
theorem c232_1 (P b : Nat) (no : Bool) (b0 b1 b2 b3 b4 b5 b6 b7 : UInt8) (r : List UInt8) (w : World) (h : Pr P b 1 no (b0 :: b1 :: b2 :: b3 :: b4 :: b5 :: b6 :: b7 :: r) w) :
    Calls Tryz.prog 232 #[.pointer (some ⟨P, 0, none⟩)] w (Took P b 1 no (.tuple #[.float .f64 (Lib.leNat [b0, b1, b2, b3, b4, b5, b6, b7]), .nilIface]) r w) := by
  have hx := fun n w => x123 n w
  obtain ⟨off, c, hL, hc, hm, hbP, hbl, hby⟩ := h
  have q0 := hby 0 (by simp)
  have q1 := hby 1 (by simp)
  have q2 := hby 2 (by simp)
  have q3 := hby 3 (by simp)
  have q4 := hby 4 (by simp)
  have q5 := hby 5 (by simp)
  have q6 := hby 6 (by simp)
  have q7 := hby 7 (by simp)
  simp only [Nat.add_zero, List.getElem_cons_zero, List.getElem_cons_succ] at q0 q1 q2 q3 q4 q5 q6 q7
  simp only [List.length_cons] at hc hm hL
  have HC := Lib.hid (Any.binary_LE_Uint64 bin33 b off (r.length + 1 + 1 + 1 + 1 + 1 + 1 + 1 + 1) c b0 b1 b2 b3 b4 b5 b6 b7 w.drew (by omega) q0 q1 q2 q3 q4 q5 q6 q7)
  obtain ⟨kP, fP, lP⟩ := hL.use
  have hge : ¬ ((r.length : Int) + 1 + 1 + 1 + 1 + 1 + 1 + 1 + 1 < 8) := by omega
  have hlb : (((r.length + 1 + 1 + 1 + 1 + 1 + 1 + 1 + 1 : Nat)) : Int) = (r.length : Int) + 1 + 1 + 1 + 1 + 1 + 1 + 1 + 1 := by omega
  have hgb : decide ((r.length : Int) + 1 + 1 + 1 + 1 + 1 + 1 + 1 + 1 < 8) = false := decide_eq_false hge
  generalize Lib.leNat [b0, b1, b2, b3, b4, b5, b6, b7] = val at *
  by_cases e1 : c = 8
  · subst e1
    obtain rfl : r = [] := List.eq_nil_of_length_eq_zero (by omega)
    have HP : Hid (∀ w1, Below w.heap.size w w1 → Lb w1 P #[.slice (some ⟨b, off, none⟩) 8 8, .int .u8 1, .bool no] 160 ∧ Pr P b 1 no [] (w1.setCell ⟨P, 0, none⟩ (.slice (some ⟨b, off, none⟩) 0 0))) := Lib.hid fun w1 hb1 =>
      ⟨hL.blw hb1, Pr.rest0 (l := [b0, b1, b2, b3, b4, b5, b6, b7]) 8 _ (hL.blw hb1) rfl hc hm hbP (Nat.lt_of_lt_of_le hbl hb1.size) (fun j hj => by rw [hb1.cell (p := ⟨b, off + j, none⟩) hbl]; exact hby j hj) (by simp)⟩
    clear hby hL hge q0 q1 q2 q3 q4 q5 q6 q7
    go_enter Tryz.func232, Tryz.ntmps232
    go_wp2_with fail
    go_region_law (first
      | (go_simp; go_at_call 271; refine HC.out.mono ?_; rintro _ w1 ⟨rfl, hb1⟩))
    all_goals (
      have hb1' : Below w.heap.size w w1 := ⟨hb1.os, hb1.tape, hb1.output, hb1.size, hb1.block⟩
      obtain ⟨hL1, hP1⟩ := HP.out w1 hb1'
      obtain ⟨k1, f1, l1⟩ := hL1.use
      have HP1 := Lib.hid hP1
      have HG := Lib.hid (below_grown hb1' (some P))
      clear hb1 hb1' hL1 hP1 HP
      go_wp2_with fail
      exact bodyPost_ret (v := .tuple #[.float .f64 val, .nilIface]) (by simp [results, Tryz.results232, go_sem]) rfl ⟨rfl, HP1.out, grown_trans HG.out (set_grown _ _ _ _)⟩)
  · have HP : Hid (∀ w1, Below w.heap.size w w1 → Lb w1 P #[.slice (some ⟨b, off, none⟩) (r.length + 1 + 1 + 1 + 1 + 1 + 1 + 1 + 1) c, .int .u8 1, .bool no] 160 ∧ Pr P b 1 no r (w1.setCell ⟨P, 0, none⟩ (.slice (some ⟨b, off + 8, none⟩) r.length (c - 8)))) := Lib.hid fun w1 hb1 =>
      ⟨hL.blw hb1, Pr.rest1 (l := b0 :: b1 :: b2 :: b3 :: b4 :: b5 :: b6 :: b7 :: r) (r := r) 8 _ (hL.blw hb1) rfl hc hm hbP (Nat.lt_of_lt_of_le hbl hb1.size) (fun j hj => by rw [hb1.cell (p := ⟨b, off + j, none⟩) hbl]; exact hby j hj) (by omega) rfl e1⟩
    clear hby hL hge q0 q1 q2 q3 q4 q5 q6 q7
    go_enter Tryz.func232, Tryz.ntmps232
    go_wp2_with fail
    go_region_law (first
      | (go_simp; go_at_call 271; refine HC.out.mono ?_; rintro _ w1 ⟨rfl, hb1⟩))
    all_goals (
      have hb1' : Below w.heap.size w w1 := ⟨hb1.os, hb1.tape, hb1.output, hb1.size, hb1.block⟩
      obtain ⟨hL1, hP1⟩ := HP.out w1 hb1'
      obtain ⟨k1, f1, l1⟩ := hL1.use
      have HP1 := Lib.hid hP1
      have HG := Lib.hid (below_grown hb1' (some P))
      clear hb1 hb1' hL1 hP1 HP
      go_wp2_with fail
      exact bodyPost_ret (v := .tuple #[.float .f64 val, .nilIface]) (by simp [results, Tryz.results232, go_sem]) rfl ⟨rfl, HP1.out, grown_trans HG.out (set_grown _ _ _ _)⟩)
set_option maxHeartbeats 2000000 in
theorem c232_0 (P b : Nat) (no : Bool) (b0 b1 b2 b3 b4 b5 b6 b7 : UInt8) (r : List UInt8) (w : World) (h : Pr P b 0 no (b0 :: b1 :: b2 :: b3 :: b4 :: b5 :: b6 :: b7 :: r) w) :
    Calls Tryz.prog 232 #[.pointer (some ⟨P, 0, none⟩)] w (Took P b 0 no (.tuple #[.float .f64 (Lib.beNat [b0, b1, b2, b3, b4, b5, b6, b7]), .nilIface]) r w) := by
  have hx := fun n w => x123 n w
  obtain ⟨off, c, hL, hc, hm, hbP, hbl, hby⟩ := h
  have q0 := hby 0 (by simp)
  have q1 := hby 1 (by simp)
  have q2 := hby 2 (by simp)
  have q3 := hby 3 (by simp)
  have q4 := hby 4 (by simp)
  have q5 := hby 5 (by simp)
  have q6 := hby 6 (by simp)
  have q7 := hby 7 (by simp)
  simp only [Nat.add_zero, List.getElem_cons_zero, List.getElem_cons_succ] at q0 q1 q2 q3 q4 q5 q6 q7
  simp only [List.length_cons] at hc hm hL
  have HC := Lib.hid (Any.binary_BE_Uint64 bin42 b off (r.length + 1 + 1 + 1 + 1 + 1 + 1 + 1 + 1) c b0 b1 b2 b3 b4 b5 b6 b7 w.drew (by omega) q0 q1 q2 q3 q4 q5 q6 q7)
  obtain ⟨kP, fP, lP⟩ := hL.use
  have hge : ¬ ((r.length : Int) + 1 + 1 + 1 + 1 + 1 + 1 + 1 + 1 < 8) := by omega
  have hlb : (((r.length + 1 + 1 + 1 + 1 + 1 + 1 + 1 + 1 : Nat)) : Int) = (r.length : Int) + 1 + 1 + 1 + 1 + 1 + 1 + 1 + 1 := by omega
  have hgb : decide ((r.length : Int) + 1 + 1 + 1 + 1 + 1 + 1 + 1 + 1 < 8) = false := decide_eq_false hge
  generalize Lib.beNat [b0, b1, b2, b3, b4, b5, b6, b7] = val at *
  by_cases e1 : c = 8
  · subst e1
    obtain rfl : r = [] := List.eq_nil_of_length_eq_zero (by omega)
    have HP : Hid (∀ w1, Below w.heap.size w w1 → Lb w1 P #[.slice (some ⟨b, off, none⟩) 8 8, .int .u8 0, .bool no] 160 ∧ Pr P b 0 no [] (w1.setCell ⟨P, 0, none⟩ (.slice (some ⟨b, off, none⟩) 0 0))) := Lib.hid fun w1 hb1 =>
      ⟨hL.blw hb1, Pr.rest0 (l := [b0, b1, b2, b3, b4, b5, b6, b7]) 8 _ (hL.blw hb1) rfl hc hm hbP (Nat.lt_of_lt_of_le hbl hb1.size) (fun j hj => by rw [hb1.cell (p := ⟨b, off + j, none⟩) hbl]; exact hby j hj) (by simp)⟩
    clear hby hL hge q0 q1 q2 q3 q4 q5 q6 q7
    go_enter Tryz.func232, Tryz.ntmps232
    go_wp2_with fail
    go_region_law (first
      | (go_simp; go_at_call 270; refine HC.out.mono ?_; rintro _ w1 ⟨rfl, hb1⟩))
    all_goals (
      have hb1' : Below w.heap.size w w1 := ⟨hb1.os, hb1.tape, hb1.output, hb1.size, hb1.block⟩
      obtain ⟨hL1, hP1⟩ := HP.out w1 hb1'
      obtain ⟨k1, f1, l1⟩ := hL1.use
      have HP1 := Lib.hid hP1
      have HG := Lib.hid (below_grown hb1' (some P))
      clear hb1 hb1' hL1 hP1 HP
      go_wp2_with fail
      exact bodyPost_ret (v := .tuple #[.float .f64 val, .nilIface]) (by simp [results, Tryz.results232, go_sem]) rfl ⟨rfl, HP1.out, grown_trans HG.out (set_grown _ _ _ _)⟩)
  · have HP : Hid (∀ w1, Below w.heap.size w w1 → Lb w1 P #[.slice (some ⟨b, off, none⟩) (r.length + 1 + 1 + 1 + 1 + 1 + 1 + 1 + 1) c, .int .u8 0, .bool no] 160 ∧ Pr P b 0 no r (w1.setCell ⟨P, 0, none⟩ (.slice (some ⟨b, off + 8, none⟩) r.length (c - 8)))) := Lib.hid fun w1 hb1 =>
      ⟨hL.blw hb1, Pr.rest1 (l := b0 :: b1 :: b2 :: b3 :: b4 :: b5 :: b6 :: b7 :: r) (r := r) 8 _ (hL.blw hb1) rfl hc hm hbP (Nat.lt_of_lt_of_le hbl hb1.size) (fun j hj => by rw [hb1.cell (p := ⟨b, off + j, none⟩) hbl]; exact hby j hj) (by omega) rfl e1⟩
    clear hby hL hge q0 q1 q2 q3 q4 q5 q6 q7
    go_enter Tryz.func232, Tryz.ntmps232
    go_wp2_with fail
    go_region_law (first
      | (go_simp; go_at_call 270; refine HC.out.mono ?_; rintro _ w1 ⟨rfl, hb1⟩))
    all_goals (
      have hb1' : Below w.heap.size w w1 := ⟨hb1.os, hb1.tape, hb1.output, hb1.size, hb1.block⟩
      obtain ⟨hL1, hP1⟩ := HP.out w1 hb1'
      obtain ⟨k1, f1, l1⟩ := hL1.use
      have HP1 := Lib.hid hP1
      have HG := Lib.hid (below_grown hb1' (some P))
      clear hb1 hb1' hL1 hP1 HP
      go_wp2_with fail
      exact bodyPost_ret (v := .tuple #[.float .f64 val, .nilIface]) (by simp [results, Tryz.results232, go_sem]) rfl ⟨rfl, HP1.out, grown_trans HG.out (set_grown _ _ _ _)⟩)
theorem four_bytes {l : List UInt8} (h : l.length = 4) : ∃ b0 b1 b2 b3, l = [b0, b1, b2, b3] := by
  match l, h with
  | [a, b, c, d], _ => exact ⟨a, b, c, d, rfl⟩
theorem eight_bytes {l : List UInt8} (h : l.length = 8) : ∃ b0 b1 b2 b3 b4 b5 b6 b7, l = [b0, b1, b2, b3, b4, b5, b6, b7] := by
  match l, h with
  | [a, b, c, d, e, f, g, i], _ => exact ⟨a, b, c, d, e, f, g, i, rfl⟩
/-- A number of four bytes. -/
theorem c188 (P b : Nat) (bo : Int) (hbo : bo = 0 ∨ bo = 1) (no : Bool) (l r : List UInt8) (hl : l.length = 4) (w : World) (h : Pr P b bo no (l ++ r) w) :
    Calls Tryz.prog 188 #[.pointer (some ⟨P, 0, none⟩)] w (Took P b bo no (.tuple #[.int .u32 ((dec bo l : Nat) : Int), .nilIface]) r w) := by
  obtain ⟨b0, b1, b2, b3, rfl⟩ := four_bytes hl
  rcases hbo with rfl | rfl
  · exact c188_0 P b no b0 b1 b2 b3 r w h
  · exact c188_1 P b no b0 b1 b2 b3 r w h
/-- A number of eight bytes, as a float's bits. -/
theorem c232 (P b : Nat) (bo : Int) (hbo : bo = 0 ∨ bo = 1) (no : Bool) (l r : List UInt8) (hl : l.length = 8) (w : World) (h : Pr P b bo no (l ++ r) w) :
    Calls Tryz.prog 232 #[.pointer (some ⟨P, 0, none⟩)] w (Took P b bo no (.tuple #[.float .f64 (dec bo l), .nilIface]) r w) := by
  obtain ⟨b0, b1, b2, b3, b4, b5, b6, b7, rfl⟩ := eight_bytes hl
  rcases hbo with rfl | rfl
  · exact c232_0 P b no b0 b1 b2 b3 b4 b5 b6 b7 r w h
  · exact c232_1 P b no b0 b1 b2 b3 b4 b5 b6 b7 r w h
end Go.Proofs.YtahnhhkbdgaidaaGreatDoor
