/-
  The writer of binary forms: points, lines.
  The writer of binary forms: points, polygons.
-/
import Derived.Test.YtahnhhkbdgaidaaGreatDoorKax
namespace Go.Proofs.YtahnhhkbdgaidaaGreatDoor
open Go.RowKit
set_option maxRecDepth 100000
/-- The bytes of geometries. -/
def nanN : Nat := 9221120237041090561
def wkH (k t : Int) : List UInt8 := [1] ++ Lib.leBytes 4 (wcode k t)
def wkSeq (t : Int) (xs : List Nat) : List UInt8 := Lib.leBytes 4 (xs.length / dN t) ++ fby xs
def wkPt (p : Pt) : List UInt8 := wkH 1 p.c.t ++ fby (if p.full then crdNums p.c.t p.c else crdNums p.c.t ⟨nanN, nanN, nanN, nanN, p.c.t⟩)
def wkLn (l : Ln) : List UInt8 := wkH 2 l.t ++ wkSeq l.t l.xs
theorem wkH_len (k t : Int) : (wkH k t).length = 5 := by unfold wkH; rw [List.length_append, Lib.leBytes_length]; rfl
/-- The buffer of a new writer. -/
theorem Bf.bu {B : Nat} {v : Value} {bs : List UInt8} {w w0 : World} (h : Bf B w v.ownBlock v bs w) (hb : Below w.heap.size w w0) : Bu B w0.heap.size v bs (w0.alloc (.cells #[v] 261)) := by
  have h1 := (h.step hb).alloc (.cells #[v] 261)
  exact ⟨h1.own, Lb.new w0 _ _, fun e => by have := (h.blk _ e.symm).2; have := hb.size; omega, Nat.le_trans h.hB (Nat.le_trans hb.size (by simp))⟩
/-- A writer's answer put back into the buffer. -/
theorem Bu.put {B M : Nat} {v v' : Value} {bs bs' : List UInt8} {w w' : World} (h : Bu B M v bs w) (hb : Bf B w v.ownBlock v' bs' w') : Lb w' M #[v] 261 ∧ Bu B M v' bs' (w'.setCell ⟨M, 0, none⟩ v') ∧ Wr w M v (w'.setCell ⟨M, 0, none⟩ v') v' := by
  have lM : Lb w' M #[v] 261 := h.lb.grown hb.kept h.ne
  have hM : M < w.heap.size := h.lb.use.2.2
  have hne : some M ≠ v'.ownBlock := fun e => by
    rcases hb.lies M e.symm with k | k
    · omega
    · exact h.ne k.symm
  have hgs : w'.grownBy (w'.setCell ⟨M, 0, none⟩ v') (some M) := ⟨rfl, rfl, rfl, by simp [World.setCell], fun k _ hk => Below.heap_setCell w' _ _ k (fun e => hk (by rw [e]))⟩
  refine ⟨lM, ⟨hb.own.kept hgs ?_, by simpa using lM.set 0 v', hne, Nat.le_trans h.hB (Nat.le_trans hb.kept.size hgs.size)⟩, ⟨hb.kept.os, hb.kept.tape, hb.kept.output, Nat.le_trans hb.kept.size hgs.size, fun b hlt h1 h2 => (Below.heap_setCell w' _ _ b (by simpa using h1)).trans (hb.kept.block b hlt h2), hb.lies⟩⟩
  cases hv : v'.ownBlock with
  | none => exact .inl rfl
  | some k => exact .inr (fun e => hne (by rw [hv]; exact e.symm))
theorem Bu.here {B M : Nat} {v : Value} {bs : List UInt8} {w : World} (h : Bu B M v bs w) : Bf B w v.ownBlock v bs w := ⟨h.own, grownBy_refl _ _, fun _ hj => .inr hj, h.hB⟩
/-- What an append of a whole geometry answers. -/
def Apnd (B : Nat) (v : Value) (bs X : List UInt8) (w : World) : Ending → World → Prop := fun e w' => ∃ v', e = .returned v' ∧ Bf B w v.ownBlock v' (bs ++ X) w'
/-- A writer under way: its own block, the buffer behind the block next to it, the data that it reads. -/
structure Ws (w : World) (B : Nat) (S : Nat → Prop) (A : Array Value) (TA : TypeId) (f : F) (fv : Value) (v v1 : Value) (bs : List UInt8) (w1 : World) : Prop where
  bu : Bu B (w.heap.size + 1) v1 bs w1
  lb : Lb w1 w.heap.size A TA
  rd : Rd S w1 f fv
  os : w1.os = w.os
  tape : w1.tape = w.tape
  output : w1.output = w.output
  kept : ∀ b, b < w.heap.size → some b ≠ v.ownBlock → w1.heap[b]? = w.heap[b]?
  lies : ∀ j, v1.ownBlock = some j → w.heap.size + 2 ≤ j ∨ v.ownBlock = some j
  size : w.heap.size + 2 ≤ w1.heap.size
  off : Off S v w
  old : ∀ j, v.ownBlock = some j → j < w.heap.size
  hB : B ≤ w.heap.size
theorem Ws.ne {w : World} {B : Nat} {S : Nat → Prop} {A : Array Value} {TA : TypeId} {f : F} {fv v v1 : Value} {bs : List UInt8} {w1 : World} (h : Ws w B S A TA f fv v v1 bs w1) : some w.heap.size ≠ v1.ownBlock := fun e => by
  rcases h.lies _ e.symm with k | k
  · omega
  · have := h.old _ k; omega
theorem Ws.more' {w : World} {B : Nat} {S : Nat → Prop} {A : Array Value} {TA : TypeId} {f : F} {fv v v1 v2 : Value} {bs bs2 : List UInt8} {w1 w2 : World} (h : Ws w B S A TA f fv v v1 bs w1) (hb : Bu B (w.heap.size + 1) v2 bs2 w2) (hW : Wr w1 (w.heap.size + 1) v1 w2 v2) : Ws w B S A TA f fv v v2 bs2 w2 := by
  have hs := h.size
  have hne : ∀ b, b < w.heap.size → some b ≠ v.ownBlock → some b ≠ v1.ownBlock := fun b hb hn e => by
    rcases h.lies b e.symm with k | k
    · omega
    · exact hn k.symm
  refine ⟨hb, hW.lb h.lb (by omega) h.ne, hW.rd h.rd (fun b hS => ⟨by have := (h.off b hS).1; omega, hne b (h.off b hS).1 (h.off b hS).2⟩), hW.os.trans h.os, hW.tape.trans h.tape, hW.output.trans h.output, fun b hlt hn => (hW.block b (by omega) (by omega) (hne b hlt hn)).trans (h.kept b hlt hn), fun j hj => ?_, Nat.le_trans hs hW.size, h.off, h.old, h.hB⟩
  rcases hW.lies j hj with k | k
  · exact .inl (by omega)
  · exact h.lies j k
theorem Ws.more {w : World} {B : Nat} {S : Nat → Prop} {A : Array Value} {TA : TypeId} {f : F} {fv v v1 : Value} {bs X : List UInt8} {w1 w2 : World} {e : Ending} (h : Ws w B S A TA f fv v v1 bs w1) (hm : More B (w.heap.size + 1) v1 bs X w1 e w2) : ∃ v2, e = .returned (.tuple #[]) ∧ Ws w B S A TA f fv v v2 (bs ++ X) w2 := by
  obtain ⟨v2, he, hb, hW⟩ := hm
  exact ⟨v2, he, h.more' hb hW⟩
theorem Ws.step {w : World} {B : Nat} {S : Nat → Prop} {A : Array Value} {TA : TypeId} {f : F} {fv v v1 : Value} {bs : List UInt8} {w1 w2 : World} (h : Ws w B S A TA f fv v v1 bs w1) (hb : Below w1.heap.size w1 w2) : Ws w B S A TA f fv v v1 bs w2 :=
  h.more' (h.bu.step hb) (Wr.of_below _ _ hb)
theorem Ws.start {w : World} {B : Nat} {S : Nat → Prop} {A : Array Value} {TA : TypeId} {f : F} {fv v : Value} {bs : List UInt8} (hb : Bf B w v.ownBlock v bs w) (hS : Off S v w) (hr : Rd S w f fv) : Ws w B S A TA f fv v v bs ((w.alloc (.cells A TA)).alloc (.cells #[v] 261)) := by
  have hB0 := bl_a1 w (.cells A TA)
  have hU := hb.bu hB0
  rw [World.size_alloc] at hU
  exact ⟨hU, (Lb.new w A TA).alloc _, (hr.alloc _).alloc _, rfl, rfl, rfl, fun b hlt _ => (hB0.alloc (by simp) (.cells #[v] 261)).block b hlt, fun j hj => .inr hj, by simp, hS, fun j hj => (hb.blk j hj).2, hb.hB⟩
theorem Ws.done {w : World} {B : Nat} {S : Nat → Prop} {A : Array Value} {TA : TypeId} {f : F} {fv v v1 : Value} {bs : List UInt8} {w1 : World} (h : Ws w B S A TA f fv v v1 bs w1) : Bf B w v.ownBlock v1 bs w1 :=
  ⟨h.bu.own, ⟨h.os, h.tape, h.output, by have := h.size; omega, fun b hlt hne => h.kept b hlt hne⟩, fun j hj => by
    rcases h.lies j hj with k | k
    · exact .inl (by omega)
    · exact .inr k, h.hB⟩
/-- The writer's own block written anew. -/
theorem Ws.set {w : World} {B : Nat} {S : Nat → Prop} {A : Array Value} {TA : TypeId} {f : F} {fv v v1 : Value} {bs : List UInt8} {w1 : World} (h : Ws w B S A TA f fv v v1 bs w1) (o : Nat) (x : Value) : Ws w B S (A.setIfInBounds o x) TA f fv v v1 bs (w1.setCell ⟨w.heap.size, o, none⟩ x) := by
  have hgs : w1.grownBy (w1.setCell ⟨w.heap.size, o, none⟩ x) (some w.heap.size) := ⟨rfl, rfl, rfl, by simp [World.setCell], fun k _ hk => Below.heap_setCell w1 _ _ k (fun e => hk (by rw [e]))⟩
  refine ⟨⟨h.bu.own.kept hgs ?_, h.bu.lb.far (by simp) _, h.bu.ne, Nat.le_trans h.bu.hB hgs.size⟩, h.lb.set o x, h.rd.setCell (fun hs => by have := (h.off _ hs).1; simp at this) x, h.os, h.tape, h.output, fun b hlt hne => (Below.heap_setCell w1 _ _ b (by simp; omega)).trans (h.kept b hlt hne), h.lies, Nat.le_trans h.size hgs.size, h.off, h.old, h.hB⟩
  cases hv : v1.ownBlock with
  | none => exact .inl rfl
  | some k => exact .inr (fun e => h.ne (by rw [hv]; exact e.symm))
set_option maxHeartbeats 2000000 in
theorem c172 (S : Nat → Prop) (B : Nat) (v : Value) (bs : List UInt8) (l : Ln) (a : Option Addr) (c : Nat) (w : World) (hok : l.ok) (hl : l.xs.length ≤ 100000000) (hx : ∀ x ∈ l.xs, x < 18446744073709551616) (hb : Bf B w v.ownBlock v bs w) (hlen : bs.length ≤ 9000000000000) (hS : Off S v w) (h : Rd S w (fl l.xs) (.slice a l.xs.length c)) :
    Calls Tryz.prog 172 #[.agg #[.int .u8 l.t, .slice a l.xs.length c], v] w (Apnd B v bs (wkLn l) w) := by
  obtain ⟨t, xs⟩ := l
  obtain ⟨t0, t1, _, _⟩ := hok
  simp only at t0 t1 hl hx h ⊢
  obtain ⟨av, cv, rfl⟩ := hb.shape
  have HS := Lib.hid (Ws.start (A := #[.int .u8 t, .slice a xs.length c]) (TA := 69) hb hS h)
  have Hx := Lib.hid hx
  have hL : (Lib.leBytes 4 (wcode 2 t)).length = 4 := Lib.leBytes_length _ _
  have HL := Lib.hid hL
  clear hb hS h hx hL
  go_enter Tryz.func172, Tryz.ntmps172
  go_wp2_with fail
  refine (c217 _ _ _ _).mono ?_
  rintro _ w0 ⟨rfl, rfl⟩
  have H1 := Lib.hid (c218 B (w.heap.size + 1) (.slice av bs.length cv) bs _ HS.out.bu (by omega))
  go_wp2_with fail
  refine H1.out.mono ?_
  rintro _ w1 hm
  obtain ⟨v1, rfl, hs1⟩ := HS.out.more hm
  obtain ⟨k1, _, _⟩ := hs1.lb.use
  have HS1 := Lib.hid hs1
  clear hm hs1 HS H1
  go_wp2_with fail
  refine (c139 _ _ _ _ _).mono ?_
  rintro _ w2 ⟨rfl, hb2⟩
  have hs2 := HS1.out.step hb2
  have H2 := Lib.hid (c219 B (w.heap.size + 1) v1 (bs ++ [1]) 2 t w2 hs2.bu (by omega) (by omega) t0 t1 (by simp; omega))
  have HS2 := Lib.hid hs2
  clear hb2 HS1 k1 hs2
  go_wp2_with fail
  refine H2.out.mono ?_
  rintro _ w3 hm
  obtain ⟨v3, rfl, hs3⟩ := HS2.out.more hm
  obtain ⟨k3, _, _⟩ := hs3.lb.use
  have H3 := Lib.hid (c223 S B (w.heap.size + 1) v3 _ t xs a c w3 hs3.bu (by have := HL.out; simp only [List.length_append, List.length_cons, List.length_nil]; omega) t0 t1 Hx.out hl (fun b hSb => ⟨by have := (hs3.off b hSb).1; omega, fun e => by
    rcases hs3.lies b e.symm with k | k
    · have := (hs3.off b hSb).1; omega
    · exact (hs3.off b hSb).2 k.symm⟩) hs3.rd)
  have HS3 := Lib.hid hs3
  clear hm HS2 hs3 H2
  go_wp2_with fail
  refine H3.out.mono ?_
  rintro _ w4 hm
  obtain ⟨v4, rfl, hs4⟩ := HS3.out.more hm
  obtain ⟨k4, _, _⟩ := hs4.bu.lb.use
  have HS4 := Lib.hid hs4
  clear hm hs4 HS3 H3
  go_wp2_with fail
  go_ret
  exact ⟨v4, rfl, by have := HS4.out.done; simpa [wkLn, wkH, wkSeq] using this⟩
end Go.Proofs.YtahnhhkbdgaidaaGreatDoor
namespace Go.Proofs.YtahnhhkbdgaidaaGreatDoor
open Go.RowKit
set_option maxRecDepth 100000
theorem Off.none (v : Value) (w : World) : Off (fun _ => False) v w := fun _ h => h.elim
theorem Ws.offM {w : World} {B : Nat} {S : Nat → Prop} {A : Array Value} {TA : TypeId} {f : F} {fv v v1 : Value} {bs : List UInt8} {w1 : World} (h : Ws w B S A TA f fv v v1 bs w1) : ∀ b, S b → b ≠ w.heap.size + 1 ∧ some b ≠ v1.ownBlock := fun b hSb =>
  ⟨by have := (h.off b hSb).1; omega, fun e => by
    rcases h.lies b e.symm with k | k
    · have := (h.off b hSb).1; omega
    · exact (h.off b hSb).2 k.symm⟩
set_option maxHeartbeats 2000000 in
theorem c171_t (B : Nat) (v : Value) (bs : List UInt8) (x y z m : Nat) (t : Int) (w : World) (t0 : 0 ≤ t) (t1 : t ≤ 3) (hx : ∀ n ∈ crdNums t ⟨x, y, z, m, t⟩, n < 18446744073709551616) (hb : Bf B w v.ownBlock v bs w) (hlen : bs.length ≤ 9000000000000) :
    Calls Tryz.prog 171 #[.agg #[.float .f64 x, .float .f64 y, .float .f64 z, .float .f64 m, .int .u8 t, .bool true], v] w (Apnd B v bs (wkH 1 t ++ fby (crdNums t ⟨x, y, z, m, t⟩)) w) := by
  have hsf := st_float
  obtain ⟨av, cv, rfl⟩ := hb.shape
  have HS := Lib.hid (Ws.start (A := #[.float .f64 x, .float .f64 y, .float .f64 z, .float .f64 m, .int .u8 t, .bool true]) (TA := 63) (S := fun _ => False) (f := .atom (.bool true)) (fv := .bool true) hb (Off.none _ _) (.atom _))
  have hL : (Lib.leBytes 4 (wcode 1 t)).length = 4 := Lib.leBytes_length _ _
  have HL := Lib.hid hL
  have Hx := Lib.hid hx
  clear hb hL hx
  go_enter Tryz.func171, Tryz.ntmps171
  go_wp2_with fail
  refine (c217 _ _ _ _).mono ?_
  rintro _ w0 ⟨rfl, rfl⟩
  have H1 := Lib.hid (c218 B (w.heap.size + 1) (.slice av bs.length cv) bs _ HS.out.bu (by omega))
  go_wp2_with fail
  refine H1.out.mono ?_
  rintro _ w1 hm
  obtain ⟨v1, rfl, hs1⟩ := HS.out.more hm
  obtain ⟨k1, _, _⟩ := hs1.lb.use
  have HS1 := Lib.hid hs1
  clear hm hs1 HS H1
  go_wp2_with fail
  refine (c142 _ _ _ _ _ _ _).mono ?_
  rintro _ w2 ⟨rfl, hb2⟩
  have hs2 := HS1.out.step hb2
  have H2 := Lib.hid (c219 B (w.heap.size + 1) v1 (bs ++ [1]) 1 t w2 hs2.bu (by omega) (by omega) t0 t1 (by simp; omega))
  have HS2 := Lib.hid hs2
  clear hb2 HS1 k1 hs2
  go_wp2_with fail
  refine H2.out.mono ?_
  rintro _ w3 hm
  obtain ⟨v3, rfl, hs3⟩ := HS2.out.more hm
  obtain ⟨k3, f3, l3⟩ := hs3.lb.use
  have hlb : (bs ++ [1] ++ Lib.leBytes 4 (wcode 1 t)).length ≤ 9000000000100 := by have := HL.out; simp only [List.length_append, List.length_cons, List.length_nil]; omega
  have H3 := Lib.hid (c222 B (w.heap.size + 1) v3 _ ⟨x, y, z, m, t⟩ w3 t0 t1 Hx.out hs3.bu (by omega))
  have HS3 := Lib.hid hs3
  clear hm HS2 hs3 H2
  go_wp2_with fail
  refine H3.out.mono ?_
  rintro _ w4 hm
  obtain ⟨v4, rfl, hs4⟩ := HS3.out.more hm
  obtain ⟨k5, _, _⟩ := hs4.bu.lb.use
  have HS4 := Lib.hid hs4
  clear hm hs4 HS3 H3
  go_wp2_with fail
  go_ret
  exact ⟨v4, rfl, by have := HS4.out.done; simpa [wkH] using this⟩
set_option maxHeartbeats 2000000 in
theorem c171_f (B : Nat) (v : Value) (bs : List UInt8) (x y z m : Nat) (t : Int) (w : World) (t0 : 0 ≤ t) (t1 : t ≤ 3) (hb : Bf B w v.ownBlock v bs w) (hlen : bs.length ≤ 9000000000000) :
    Calls Tryz.prog 171 #[.agg #[.float .f64 x, .float .f64 y, .float .f64 z, .float .f64 m, .int .u8 t, .bool false], v] w (Apnd B v bs (wkH 1 t ++ fby (crdNums t ⟨nanN, nanN, nanN, nanN, t⟩)) w) := by
  have hsf := st_float
  obtain ⟨av, cv, rfl⟩ := hb.shape
  have HS := Lib.hid (Ws.start (A := #[.float .f64 x, .float .f64 y, .float .f64 z, .float .f64 m, .int .u8 t, .bool false]) (TA := 63) (S := fun _ => False) (f := .atom (.bool true)) (fv := .bool true) hb (Off.none _ _) (.atom _))
  have hL : (Lib.leBytes 4 (wcode 1 t)).length = 4 := Lib.leBytes_length _ _
  have HL := Lib.hid hL
  have H221 := Lib.hid c221
  clear hb hL
  go_enter Tryz.func171, Tryz.ntmps171
  go_wp2_with fail
  refine (c217 _ _ _ _).mono ?_
  rintro _ w0 ⟨rfl, rfl⟩
  have H1 := Lib.hid (c218 B (w.heap.size + 1) (.slice av bs.length cv) bs _ HS.out.bu (by omega))
  go_wp2_with fail
  refine H1.out.mono ?_
  rintro _ w1 hm
  obtain ⟨v1, rfl, hs1⟩ := HS.out.more hm
  obtain ⟨k1, _, _⟩ := hs1.lb.use
  have HS1 := Lib.hid hs1
  clear hm hs1 HS H1
  go_wp2_with fail
  refine (c142 _ _ _ _ _ _ _).mono ?_
  rintro _ w2 ⟨rfl, hb2⟩
  have hs2 := HS1.out.step hb2
  have H2 := Lib.hid (c219 B (w.heap.size + 1) v1 (bs ++ [1]) 1 t w2 hs2.bu (by omega) (by omega) t0 t1 (by simp; omega))
  have HS2 := Lib.hid hs2
  clear hb2 HS1 k1 hs2
  go_wp2_with fail
  refine H2.out.mono ?_
  rintro _ w3 hm
  obtain ⟨v3, rfl, hs3⟩ := HS2.out.more hm
  obtain ⟨k3, f3, l3⟩ := hs3.lb.use
  have hlb : (bs ++ [1] ++ Lib.leBytes 4 (wcode 1 t)).length ≤ 9000000000100 := by have := HL.out; simp only [List.length_append, List.length_cons, List.length_nil]; omega
  have hs4 := (((hs3.set 0 (.float .f64 nanN)).set 1 (.float .f64 nanN)).set 2 (.float .f64 nanN)).set 3 (.float .f64 nanN)
  have hnn : ∀ n ∈ crdNums t ⟨nanN, nanN, nanN, nanN, t⟩, n < 18446744073709551616 := fun n hn => by
    have : n = nanN := by
      unfold crdNums at hn
      simp only [List.mem_append, List.mem_cons, List.not_mem_nil, or_false] at hn
      rcases hn with (h | h) | h
      · rcases h with h | h <;> exact h
      · split at h <;> simp at h; exact h
      · split at h <;> simp at h; exact h
    rw [this]; decide
  have H3 := Lib.hid (c222 B (w.heap.size + 1) v3 _ ⟨nanN, nanN, nanN, nanN, t⟩ _ t0 t1 hnn hs4.bu (by omega))
  have hsz3 : w.heap.size + 2 ≤ w3.heap.size := hs3.size
  obtain ⟨k4, _, _⟩ := hs4.lb.use
  have HS3 := Lib.hid hs4
  have HS30 := Lib.hid hs3
  clear hm HS2 hs3 H2 hnn hs4
  go_wp2_with (go_at_call 221; refine (H221.out _).mono ?_; rintro _ _ ⟨rfl, rfl⟩)
  refine H3.out.mono ?_
  rintro _ w4 hm
  obtain ⟨v4, rfl, hs4⟩ := HS3.out.more hm
  obtain ⟨k5, _, _⟩ := hs4.bu.lb.use
  have HS4 := Lib.hid hs4
  clear hm hs4 HS3 H3
  go_wp2_with fail
  go_ret
  exact ⟨v4, rfl, by have := HS4.out.done; simpa [wkH] using this⟩
theorem c171 (B : Nat) (v : Value) (bs : List UInt8) (p : Pt) (w : World) (hok : p.ok) (hx : p.full = true → ∀ n ∈ crdNums p.c.t p.c, n < 18446744073709551616) (hb : Bf B w v.ownBlock v bs w) (hlen : bs.length ≤ 9000000000000) :
    Calls Tryz.prog 171 #[.agg p.cells, v] w (Apnd B v bs (wkPt p) w) := by
  obtain ⟨⟨x, y, z, m, t⟩, full⟩ := p
  cases full
  · exact c171_f B v bs x y z m t w hok.1 hok.2 hb hlen
  · exact c171_t B v bs x y z m t w hok.1 hok.2 (hx rfl) hb hlen
/-- The bytes of parts, so many of them. -/
def YX (X : Nat → List UInt8) (j : Nat) : List UInt8 := (List.range j).flatMap X
theorem YX_zero (X : Nat → List UInt8) : YX X 0 = [] := rfl
theorem YX_succ (X : Nat → List UInt8) (j : Nat) : YX X (j + 1) = YX X j ++ X j := by unfold YX; rw [List.range_succ, List.flatMap_append]; simp
set_option maxHeartbeats 4000000 in
theorem c173 (S : Nat → Prop) (B : Nat) (v : Value) (bs : List UInt8) (ls : List Ln) (X : Nat → List UInt8) (t : Int) (a : Option Addr) (c : Nat) (w : World) (hlen : ls.length ≤ 1000000) (hok : ∀ l ∈ ls, l.ok) (hl : ∀ l ∈ ls, l.xs.length ≤ 100000000) (hx : ∀ l ∈ ls, ∀ x ∈ l.xs, x < 18446744073709551616) (t0 : 0 ≤ t) (t1 : t ≤ 3)
    (hX : ∀ j (h : j < ls.length), X j = wkSeq (ls[j]).t (ls[j]).xs) (hY : ∀ j, j ≤ ls.length → bs.length + (YX X j).length ≤ 9000000000000) (hb : Bf B w v.ownBlock v bs w) (hS : Off S v w) (h : Rd S w (.list (ls.map Ln.fs)) (.slice a ls.length c)) :
    Calls Tryz.prog 173 #[.agg #[.slice a ls.length c, .int .u8 t], v] w (Apnd B v bs (wkH 3 t ++ Lib.leBytes 4 ls.length ++ YX X ls.length) w) := by
  obtain ⟨av, cv, rfl⟩ := hb.shape
  have HS := Lib.hid (Ws.start (A := #[.slice a ls.length c, .int .u8 t]) (TA := 73) hb hS h)
  have hL : (Lib.leBytes 4 (wcode 3 t)).length = 4 := Lib.leBytes_length _ _
  have HL := Lib.hid hL
  have hbl : bs.length ≤ 9000000000000 := by have := hY 0 (Nat.zero_le _); omega
  have HY := Lib.hid hY; have HX := Lib.hid hX; have Hok := Lib.hid hok; have Hl := Lib.hid hl; have Hx := Lib.hid hx
  clear hb hS h hL hY hX hok hl hx
  go_enter Tryz.func173, Tryz.ntmps173
  go_wp2_with fail
  refine (c217 _ _ _ _).mono ?_
  rintro _ w0 ⟨rfl, rfl⟩
  have H1 := Lib.hid (c218 B (w.heap.size + 1) (.slice av bs.length cv) bs _ HS.out.bu (by omega))
  go_wp2_with fail
  refine H1.out.mono ?_
  rintro _ w1 hm
  obtain ⟨v1, rfl, hs1⟩ := HS.out.more hm
  obtain ⟨k1, _, _⟩ := hs1.lb.use
  have H2 := Lib.hid (c219 B (w.heap.size + 1) v1 (bs ++ [1]) 3 t w1 hs1.bu (by omega) (by omega) t0 t1 (by simp; omega))
  have HS1 := Lib.hid hs1
  clear hm hs1 HS H1
  go_wp2_with fail
  refine H2.out.mono ?_
  rintro _ w2 hm
  obtain ⟨v2, rfl, hs2⟩ := HS1.out.more hm
  obtain ⟨k2, _, _⟩ := hs2.lb.use
  have H3 := Lib.hid (c220 B (w.heap.size + 1) v2 _ ls.length w2 hs2.bu (by omega) (by have := HL.out; simp only [List.length_append, List.length_cons, List.length_nil]; omega))
  have HS2 := Lib.hid hs2
  clear hm hs2 HS1 H2 k1
  go_wp2_with fail
  refine H3.out.mono ?_
  rintro _ w3 hm
  obtain ⟨v3, rfl, hs3⟩ := HS2.out.more hm
  obtain ⟨k3, _, _⟩ := hs3.lb.use
  have hs3' : Ws w B S #[.slice a ls.length c, .int .u8 t] 73 (.list (ls.map Ln.fs)) (.slice a ls.length c) (.slice av bs.length cv) v3 (bs ++ (wkH 3 t ++ Lib.leBytes 4 ls.length) ++ YX X 0) w3 := by
    have e : bs ++ [1] ++ Lib.leBytes 4 (wcode 3 t) ++ Lib.leBytes 4 ls.length = bs ++ (wkH 3 t ++ Lib.leBytes 4 ls.length) ++ YX X 0 := by simp [wkH, YX_zero]
    rw [e] at hs3; exact hs3
  have HS3 := Lib.hid hs3'
  clear hm hs3 hs3' HS2 H3 k2
  go_wp2_with fail
  go_loopw [25] (fun i wr => ∃ j : Nat, ∃ vj, j ≤ ls.length ∧ i = .int .i64 j ∧ Ws w B S #[.slice a ls.length c, .int .u8 t] 73 (.list (ls.map Ln.fs)) (.slice a ls.length c) (.slice av bs.length cv) vj (bs ++ (wkH 3 t ++ Lib.leBytes 4 ls.length) ++ YX X j) wr) (fun i _ => ls.length - (intOf i).toNat)
  case atStart => exact ⟨0, _, Nat.zero_le _, rfl, HS3.out⟩
  case round =>
    clear HS3 k3
    obtain ⟨j, vj, hj, rfl, hs⟩ := hrel
    by_cases hlt : j < ls.length
    · obtain ⟨a0, c0, e0, hm, hat⟩ := lines_at hs.rd
      obtain ⟨rfl, _, rfl⟩ := Value.slice.inj e0
      obtain ⟨b, off, a', c', rfl, hSb, hbl2, q0, q1, hr⟩ := hat j hlt
      have hlo := Hok.out _ (List.getElem_mem hlt)
      have hll := Hl.out _ (List.getElem_mem hlt)
      have hlx := Hx.out _ (List.getElem_mem hlt)
      have hXj := HX.out j hlt
      generalize ls[j] = l at *
      obtain ⟨lt, lx⟩ := l
      simp only at hlo hll hlx hXj q0 q1 hr
      have hb1 := bl_a1 wr (.cells #[.int .u8 lt, .slice a' lx.length c'] 69)
      have hsA := hs.step hb1
      have hrA := Lib.hid (hr.alloc (.cells #[.int .u8 lt, .slice a' lx.length c'] 69))
      have hle := Lb.new wr #[.int .u8 lt, .slice a' lx.length c'] 69
      obtain ⟨ke, _, _⟩ := hle.use
      have HSA := Lib.hid hsA
      have Hlo := Lib.hid hlo; have Hlx := Lib.hid hlx; have HXj := Lib.hid hXj
      clear hat e0 hs hsA hr hle hlo hlx hXj hb1
      go_wp2_with fail
      refine (c140 _ _ _ _ _).mono ?_
      rintro _ w5 ⟨rfl, hb5⟩
      have hs5 := (HSA.out.step hb5).step (bl_a1 w5 (.cells #[.int .u8 lt, .slice a' lx.length c'] 67))
      have hr5 := (hrA.out.blw hb5).alloc (.cells #[.int .u8 lt, .slice a' lx.length c'] 67)
      have hsz5 : w.heap.size + 2 ≤ w5.heap.size := by have := HSA.out.size; have := hb5.size; omega
      have hlY := HY.out j (by omega)
      have H4 := Lib.hid (c223 S B (w.heap.size + 1) vj _ lt lx a' c' _ hs5.bu (by have := HL.out; simp only [wkH, List.length_append, List.length_cons, List.length_nil, Lib.leBytes_length]; omega) Hlo.out.1 Hlo.out.2.1 Hlx.out hll hs5.offM hr5)
      have HS5 := Lib.hid hs5
      clear hb5 hs5 hr5 hrA HSA ke
      go_wp2_with fail
      refine H4.out.mono ?_
      rintro _ w6 hm6
      obtain ⟨v6, rfl, hs6⟩ := HS5.out.more hm6
      have HS6 := Lib.hid hs6
      clear hm6 hs6 HS5 H4
      go_wp2_with fail
      go_roundw
      case rel =>
        refine ⟨j + 1, v6, by omega, by go_num, ?_⟩
        rw [YX_succ, HXj.out, ← List.append_assoc]
        exact HS6.out
      case measure => simp [intOf]; omega
    · obtain rfl : j = ls.length := by omega
      have hdl : decide (((ls.length : Nat) : Int) < ls.length) = false := by simp
      obtain ⟨k5, _, _⟩ := hs.bu.lb.use
      have HS4 := Lib.hid hs
      clear hs
      go_wp2_with fail
      go_ret
      exact ⟨vj, rfl, by have := HS4.out.done; simpa using this⟩
end Go.Proofs.YtahnhhkbdgaidaaGreatDoor
