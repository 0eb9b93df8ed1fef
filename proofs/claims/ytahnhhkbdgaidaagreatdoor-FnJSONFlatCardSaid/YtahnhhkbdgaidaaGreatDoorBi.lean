/-
  The point and the line of plain data.
-/
import Derived.Test.YtahnhhkbdgaidaaGreatDoorBh
namespace Go.Proofs.YtahnhhkbdgaidaaGreatDoor
open Go.RowKit

/-- A line: its type of coordinates and its numbers. -/
structure Ln where
  t : Int
  xs : List Nat
def Ln.fs (l : Ln) : List F := [.atom (.int .u8 l.t), fl l.xs]
/-- A point: its place, and whether it is full. -/
structure Pt where
  c : Crd
  full : Bool
def Pt.fs (p : Pt) : List F := [.atom (.float .f64 p.c.x), .atom (.float .f64 p.c.y), .atom (.float .f64 p.c.z), .atom (.float .f64 p.c.m), .atom (.int .u8 p.c.t), .atom (.bool p.full)]
def Pt.cells (p : Pt) : Array Value := #[.float .f64 p.c.x, .float .f64 p.c.y, .float .f64 p.c.z, .float .f64 p.c.m, .int .u8 p.c.t, .bool p.full]

def lineOf (k d : Int) (ns : List Nat) : Ln := if k = 2 then ⟨d % 4, seqX (d % 4) ns⟩ else ⟨d % 4, []⟩
def emptyPt (t : Int) : Pt := ⟨⟨0, 0, 0, 0, t⟩, false⟩
def pointOf (k d : Int) (ns : List Nat) : Pt := if k = 1 ∧ 0 < (seqX (d % 4) ns).length / dN (d % 4) then ⟨crdOf (d % 4) (seqX (d % 4) ns) 0, true⟩ else emptyPt (d % 4)

theorem nb1 (w : World) (o : Obj) : (w.alloc o).heap[w.heap.size]? = some o := heap_alloc_new w o
theorem nb1' (w : World) (o o' : Obj) : ((w.alloc o).alloc o').heap[w.heap.size]? = some o := by rw [heap_alloc_old _ _ (by simp), heap_alloc_new]
theorem nb2 (w : World) (o o' : Obj) : ((w.alloc o).alloc o').heap[w.heap.size + 1]? = some o' := by simpa using heap_alloc_new (w.alloc o) o'
theorem bl_a1 (w : World) (o : Obj) : Below w.heap.size w (w.alloc o) := (Below.refl _ _).alloc (Nat.le_refl _) _
theorem bl_a2 (w : World) (o o' : Obj) : Below w.heap.size w ((w.alloc o).alloc o') := ((Below.refl _ _).alloc (Nat.le_refl _) _).alloc (by simp) _

/-- All of S but one block. -/
def Ex (S : Nat → Prop) (L : Nat) : Nat → Prop := fun k => S k ∧ k ≠ L
theorem Rd.ex {S : Nat → Prop} {w : World} {f : F} {v : Value} (h : Rd S w f v) {L : Nat} (hL : w.heap.size ≤ L) : Rd (Ex S L) w f v := h.mono fun _ hb hS => ⟨hS, by omega⟩
theorem Rd.unex {S : Nat → Prop} {L : Nat} {w : World} {f : F} {v : Value} (h : Rd (Ex S L) w f v) : Rd S w f v := h.mono fun _ _ hS => hS.1
theorem Rd.set {S : Nat → Prop} {L : Nat} {w : World} {f : F} {v : Value} (h : Rd (Ex S L) w f v) (o : Nat) (x : Value) : Rd (Ex S L) (w.setCell ⟨L, o, none⟩ x) f v := h.setCell (fun hs => hs.2 rfl) x
theorem Ex.up {S : Nat → Prop} {n L m : Nat} (hS : ∀ b, n ≤ b → S b) (hn : n ≤ m) (hL : L < m) : ∀ b, m ≤ b → Ex S L b := fun b hb => ⟨hS b (by omega), by omega⟩

theorem c37 (S : Nat → Prop) (k d : Int) (ns : List Nat) (vn : Value) (ak : Option Addr) (lk ck : Nat) (w : World) (hS : ∀ b, w.heap.size ≤ b → S b) (h : Rd S w (fl ns) vn) :
    Calls Tryz.prog 37 #[.agg #[.int .i64 k, .int .i64 d, vn, .slice ak lk ck]] w fun e w' => ∃ a c, e = .returned (.agg #[.int .u8 (lineOf k d ns).t, .slice a (lineOf k d ns).xs.length c]) ∧ Rd S w' (fl (lineOf k d ns).xs) (.slice a (lineOf k d ns).xs.length c) ∧ Below w.heap.size w w' := by
  obtain ⟨an, cn, rfl⟩ := fl_shape h
  by_cases hk : k = 2
  · subst hk
    have hdef : lineOf 2 d ns = ⟨d % 4, seqX (d % 4) ns⟩ := by simp [lineOf]
    rw [hdef]
    generalize hq : seqX (d % 4) ns = q at *
    have Hq := Lib.hid hq; clear hq hdef
    go_enter Tryz.func37, Tryz.ntmps37
    go_wp2_with fail
    refine (c83 (Ex S (w.heap.size + 1)) d ns _ _ (Ex.up hS (by simp <;> omega) (by simp <;> omega)) (((h.ex (by simp)).alloc _).alloc _)).mono ?_
    rintro e w1 ⟨a, c, rfl, hr, hb1⟩
    rw [Hq.out] at hr ⊢
    go_wp2_with fail
    refine (c89 _ _ _ _ _).mono ?_
    rintro e w2 ⟨rfl, hb2⟩
    have hs1 : w.heap.size + 2 ≤ w1.heap.size := by simpa using hb1.size
    have hL := (hb2.block (w.heap.size + 1) (by omega)).trans ((hb1.block (w.heap.size + 1) (by simp)).trans (nb2 w _ _))
    obtain ⟨kc, kf⟩ := cells_of hL
    clear hL
    go_wp2_with fail
    refine bodyPost_ret (v := .agg #[.int .u8 (d % 4), .slice a q.length c]) (by simp [results, Tryz.results37, go_sem, kc]) rfl ⟨_, _, rfl, ?_, ?_⟩
    · refine Rd.unex (L := w.heap.size + 1) ?_
      repeat (with_reducible first | refine Rd.set ?_ _ _ | exact hr.blw hb2)
    · repeat (with_reducible first | refine Below.setCell ?_ (by simp) _ | exact ((bl_a2 w _ _).trans (hb1.mono (by simp <;> omega))).trans (hb2.mono (by omega)))
  · have hdef : lineOf k d ns = ⟨d % 4, []⟩ := by simp [lineOf, hk]
    rw [hdef]
    have Hq : Hid (seqX (d % 4) [] = []) := Lib.hid (by simp [seqX])
    clear hdef
    go_enter Tryz.func37, Tryz.ntmps37
    go_wp2_with fail
    refine (c83 (Ex S (w.heap.size + 1)) d [] _ _ (Ex.up hS (by simp <;> omega) (by simp <;> omega)) (Rd.nil _ _)).mono ?_
    rintro e w1 ⟨a, c, rfl, hr, hb1⟩
    rw [Hq.out] at hr ⊢
    go_wp2_with fail
    refine (c89 _ _ _ _ _).mono ?_
    rintro e w2 ⟨rfl, hb2⟩
    have hs1 : w.heap.size + 2 ≤ w1.heap.size := by simpa using hb1.size
    have hL := (hb2.block (w.heap.size + 1) (by omega)).trans ((hb1.block (w.heap.size + 1) (by simp)).trans (nb2 w _ _))
    obtain ⟨kc, kf⟩ := cells_of hL
    clear hL
    go_wp2_with fail
    refine bodyPost_ret (v := .agg #[.int .u8 (d % 4), .slice a ([] : List Nat).length c]) (by simp [results, Tryz.results37, go_sem, kc]) rfl ⟨_, _, rfl, ?_, ?_⟩
    · refine Rd.unex (L := w.heap.size + 1) ?_
      have hz : Rd (Ex S (w.heap.size + 1)) w2 (fl []) (.slice a 0 c) := hr.blw hb2
      repeat (with_reducible first | refine Rd.set ?_ _ _ | exact hz)
    · repeat (with_reducible first | refine Below.setCell ?_ (by simp) _ | exact ((bl_a2 w _ _).trans (hb1.mono (by simp <;> omega))).trans (hb2.mono (by omega)))

/-- A block of the call's own. -/
def Lb (w : World) (b : Nat) (cs : Array Value) (T : TypeId) : Prop := w.heap[b]? = some (.cells cs T (0, 0))
theorem Lb.blw {w w' : World} {b : Nat} {cs : Array Value} {T : TypeId} (h : Lb w b cs T) (hb : Below w.heap.size w w') : Lb w' b cs T := (hb.block b (Array.getElem?_eq_some_iff.1 h).1).trans h
theorem Lb.grown {w w' : World} {b : Nat} {cs : Array Value} {T : TypeId} {row : Option Nat} (h : Lb w b cs T) (hb : w.grownBy w' row) (hne : some b ≠ row) : Lb w' b cs T := (hb.block b (Array.getElem?_eq_some_iff.1 h).1 hne).trans h
theorem Lb.use {w : World} {b : Nat} {cs : Array Value} {T : TypeId} (h : Lb w b cs T) : (∀ o, w.cell? ⟨b, o, none⟩ = cs[o]?) ∧ (∀ o, w.frozen? ⟨b, o, none⟩ = false) ∧ b < w.heap.size :=
  ⟨(cells_of h).1, (cells_of h).2, (Array.getElem?_eq_some_iff.1 h).1⟩
theorem Lb.alloc {w : World} {b : Nat} {cs : Array Value} {T : TypeId} (h : Lb w b cs T) (o : Obj) : Lb (w.alloc o) b cs T := h.blw (bl_a1 w o)
theorem Lb.new (w : World) (cs : Array Value) (T : TypeId) : Lb (w.alloc (.cells cs T)) w.heap.size cs T := heap_alloc_new w _
theorem Lb.new' (w : World) (cs : Array Value) (T : TypeId) (o : Obj) : Lb ((w.alloc (.cells cs T)).alloc o) w.heap.size cs T := (Lb.new w cs T).alloc o
theorem Lb.new2 (w : World) (o : Obj) (cs : Array Value) (T : TypeId) : Lb ((w.alloc o).alloc (.cells cs T)) (w.heap.size + 1) cs T := by simpa using Lb.new (w.alloc o) cs T

theorem c35 (S : Nat → Prop) (k d : Int) (ns : List Nat) (vn : Value) (ak : Option Addr) (lk ck : Nat) (w : World) (hS : ∀ b, w.heap.size ≤ b → S b) (h : Rd S w (fl ns) vn) :
    Calls Tryz.prog 35 #[.agg #[.int .i64 k, .int .i64 d, vn, .slice ak lk ck]] w fun e w' => e = .returned (.agg (pointOf k d ns).cells) ∧ Below w.heap.size w w' := by
  have hsf := st_float
  obtain ⟨an, cn, rfl⟩ := fl_shape h
  have h0 : 0 ≤ d % 4 := by omega
  have h1 : d % 4 ≤ 3 := by omega
  have hd := dN_bd (d % 4)
  have hsl : (seqX (d % 4) ns).length ≤ 17592186044416 := by
    obtain ⟨_, _, _, hm, _⟩ := fl_inv h
    unfold seqX; simp; omega
  have hpd : pointOf k d ns = if k = 1 ∧ 0 < (seqX (d % 4) ns).length / dN (d % 4) then ⟨crdOf (d % 4) (seqX (d % 4) ns) 0, true⟩ else emptyPt (d % 4) := rfl
  have hdiv : 0 < (seqX (d % 4) ns).length / dN (d % 4) → dN (d % 4) ≤ (seqX (d % 4) ns).length := fun hp => by
    rcases Nat.lt_or_ge (seqX (d % 4) ns).length (dN (d % 4)) with hlt | hge
    · rw [Nat.div_eq_of_lt hlt] at hp; omega
    · exact hge
  go_enter Tryz.func35, Tryz.ntmps35
  go_wp2_with fail
  refine (c83 S d ns _ _ (fun b hb => hS b (by simp at hb; omega)) ((h.alloc _).alloc _)).mono ?_
  rintro e w1 ⟨a, c, rfl, hr, hb1⟩
  have L0 := (Lb.new' w _ _ _).blw hb1
  have L1 := (Lb.new2 w _ _ _).blw hb1
  have hBw := (bl_a2 w _ _).trans (hb1.mono (by simp <;> omega))
  generalize seqX (d % 4) ns = q at *
  have Hpd := Lib.hid hpd; clear hpd
  have Hdiv := Lib.hid hdiv; clear hdiv
  clear hb1
  have HL0 := Lib.hid L0
  have HL1 := Lib.hid L1
  have HB := Lib.hid hBw
  have hs1 : w.heap.size + 1 < w1.heap.size := L1.use.2.2
  obtain ⟨k0, _, lt0⟩ := L0.use
  clear L0 L1 hBw
  by_cases hk : k = 1
  · subst hk
    go_wp2_with fail
    refine (c84 _ _ _ _ _ h0 h1 hsl).mono ?_
    rintro e w2 ⟨rfl, hb2⟩
    have HL0' := Lib.hid ((HL0.out.alloc _).blw hb2)
    have HL1' := Lib.hid ((HL1.out.alloc _).blw hb2)
    have HL2' := Lib.hid ((Lb.new w1 _ _).blw hb2)
    have hr2 := (hr.alloc _).blw hb2
    have HB' := Lib.hid ((HB.out.trans ((bl_a1 w1 _).mono (by omega))).trans (hb2.mono (by simp; omega)))
    clear hb2 k0
    by_cases hz : 0 < q.length / dN (d % 4)
    · have hz' : (((q.length / dN (d % 4) : Nat) : Int) == 0) = false := by rw [beq_eq_false_iff_ne]; omega
      have hE : pointOf 1 d ns = ⟨crdOf (d % 4) q 0, true⟩ := by rw [Hpd.out]; simp [hz]
      have HE := Lib.hid hE; clear hE
      have hdv := Hdiv.out hz
      obtain ⟨k0, _, lt0'⟩ := HL0'.out.use
      obtain ⟨k2, _, lt2'⟩ := HL2'.out.use
      have Hz := Lib.hid hz; clear hz
      go_wp2_with fail
      refine (c87 S (d % 4) q a c 0 _ h0 h1 hr2 (by omega)).mono ?_
      rintro e w3 ⟨rfl, hb3⟩
      go_wp2_with fail
      refine (c86 _ _ _ _ _ _).mono ?_
      rintro e w4 ⟨rfl, hb4⟩
      have L1' := (HL1'.out.blw hb3).blw hb4
      have HB3 := (HB'.out.trans (hb3.mono (by omega))).trans (hb4.mono (by have := hb3.size; omega))
      obtain ⟨k1, f1, lt1⟩ := L1'.use
      clear hb3 hb4 k0 k2
      go_wp2_with fail
      rw [HE.out]
      refine bodyPost_ret (v := .agg (Pt.cells ⟨crdOf (d % 4) q 0, true⟩)) (by simp [results, Tryz.results35, go_sem, k1, Pt.cells, crdOf]) rfl ⟨rfl, ?_⟩
      repeat (with_reducible first | refine Below.setCell ?_ (by simp) _ | exact HB3)
    · have hz' : (((q.length / dN (d % 4) : Nat) : Int) == 0) = true := by rw [Nat.eq_zero_of_not_pos hz]; rfl
      have hE : pointOf 1 d ns = emptyPt (d % 4) := by rw [Hpd.out]; simp [hz]
      have HE := Lib.hid hE; clear hE
      obtain ⟨k0, _, lt0'⟩ := HL0'.out.use
      clear hz
      go_wp2_with (go_at_call 49; refine (c49 _ _).mono ?_; rintro e w' ⟨rfl, rfl⟩)
      refine (c85 _ _).mono ?_
      rintro e w4 ⟨rfl, hb4⟩
      have L1' := HL1'.out.blw hb4
      have HB3 := HB'.out.trans (hb4.mono (by omega))
      obtain ⟨k1, f1, lt1⟩ := L1'.use
      clear hb4 k0
      go_wp2_with fail
      rw [HE.out]
      refine bodyPost_ret (v := .agg (Pt.cells (emptyPt (d % 4)))) (by simp [results, Tryz.results35, go_sem, k1, Pt.cells, emptyPt]) rfl ⟨rfl, ?_⟩
      repeat (with_reducible first | refine Below.setCell ?_ (by simp) _ | exact HB3)
  · have hkb : (k != 1) = true := by simpa using hk
    have hE : pointOf k d ns = emptyPt (d % 4) := by rw [Hpd.out]; simp [hk]
    have HE := Lib.hid hE; clear hE
    go_wp2_with (go_at_call 49; refine (c49 _ _).mono ?_; rintro e w' ⟨rfl, rfl⟩)
    refine (c85 _ _).mono ?_
    rintro e w4 ⟨rfl, hb4⟩
    have L1' := (HL1.out.alloc _).blw hb4
    have HB3 := (HB.out.trans ((bl_a1 w1 _).mono (by omega))).trans (hb4.mono (by simp; omega))
    obtain ⟨k1, f1, lt1⟩ := L1'.use
    clear hb4 k0
    go_wp2_with fail
    rw [HE.out]
    refine bodyPost_ret (v := .agg (Pt.cells (emptyPt (d % 4)))) (by simp [results, Tryz.results35, go_sem, k1, Pt.cells, emptyPt]) rfl ⟨rfl, ?_⟩
    repeat (with_reducible first | refine Below.setCell ?_ (by simp) _ | exact HB3)
end Go.Proofs.YtahnhhkbdgaidaaGreatDoor
