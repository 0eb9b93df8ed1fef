/-
  Polygons and lines under another type of coordinates.
-/
import Derived.Test.YtahnhhkbdgaidaaGreatDoorKad
namespace Go.Proofs.YtahnhhkbdgaidaaGreatDoor
open Go.RowKit
/-- A polygon: rings, a type. -/
structure Pg where
  rings : List Ln
  t : Int
def Pg.fs (p : Pg) : List F := [.list (p.rings.map Ln.fs), .atom (.int .u8 p.t)]
def Pg.force (p : Pg) (t' : Int) : Pg := ⟨p.rings.map (·.force t'), t'⟩
inductive Geo where
  | pt (p : Pt)
  | ln (l : Ln)
  | pg (p : Pg)
  | mp (ps : List Pt) (t : Int)
  | ml (ls : List Ln) (t : Int)
  | mg (ps : List Pg) (t : Int)
  | gc (gs : List Geo) (t : Int)
def Geo.kind : Geo → Int
  | .pt _ => 1 | .ln _ => 2 | .pg _ => 3 | .mp _ _ => 4 | .ml _ _ => 5 | .mg _ _ => 6 | .gc _ _ => 0
def Geo.tid : Geo → TypeId
  | .pt _ => 168 | .ln _ => 169 | .pg _ => 170 | .mp _ _ => 171 | .ml _ _ => 172 | .mg _ _ => 173 | .gc _ _ => 176
def Geo.t : Geo → Int
  | .pt p => p.c.t | .ln l => l.t | .pg p => p.t | .mp _ t => t | .ml _ t => t | .mg _ t => t | .gc _ t => t
mutual
def Geo.inner : Geo → List F
  | .pt p => p.fs
  | .ln l => l.fs
  | .pg p => p.fs
  | .mp ps t => [.list (ps.map Pt.fs), .atom (.int .u8 t)]
  | .ml ls t => [.list (ls.map Ln.fs), .atom (.int .u8 t)]
  | .mg ps t => [.list (ps.map Pg.fs), .atom (.int .u8 t)]
  | .gc gs t => [.list (Geo.fsL gs), .atom (.int .u8 t)]
def Geo.fsL : List Geo → List (List F)
  | [] => []
  | g :: r => [.atom (.int .i64 g.kind), .box g.tid g.inner] :: Geo.fsL r
end
def Geo.fs (g : Geo) : List F := [.atom (.int .i64 g.kind), .box g.tid g.inner]
theorem Geo.fsL_map : ∀ l : List Geo, Geo.fsL l = l.map Geo.fs
  | [] => by simp [Geo.fsL]
  | g :: r => by simp [Geo.fsL, Geo.fs, Geo.fsL_map r]
/-- A slice of structs that is filled in place: what stands there so far. -/
structure Fill (S : Nat → Prop) (w : World) (g : Nat) (E : TypeId) (sz n : Nat) (es : List (List F)) (cs : Array Value) : Prop where
  size : cs.size = n * sz
  blk : Lb w g cs E
  lens : ∀ i (hi : i < es.length), (es[i]).length = sz
  rd : ∀ i (hi : i < es.length) j (hj : j < (es[i]).length), ∃ x, cs[i * sz + j]? = some x ∧ Rd (Ex S g) w (es[i][j]) x
theorem Fill.blw {S : Nat → Prop} {w w' : World} {g : Nat} {E : TypeId} {sz n : Nat} {es : List (List F)} {cs : Array Value} (h : Fill S w g E sz n es cs) (hb : Below w.heap.size w w') : Fill S w' g E sz n es cs :=
  ⟨h.size, h.blk.blw hb, h.lens, fun i hi j hj => let ⟨x, hx, r⟩ := h.rd i hi j hj; ⟨x, hx, r.blw hb⟩⟩
theorem Fill.start {S : Nat → Prop} {w : World} {g : Nat} {E : TypeId} {sz n : Nat} {cs : Array Value} (hs : cs.size = n * sz) (hb : Lb w g cs E) : Fill S w g E sz n [] cs :=
  ⟨hs, hb, by simp, by simp⟩
theorem Fill.next {S : Nat → Prop} {w w' : World} {g : Nat} {E : TypeId} {sz n : Nat} {es : List (List F)} {cs cs' : Array Value} (h : Fill S w g E sz n es cs) (fs : List F) (hfs : fs.length = sz) (hs : cs'.size = n * sz) (hb : Lb w' g cs' E)
    (hkeep : ∀ b, b < w.heap.size → b ≠ g → w'.heap[b]? = w.heap[b]?) (hsz : w.heap.size ≤ w'.heap.size)
    (hold : ∀ p, p < es.length * sz → cs'[p]? = cs[p]?) (hnew : ∀ j (hj : j < fs.length), ∃ x, cs'[es.length * sz + j]? = some x ∧ Rd (Ex S g) w' (fs[j]) x) : Fill S w' g E sz n (es ++ [fs]) cs' := by
  refine ⟨hs, hb, fun i hi => ?_, fun i hi j hj => ?_⟩
  · by_cases hlt : i < es.length
    · rw [List.getElem_append_left hlt]; exact h.lens i hlt
    · simp at hi
      obtain rfl : i = es.length := by omega
      simpa using hfs
  · by_cases hlt : i < es.length
    · have e : (es ++ [fs])[i] = es[i] := List.getElem_append_left hlt
      simp only [e] at hj ⊢
      obtain ⟨x, hx, r⟩ := h.rd i hlt j hj
      have hj' : j < sz := by rw [h.lens i hlt] at hj; exact hj
      have hp : i * sz + j < es.length * sz := by
        have : (i + 1) * sz ≤ es.length * sz := Nat.mul_le_mul_right _ hlt
        rw [Nat.succ_mul] at this; omega
      exact ⟨x, (hold _ hp).trans hx, r.step (fun b hb hS => ⟨hkeep b hb hS.2, hS⟩) hsz⟩
    · simp at hi
      obtain rfl : i = es.length := by omega
      have e : (es ++ [fs])[es.length] = fs := by simp
      simp only [e] at hj ⊢
      exact hnew j hj
theorem Fill.done {S : Nat → Prop} {w : World} {g : Nat} {E : TypeId} {sz n : Nat} {es : List (List F)} {cs : Array Value} (h : Fill S w g E sz n es cs) (c : Nat) (hsz : 0 < sz) (hn : es.length = n) (hS : S g) (hm : n ≤ 17592186044416) : Rd S w (.list es) (.slice (some ⟨g, 0, none⟩) n c) := by
  subst hn
  refine .list es g 0 c sz (fun i j => cs[i * sz + j]?.getD undef) hsz hm h.lens hS h.blk.use.2.2 (fun i j hi hj => ?_) (fun i hi j hj => ?_)
  · obtain ⟨x, hx, _⟩ := h.rd i hi j (by rw [h.lens i hi]; exact hj)
    rw [Nat.zero_add, h.blk.use.1, hx]; simp
  · obtain ⟨x, hx, r⟩ := h.rd i hi j hj
    rw [hx]
    exact r.unex
theorem take_map_succ {α β : Type} (l : List α) (f : α → β) (j : Nat) (h : j < l.length) : (l.take (j + 1)).map f = (l.take j).map f ++ [f l[j]] := by
  rw [List.take_succ_eq_append_getElem h, List.map_append]; rfl
theorem two_old {cs : Array Value} {j p : Nat} {u v : Value} (hp : p < j * 2) : ((cs.setIfInBounds (j * 2) u).setIfInBounds (j * 2 + 1) v)[p]? = cs[p]? := by
  rw [Array.getElem?_setIfInBounds_ne (by omega), Array.getElem?_setIfInBounds_ne (by omega)]
theorem two_new0 {cs : Array Value} {j : Nat} {u v : Value} (hp : j * 2 + 1 < cs.size) : ((cs.setIfInBounds (j * 2) u).setIfInBounds (j * 2 + 1) v)[j * 2 + 0]? = some u := by
  rw [Array.getElem?_setIfInBounds_ne (by omega), Array.getElem?_setIfInBounds]; simp; omega
theorem two_new1 {cs : Array Value} {j : Nat} {u v : Value} (hp : j * 2 + 1 < cs.size) : ((cs.setIfInBounds (j * 2) u).setIfInBounds (j * 2 + 1) v)[j * 2 + 1]? = some v := by
  rw [Array.getElem?_setIfInBounds]; simp [hp]
theorem keep_two {w : World} {g : Nat} {o o' : Nat} {u v : Value} : ∀ b, b < w.heap.size → b ≠ g → ((w.setCell ⟨g, o, none⟩ u).setCell ⟨g, o', none⟩ v).heap[b]? = w.heap[b]? := fun b _ hb => by
  rw [Below.heap_setCell _ _ _ _ hb, Below.heap_setCell _ _ _ _ hb]
/-- A line among lines in memory. -/
theorem lines_at {S : Nat → Prop} {w : World} {ls : List Ln} {v : Value} (h : Rd S w (.list (ls.map Ln.fs)) v) : ∃ a c, v = .slice a ls.length c ∧ ls.length ≤ 17592186044416 ∧
    ∀ i (hi : i < ls.length), ∃ b off a' c', a = some ⟨b, off, none⟩ ∧ S b ∧ b < w.heap.size ∧ w.cell? ⟨b, off + i * 2, none⟩ = some (.int .u8 (ls[i]).t) ∧ w.cell? ⟨b, off + i * 2 + 1, none⟩ = some (.slice a' (ls[i]).xs.length c') ∧ Rd S w (fl (ls[i]).xs) (.slice a' (ls[i]).xs.length c') := by
  obtain ⟨a, c, rfl, hm, hi⟩ := list_at h 2 (by simp [Ln.fs])
  simp only [List.length_map] at *
  refine ⟨a, c, rfl, hm, fun i hlt => ?_⟩
  obtain ⟨b, off, rfl, hS, hb, x, hx⟩ := hi i hlt
  have e : (ls.map Ln.fs)[i]'(by simpa using hlt) = [.atom (.int .u8 (ls[i]).t), fl (ls[i]).xs] := by simp [Ln.fs]
  obtain ⟨c0, r0⟩ := hx 0 (by rw [e]; simp)
  obtain ⟨c1, r1⟩ := hx 1 (by rw [e]; simp)
  simp only [e, List.getElem_cons_zero, List.getElem_cons_succ] at r0 r1
  rw [r0.atom_inv] at c0
  obtain ⟨a', c', e1⟩ := fl_shape r1
  rw [e1] at c1 r1
  exact ⟨b, off, a', c', rfl, hS, hb, by simpa using c0, c1, r1⟩
end Go.Proofs.YtahnhhkbdgaidaaGreatDoor
namespace Go.Proofs.YtahnhhkbdgaidaaGreatDoor
open Go.RowKit
theorem mk_any {P : Program} (t e : TypeId) (z : Value) (sz bytes : Nat) (ht : P.underlying t = some (.slice e)) (hinfo : (P.info? e).map (fun i => (i.zero, i.size, i.bytes)) = some (some z, sz, bytes))
    (n : Nat) (hbytes : bytes * n ≤ 281474976710656) (h63 : n ≤ 9223372036854775807) (w : World) :
    (Instr.makeSlice t (.int .i64 (n : Int)) (.int .i64 (n : Int))).run P w = .ok (.slice (some ⟨w.heap.size, 0, none⟩) n n) (w.alloc (.cells (madeCells z.cells (n * sz)) e)) := by
  obtain ⟨i, hi, hz, hs, hb⟩ := info_parts hinfo
  subst hs
  subst hb
  have hb' : (i.bytes : Int) * (n : Int) ≤ 281474976710656 := by
    have h : ((i.bytes * n : Nat) : Int) ≤ 281474976710656 := by omega
    rwa [Int.natCast_mul] at h
  have hr := run_make (P := P) w t e i z ht hi hz .i64 .i64 n n (by omega) (Int.le_refl _) hb' (by omega)
  simpa only [Int.toNat_natCast] using hr
theorem Lb.new3 (w : World) (o o' : Obj) (cs : Array Value) (T : TypeId) : Lb (((w.alloc o).alloc o').alloc (.cells cs T)) (w.heap.size + 2) cs T := by simpa using Lb.new ((w.alloc o).alloc o') cs T
theorem info69 : (Tryz.prog.info? 69).map (fun i => (i.zero, i.size, i.bytes)) = some (some (.agg #[.int .u8 0, .slice none 0 0]), 2, 32) := by kernel_rfl
theorem info73 : (Tryz.prog.info? 73).map (fun i => (i.zero, i.size, i.bytes)) = some (some (.agg #[.slice none 0 0, .int .u8 0]), 2, 32) := by kernel_rfl
theorem info63 : (Tryz.prog.info? 63).map (fun i => (i.zero, i.size, i.bytes)) = some (some (.agg #[.float .f64 0, .float .f64 0, .float .f64 0, .float .f64 0, .int .u8 0, .bool false]), 6, 48) := by kernel_rfl
theorem info47 : (Tryz.prog.info? 47).map (fun i => (i.zero, i.size, i.bytes)) = some (some (.agg #[.int .i64 0, .nilIface]), 2, 24) := by kernel_rfl
set_option maxRecDepth 100000 in
set_option maxHeartbeats 1000000 in
theorem c91 (S : Nat → Prop) (ls : List Ln) (t t' : Int) (a : Option Addr) (c : Nat) (w : World) (hok : ∀ l ∈ ls, l.ok) (g0 : 0 ≤ t') (g1 : t' ≤ 3) (hlen : ls.length ≤ 1000000) (hS : ∀ b, w.heap.size ≤ b → S b)
    (h : Rd S w (.list (ls.map Ln.fs)) (.slice a ls.length c)) :
    Calls Tryz.prog 91 #[.agg #[.slice a ls.length c, .int .u8 t], .int .u8 t'] w fun e w' => ∃ a' c', e = .returned (.agg #[.slice a' ls.length c', .int .u8 t']) ∧
      Rd S w' (.list ((ls.map (·.force t')).map Ln.fs)) (.slice a' ls.length c') ∧ Below w.heap.size w w' := by
  have hmk : ∀ w, (Instr.makeSlice 71 (.int .i64 (ls.length : Int)) (.int .i64 (ls.length : Int))).run Tryz.prog w = .ok (.slice (some ⟨w.heap.size, 0, none⟩) ls.length ls.length) (w.alloc (.cells (madeCells #[.int .u8 0, .slice none 0 0] (ls.length * 2)) 69)) :=
    mk_any (P := Tryz.prog) 71 69 _ 2 32 Tryz.underlying71 info69 ls.length (by omega) (by omega)
  go_enter Tryz.func91, Tryz.ntmps91
  go_wp2_with fail
  go_loopw [14] (fun i wr => ∃ j : Nat, ∃ cs : Array Value, j ≤ ls.length ∧ i = .int .i64 j ∧ Fill (Ex S (w.heap.size + 1)) wr (w.heap.size + 2) 69 2 ls.length (((ls.take j).map (·.force t')).map Ln.fs) cs ∧
      Lb wr w.heap.size #[.slice a ls.length c, .int .u8 t] 73 ∧ Lb wr (w.heap.size + 1) #[.slice none 0 0, .int .u8 0] 73 ∧ Rd (Ex (Ex S (w.heap.size + 1)) (w.heap.size + 2)) wr (.list (ls.map Ln.fs)) (.slice a ls.length c) ∧ Below w.heap.size w wr ∧ w.heap.size + 3 ≤ wr.heap.size) (fun i _ => ls.length - (intOf i).toNat)
  case atStart =>
    refine ⟨0, madeCells #[.int .u8 0, .slice none 0 0] (ls.length * 2), Nat.zero_le _, rfl, Fill.start (size_madeCells _ _) ?_, (Lb.new' w _ _ _).alloc _, (Lb.new2 w _ _ _).alloc _, ?_, (bl_a2 w _ _).alloc (by simp <;> omega) _, by simp⟩
    · exact Lb.new3 w _ _ _ _
    · exact ((((h.ex (L := w.heap.size + 1) (by omega)).ex (L := w.heap.size + 2) (by omega)).alloc _).alloc _).alloc _
  case round =>
    obtain ⟨j, cs, hj, rfl, hF, L0, L1, hr, hB, hsz⟩ := hrel
    by_cases hlt : j < ls.length
    · obtain ⟨a0, c0, e0, hm, hat⟩ := lines_at hr
      obtain ⟨rfl, _, rfl⟩ := Value.slice.inj e0
      obtain ⟨b, off, a', c', rfl, hSb, hb, k0, k1, hrj⟩ := hat j hlt
      obtain ⟨kb, _, ltb⟩ := L0.use
      have H := Lib.hid fun (S : Nat → Prop) => c115 S ls[j] t' a' c' wr (hok _ (List.getElem_mem hlt)) g0 g1
      have HF := Lib.hid hF; clear hF
      have HL0 := Lib.hid L0; have HL1 := Lib.hid L1; have HB := Lib.hid hB
      clear L0 L1 hB hat e0 hmk
      go_wp2_with fail
      refine (H.out _ (fun b hb => ⟨⟨hS b (by omega), by omega⟩, by omega⟩) hrj).mono ?_
      rintro e w1 ⟨a2, c2, rfl, hr2, hb2⟩
      have hF2 := HF.out.blw hb2
      have hcs := hF2.size
      obtain ⟨kR, fR, ltR⟩ := hF2.blk.use
      obtain ⟨u0, hu0⟩ : ∃ u, cs[j * 2]? = some u := ⟨_, Array.getElem?_eq_getElem (by rw [hcs]; omega)⟩
      obtain ⟨u1, hu1⟩ : ∃ u, cs[j * 2 + 1]? = some u := ⟨_, Array.getElem?_eq_getElem (by rw [hcs]; omega)⟩
      have HF2 := Lib.hid hF2; clear hF2
      have HL0' := Lib.hid (HL0.out.blw hb2); have HL1' := Lib.hid (HL1.out.blw hb2)
      have HB' := Lib.hid (HB.out.trans (hb2.mono (by omega)))
      have hr3 := Lib.hid (hr.blw hb2); have hr4 := Lib.hid hr2
      have hsz2 : w.heap.size + 3 ≤ w1.heap.size := Nat.le_trans hsz hb2.size
      clear hr hr2 hb2 kb k0 k1
      go_wp2_with fail
      go_roundw
      case rel =>
        refine ⟨j + 1, (cs.setIfInBounds (j * 2) (.int .u8 t')).setIfInBounds (j * 2 + 1) (.slice a2 ((ls[j]).force t').xs.length c2), by omega, by go_num, ?_, ?_, ?_, ?_, ?_, by simp [World.setCell]; omega⟩
        · have el : (((ls.take j).map (·.force t')).map Ln.fs).length = j := by simp; omega
          have es : ((ls.take (j + 1)).map (·.force t')).map Ln.fs = ((ls.take j).map (·.force t')).map Ln.fs ++ [((ls[j]).force t').fs] := by rw [take_map_succ _ _ _ hlt, List.map_append]; rfl
          rw [es]
          refine HF2.out.next _ rfl (by simp [hcs]) (((HF2.out.blk).set _ _).set _ _) keep_two (by simp [World.setCell]) (fun p hp => two_old (by rw [el] at hp; exact hp)) (fun jj hjj => ?_)
          rw [el]
          have hjc : jj = 0 ∨ jj = 1 := by have : ((ls[j]).force t').fs.length = 2 := rfl; omega
          rcases hjc with rfl | rfl
          · exact ⟨_, two_new0 (by rw [hcs]; omega), .atom _⟩
          · exact ⟨_, two_new1 (by rw [hcs]; omega), (hr4.out.set _ _).set _ _⟩
        · exact (HL0'.out.far (by simp <;> omega) _).far (by simp <;> omega) _
        · exact (HL1'.out.far (by simp <;> omega) _).far (by simp <;> omega) _
        · exact (hr3.out.set _ _).set _ _
        · exact (HB'.out.setCell (by simp <;> omega) _).setCell (by simp <;> omega) _
      case measure => simp [intOf]; omega
    · obtain rfl : j = ls.length := by omega
      have hdl : decide (((ls.length : Nat) : Int) < ls.length) = false := by simp
      obtain ⟨k1, f1, lt1⟩ := L1.use
      have HF := Lib.hid hF; have HB := Lib.hid hB
      clear hF L0 L1 hB hmk hr
      go_wp2_with fail
      refine bodyPost_ret (v := .agg #[.slice (some ⟨w.heap.size + 2, 0, none⟩) ls.length ls.length, .int .u8 t']) (by simp [results, Tryz.results91, go_sem, k1]) rfl ⟨_, _, rfl, ?_, ?_⟩
      · refine Rd.unex (L := w.heap.size + 1) ?_
        have hd := HF.out.done ls.length (by omega) (by simp) ⟨hS _ (by omega), by omega⟩ (by omega)
        rw [List.take_length] at hd
        repeat (with_reducible first | refine Rd.set ?_ _ _ | exact hd)
      · repeat (with_reducible first | refine Below.setCell ?_ (by simp) _ | exact HB.out)
set_option maxRecDepth 100000 in
set_option maxHeartbeats 1000000 in
theorem c98 (S : Nat → Prop) (ls : List Ln) (t t' : Int) (a : Option Addr) (c : Nat) (w : World) (hok : ∀ l ∈ ls, l.ok) (g0 : 0 ≤ t') (g1 : t' ≤ 3) (hlen : ls.length ≤ 1000000) (hS : ∀ b, w.heap.size ≤ b → S b)
    (h : Rd S w (.list (ls.map Ln.fs)) (.slice a ls.length c)) :
    Calls Tryz.prog 98 #[.agg #[.slice a ls.length c, .int .u8 t], .int .u8 t'] w fun e w' => ∃ a' c', e = .returned (.agg #[.slice a' ls.length c', .int .u8 t']) ∧
      Rd S w' (.list ((ls.map (·.force t')).map Ln.fs)) (.slice a' ls.length c') ∧ Below w.heap.size w w' := by
  have hmk : ∀ w, (Instr.makeSlice 71 (.int .i64 (ls.length : Int)) (.int .i64 (ls.length : Int))).run Tryz.prog w = .ok (.slice (some ⟨w.heap.size, 0, none⟩) ls.length ls.length) (w.alloc (.cells (madeCells #[.int .u8 0, .slice none 0 0] (ls.length * 2)) 69)) :=
    mk_any (P := Tryz.prog) 71 69 _ 2 32 Tryz.underlying71 info69 ls.length (by omega) (by omega)
  go_enter Tryz.func98, Tryz.ntmps98
  go_wp2_with fail
  go_loopw [14] (fun i wr => ∃ j : Nat, ∃ cs : Array Value, j ≤ ls.length ∧ i = .int .i64 j ∧ Fill (Ex S (w.heap.size + 1)) wr (w.heap.size + 2) 69 2 ls.length (((ls.take j).map (·.force t')).map Ln.fs) cs ∧
      Lb wr w.heap.size #[.slice a ls.length c, .int .u8 t] 80 ∧ Lb wr (w.heap.size + 1) #[.slice none 0 0, .int .u8 0] 80 ∧ Rd (Ex (Ex S (w.heap.size + 1)) (w.heap.size + 2)) wr (.list (ls.map Ln.fs)) (.slice a ls.length c) ∧ Below w.heap.size w wr ∧ w.heap.size + 3 ≤ wr.heap.size) (fun i _ => ls.length - (intOf i).toNat)
  case atStart =>
    refine ⟨0, madeCells #[.int .u8 0, .slice none 0 0] (ls.length * 2), Nat.zero_le _, rfl, Fill.start (size_madeCells _ _) ?_, (Lb.new' w _ _ _).alloc _, (Lb.new2 w _ _ _).alloc _, ?_, (bl_a2 w _ _).alloc (by simp <;> omega) _, by simp⟩
    · exact Lb.new3 w _ _ _ _
    · exact ((((h.ex (L := w.heap.size + 1) (by omega)).ex (L := w.heap.size + 2) (by omega)).alloc _).alloc _).alloc _
  case round =>
    obtain ⟨j, cs, hj, rfl, hF, L0, L1, hr, hB, hsz⟩ := hrel
    by_cases hlt : j < ls.length
    · obtain ⟨a0, c0, e0, hm, hat⟩ := lines_at hr
      obtain ⟨rfl, _, rfl⟩ := Value.slice.inj e0
      obtain ⟨b, off, a', c', rfl, hSb, hb, k0, k1, hrj⟩ := hat j hlt
      obtain ⟨kb, _, ltb⟩ := L0.use
      have H := Lib.hid fun (S : Nat → Prop) => c115 S ls[j] t' a' c' wr (hok _ (List.getElem_mem hlt)) g0 g1
      have HF := Lib.hid hF; clear hF
      have HL0 := Lib.hid L0; have HL1 := Lib.hid L1; have HB := Lib.hid hB
      clear L0 L1 hB hat e0 hmk
      go_wp2_with fail
      refine (H.out _ (fun b hb => ⟨⟨hS b (by omega), by omega⟩, by omega⟩) hrj).mono ?_
      rintro e w1 ⟨a2, c2, rfl, hr2, hb2⟩
      have hF2 := HF.out.blw hb2
      have hcs := hF2.size
      obtain ⟨kR, fR, ltR⟩ := hF2.blk.use
      obtain ⟨u0, hu0⟩ : ∃ u, cs[j * 2]? = some u := ⟨_, Array.getElem?_eq_getElem (by rw [hcs]; omega)⟩
      obtain ⟨u1, hu1⟩ : ∃ u, cs[j * 2 + 1]? = some u := ⟨_, Array.getElem?_eq_getElem (by rw [hcs]; omega)⟩
      have HF2 := Lib.hid hF2; clear hF2
      have HL0' := Lib.hid (HL0.out.blw hb2); have HL1' := Lib.hid (HL1.out.blw hb2)
      have HB' := Lib.hid (HB.out.trans (hb2.mono (by omega)))
      have hr3 := Lib.hid (hr.blw hb2); have hr4 := Lib.hid hr2
      have hsz2 : w.heap.size + 3 ≤ w1.heap.size := Nat.le_trans hsz hb2.size
      clear hr hr2 hb2 kb k0 k1
      go_wp2_with fail
      go_roundw
      case rel =>
        refine ⟨j + 1, (cs.setIfInBounds (j * 2) (.int .u8 t')).setIfInBounds (j * 2 + 1) (.slice a2 ((ls[j]).force t').xs.length c2), by omega, by go_num, ?_, ?_, ?_, ?_, ?_, by simp [World.setCell]; omega⟩
        · have el : (((ls.take j).map (·.force t')).map Ln.fs).length = j := by simp; omega
          have es : ((ls.take (j + 1)).map (·.force t')).map Ln.fs = ((ls.take j).map (·.force t')).map Ln.fs ++ [((ls[j]).force t').fs] := by rw [take_map_succ _ _ _ hlt, List.map_append]; rfl
          rw [es]
          refine HF2.out.next _ rfl (by simp [hcs]) (((HF2.out.blk).set _ _).set _ _) keep_two (by simp [World.setCell]) (fun p hp => two_old (by rw [el] at hp; exact hp)) (fun jj hjj => ?_)
          rw [el]
          have hjc : jj = 0 ∨ jj = 1 := by have : ((ls[j]).force t').fs.length = 2 := rfl; omega
          rcases hjc with rfl | rfl
          · exact ⟨_, two_new0 (by rw [hcs]; omega), .atom _⟩
          · exact ⟨_, two_new1 (by rw [hcs]; omega), (hr4.out.set _ _).set _ _⟩
        · exact (HL0'.out.far (by simp <;> omega) _).far (by simp <;> omega) _
        · exact (HL1'.out.far (by simp <;> omega) _).far (by simp <;> omega) _
        · exact (hr3.out.set _ _).set _ _
        · exact (HB'.out.setCell (by simp <;> omega) _).setCell (by simp <;> omega) _
      case measure => simp [intOf]; omega
    · obtain rfl : j = ls.length := by omega
      have hdl : decide (((ls.length : Nat) : Int) < ls.length) = false := by simp
      obtain ⟨k1, f1, lt1⟩ := L1.use
      have HF := Lib.hid hF; have HB := Lib.hid hB
      clear hF L0 L1 hB hmk hr
      go_wp2_with fail
      refine bodyPost_ret (v := .agg #[.slice (some ⟨w.heap.size + 2, 0, none⟩) ls.length ls.length, .int .u8 t']) (by simp [results, Tryz.results98, go_sem, k1]) rfl ⟨_, _, rfl, ?_, ?_⟩
      · refine Rd.unex (L := w.heap.size + 1) ?_
        have hd := HF.out.done ls.length (by omega) (by simp) ⟨hS _ (by omega), by omega⟩ (by omega)
        rw [List.take_length] at hd
        repeat (with_reducible first | refine Rd.set ?_ _ _ | exact hd)
      · repeat (with_reducible first | refine Below.setCell ?_ (by simp) _ | exact HB.out)
/-- A polygon whose rings are good. -/
def Pg.ok (p : Pg) : Prop := (∀ l ∈ p.rings, l.ok) ∧ p.rings.length ≤ 1000000 ∧ 0 ≤ p.t ∧ p.t ≤ 3
theorem list_shape {S : Nat → Prop} {w : World} {es : List (List F)} {v : Value} (h : Rd S w (.list es) v) : ∃ a c, v = .slice a es.length c :=
  let ⟨a, c, h, _⟩ := h.list_inv; ⟨a, c, h⟩
theorem pgs_at {S : Nat → Prop} {w : World} {ls : List Pg} {v : Value} (h : Rd S w (.list (ls.map Pg.fs)) v) : ∃ a c, v = .slice a ls.length c ∧ ls.length ≤ 17592186044416 ∧
    ∀ i (hi : i < ls.length), ∃ b off a' c', a = some ⟨b, off, none⟩ ∧ S b ∧ b < w.heap.size ∧ w.cell? ⟨b, off + i * 2, none⟩ = some (.slice a' (ls[i]).rings.length c') ∧ w.cell? ⟨b, off + i * 2 + 1, none⟩ = some (.int .u8 (ls[i]).t) ∧ Rd S w (.list ((ls[i]).rings.map Ln.fs)) (.slice a' (ls[i]).rings.length c') := by
  obtain ⟨a, c, rfl, hm, hi⟩ := list_at h 2 (by simp [Pg.fs])
  simp only [List.length_map] at *
  refine ⟨a, c, rfl, hm, fun i hlt => ?_⟩
  obtain ⟨b, off, rfl, hS, hb, x, hx⟩ := hi i hlt
  have e : (ls.map Pg.fs)[i]'(by simpa using hlt) = [.list ((ls[i]).rings.map Ln.fs), .atom (.int .u8 (ls[i]).t)] := by simp [Pg.fs]
  obtain ⟨c0, r0⟩ := hx 0 (by rw [e]; simp)
  obtain ⟨c1, r1⟩ := hx 1 (by rw [e]; simp)
  simp only [e, List.getElem_cons_zero, List.getElem_cons_succ] at r0 r1
  rw [r1.atom_inv] at c1
  obtain ⟨a', c', e1⟩ := list_shape r0
  rw [List.length_map] at e1
  rw [e1] at c0 r0
  exact ⟨b, off, a', c', rfl, hS, hb, by simpa using c0, c1, r0⟩
set_option maxRecDepth 100000 in
set_option maxHeartbeats 1000000 in
theorem c101 (S : Nat → Prop) (ls : List Pg) (t t' : Int) (a : Option Addr) (c : Nat) (w : World) (hok : ∀ l ∈ ls, l.ok) (g0 : 0 ≤ t') (g1 : t' ≤ 3) (hlen : ls.length ≤ 1000000) (hS : ∀ b, w.heap.size ≤ b → S b)
    (h : Rd S w (.list (ls.map Pg.fs)) (.slice a ls.length c)) :
    Calls Tryz.prog 101 #[.agg #[.slice a ls.length c, .int .u8 t], .int .u8 t'] w fun e w' => ∃ a' c', e = .returned (.agg #[.slice a' ls.length c', .int .u8 t']) ∧
      Rd S w' (.list ((ls.map (·.force t')).map Pg.fs)) (.slice a' ls.length c') ∧ Below w.heap.size w w' := by
  have hmk : ∀ w, (Instr.makeSlice 82 (.int .i64 (ls.length : Int)) (.int .i64 (ls.length : Int))).run Tryz.prog w = .ok (.slice (some ⟨w.heap.size, 0, none⟩) ls.length ls.length) (w.alloc (.cells (madeCells #[.slice none 0 0, .int .u8 0] (ls.length * 2)) 73)) :=
    mk_any (P := Tryz.prog) 82 73 _ 2 32 Tryz.underlying82 info73 ls.length (by omega) (by omega)
  go_enter Tryz.func101, Tryz.ntmps101
  go_wp2_with fail
  go_loopw [14] (fun i wr => ∃ j : Nat, ∃ cs : Array Value, j ≤ ls.length ∧ i = .int .i64 j ∧ Fill (Ex S (w.heap.size + 1)) wr (w.heap.size + 2) 73 2 ls.length (((ls.take j).map (·.force t')).map Pg.fs) cs ∧
      Lb wr w.heap.size #[.slice a ls.length c, .int .u8 t] 84 ∧ Lb wr (w.heap.size + 1) #[.slice none 0 0, .int .u8 0] 84 ∧ Rd (Ex (Ex S (w.heap.size + 1)) (w.heap.size + 2)) wr (.list (ls.map Pg.fs)) (.slice a ls.length c) ∧ Below w.heap.size w wr ∧ w.heap.size + 3 ≤ wr.heap.size) (fun i _ => ls.length - (intOf i).toNat)
  case atStart =>
    refine ⟨0, madeCells #[.slice none 0 0, .int .u8 0] (ls.length * 2), Nat.zero_le _, rfl, Fill.start (size_madeCells _ _) ?_, (Lb.new' w _ _ _).alloc _, (Lb.new2 w _ _ _).alloc _, ?_, (bl_a2 w _ _).alloc (by simp <;> omega) _, by simp⟩
    · exact Lb.new3 w _ _ _ _
    · exact ((((h.ex (L := w.heap.size + 1) (by omega)).ex (L := w.heap.size + 2) (by omega)).alloc _).alloc _).alloc _
  case round =>
    obtain ⟨j, cs, hj, rfl, hF, L0, L1, hr, hB, hsz⟩ := hrel
    by_cases hlt : j < ls.length
    · obtain ⟨a0, c0, e0, hm, hat⟩ := pgs_at hr
      obtain ⟨rfl, _, rfl⟩ := Value.slice.inj e0
      obtain ⟨b, off, a', c', rfl, hSb, hb, k0, k1, hrj⟩ := hat j hlt
      obtain ⟨kb, _, ltb⟩ := L0.use
      have H := Lib.hid fun (S : Nat → Prop) => c91 S (ls[j]).rings (ls[j]).t t' a' c' wr (hok _ (List.getElem_mem hlt)).1 g0 g1 (hok _ (List.getElem_mem hlt)).2.1
      have HF := Lib.hid hF; clear hF
      have HL0 := Lib.hid L0; have HL1 := Lib.hid L1; have HB := Lib.hid hB
      clear L0 L1 hB hat e0 hmk
      go_wp2_with fail
      refine (H.out _ (fun b hb => ⟨⟨hS b (by omega), by omega⟩, by omega⟩) hrj).mono ?_
      rintro e w1 ⟨a2, c2, rfl, hr2, hb2⟩
      have hF2 := HF.out.blw hb2
      have hcs := hF2.size
      obtain ⟨kR, fR, ltR⟩ := hF2.blk.use
      obtain ⟨u0, hu0⟩ : ∃ u, cs[j * 2]? = some u := ⟨_, Array.getElem?_eq_getElem (by rw [hcs]; omega)⟩
      obtain ⟨u1, hu1⟩ : ∃ u, cs[j * 2 + 1]? = some u := ⟨_, Array.getElem?_eq_getElem (by rw [hcs]; omega)⟩
      have HF2 := Lib.hid hF2; clear hF2
      have HL0' := Lib.hid (HL0.out.blw hb2); have HL1' := Lib.hid (HL1.out.blw hb2)
      have HB' := Lib.hid (HB.out.trans (hb2.mono (by omega)))
      have hr3 := Lib.hid (hr.blw hb2); have hr4 := Lib.hid hr2
      have hsz2 : w.heap.size + 3 ≤ w1.heap.size := Nat.le_trans hsz hb2.size
      clear hr hr2 hb2 kb k0 k1
      go_wp2_with fail
      go_roundw
      case rel =>
        refine ⟨j + 1, (cs.setIfInBounds (j * 2) (.slice a2 (ls[j]).rings.length c2)).setIfInBounds (j * 2 + 1) (.int .u8 t'), by omega, by go_num, ?_, ?_, ?_, ?_, ?_, by simp [World.setCell]; omega⟩
        · have el : (((ls.take j).map (·.force t')).map Pg.fs).length = j := by simp; omega
          have es : ((ls.take (j + 1)).map (·.force t')).map Pg.fs = ((ls.take j).map (·.force t')).map Pg.fs ++ [((ls[j]).force t').fs] := by rw [take_map_succ _ _ _ hlt, List.map_append]; rfl
          rw [es]
          refine HF2.out.next _ rfl (by simp [hcs]) (((HF2.out.blk).set _ _).set _ _) keep_two (by simp [World.setCell]) (fun p hp => two_old (by rw [el] at hp; exact hp)) (fun jj hjj => ?_)
          rw [el]
          have hjc : jj = 0 ∨ jj = 1 := by have : ((ls[j]).force t').fs.length = 2 := rfl; omega
          rcases hjc with rfl | rfl
          · exact ⟨_, two_new0 (by rw [hcs]; omega), (hr4.out.set _ _).set _ _⟩
          · exact ⟨_, two_new1 (by rw [hcs]; omega), .atom _⟩
        · exact (HL0'.out.far (by simp <;> omega) _).far (by simp <;> omega) _
        · exact (HL1'.out.far (by simp <;> omega) _).far (by simp <;> omega) _
        · exact (hr3.out.set _ _).set _ _
        · exact (HB'.out.setCell (by simp <;> omega) _).setCell (by simp <;> omega) _
      case measure => simp [intOf]; omega
    · obtain rfl : j = ls.length := by omega
      have hdl : decide (((ls.length : Nat) : Int) < ls.length) = false := by simp
      obtain ⟨k1, f1, lt1⟩ := L1.use
      have HF := Lib.hid hF; have HB := Lib.hid hB
      clear hF L0 L1 hB hmk hr
      go_wp2_with fail
      refine bodyPost_ret (v := .agg #[.slice (some ⟨w.heap.size + 2, 0, none⟩) ls.length ls.length, .int .u8 t']) (by simp [results, Tryz.results101, go_sem, k1]) rfl ⟨_, _, rfl, ?_, ?_⟩
      · refine Rd.unex (L := w.heap.size + 1) ?_
        have hd := HF.out.done ls.length (by omega) (by simp) ⟨hS _ (by omega), by omega⟩ (by omega)
        rw [List.take_length] at hd
        repeat (with_reducible first | refine Rd.set ?_ _ _ | exact hd)
      · repeat (with_reducible first | refine Below.setCell ?_ (by simp) _ | exact HB.out)
end Go.Proofs.YtahnhhkbdgaidaaGreatDoor
