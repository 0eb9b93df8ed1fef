/-
  The places of a sequence, one by one.
-/
import Derived.Laws.CopyOwn
import Derived.Deep.OwnRows
import Derived.Deep.RegionHeld3
import Derived.Test.YtahnhhkbdgaidaaGreatDoorKaa
namespace Go.Proofs.YtahnhhkbdgaidaaGreatDoor
open Go.RowKit
theorem cells_of {w : World} {b : Nat} {cs : Array Value} {T : TypeId} (h : w.heap[b]? = some (.cells cs T (0, 0))) : (∀ o, w.cell? ⟨b, o, none⟩ = cs[o]?) ∧ (∀ o, w.frozen? ⟨b, o, none⟩ = false) :=
  ⟨fun o => by simp [World.cell?, h], fun o => by simp [World.frozen?, h]⟩
theorem fl_row {S : Nat → Prop} {w : World} {g : Nat} {cs : Array Value} {T : TypeId} {xs : List Nat} {c : Nat} (h : w.heap[g]? = some (.cells cs T (0, 0))) (hS : S g) (hmax : xs.length ≤ 17592186044416)
    (hx : ∀ i (hi : i < xs.length), cs[i]? = some (.float .f64 (xs[i]))) : Rd S w (fl xs) (.slice (some ⟨g, 0, none⟩) xs.length c) := by
  have hg : g < w.heap.size := (Array.getElem?_eq_some_iff.1 h).1
  have e : xs.length = (xs.map fun x => [F.atom (.float .f64 x)]).length := by simp
  unfold fl
  rw [e]
  refine .list _ g 0 c 1 (fun i _ => cs[i]?.getD undef) (by omega) (by simpa using hmax) (by simp) hS hg (fun i j hi hj => ?_) (fun i hi j hj => ?_)
  · obtain rfl : j = 0 := by omega
    simp only [List.length_map] at hi
    simp only [Nat.zero_add, Nat.mul_one, Nat.add_zero]
    rw [(cells_of h).1, hx i hi]; simp
  · simp only [List.length_map] at hi
    simp only [List.getElem_map, List.length_cons, List.length_nil] at hj ⊢
    obtain rfl : j = 0 := by omega
    simp only [List.getElem_cons_zero]
    rw [hx i hi]
    exact .atom _
theorem copy_over {P : Program} (W : World) (T ty e : TypeId) (hu : P.underlying T = some (.slice e)) (hs : (P.info? e).map (·.size) = some 1) (g m c : Nat) (sp : Option Addr) (sl sc : Nat) (cur : Array Value) (t : TypeId)
    (hg : W.heap[g]? = some (.cells cur t (0, 0))) (hcur : cur.size = m) (cs : List Value) (hcs : cs.length = m) (hm : m ≤ sl)
    (hsrc : 0 < m → ∃ ad, sp = some ad ∧ ∀ j v, cs[j]? = some v → W.cell? (ad.add j) = some v) (h1 : ∀ v ∈ cs, v.oneCell' = true) :
    ∃ w1, (Builtin.copy_ #[T, T] ty #[.slice (some ⟨g, 0, none⟩) m c, .slice sp sl sc]).run P W = .ok (goInt m) w1 ∧ w1.heap[g]? = some (.cells cs.toArray t (0, 0)) ∧ W.grownBy w1 (some g) := by
  by_cases h0 : m = 0
  · subst h0
    obtain rfl : cs = [] := List.eq_nil_of_length_eq_zero hcs
    obtain rfl : cur = #[] := Array.eq_empty_of_size_eq_zero hcur
    exact ⟨W, run_copy_none W T T ty e _ _ _ _ _ _ hu hs (by simp), hg, ⟨rfl, rfl, rfl, Nat.le_refl _, fun _ _ _ => rfl⟩⟩
  · obtain ⟨ad, rfl, hsr⟩ := hsrc (by omega)
    have hr := run_copy_row (P := P) W T T ty e g 0 m c ad sl sc cur t cs hu hs hg (by rw [hcs]; exact (Nat.min_eq_right hm).symm) hsr (by omega) h1
    rw [hcs] at hr
    refine ⟨_, hr, ?_, ⟨rfl, rfl, rfl, by simp [World.setRow], fun k _ hk => setRow_other W g k _ (fun e => hk (by rw [e]))⟩⟩
    rw [setRow_heap W g _ _ t _ hg]
    simp [← hcur]
theorem bl_grown {B : Nat} {w w' : World} {g : Nat} (h : w.grownBy w' (some g)) (hB : B ≤ g) (hg : g < w.heap.size) : Below B w w' :=
  ⟨h.os, h.tape, h.output, h.size, fun k hk => h.block k (by omega) (fun e => by have := Option.some.inj e; omega)⟩
def dN (t : Int) : Nat := (dimN t).toNat
theorem dN_eq (t : Int) : dimN t = (dN t : Int) := by have := dimN_bd t; unfold dN; omega
theorem dN_bd (t : Int) : 2 ≤ dN t ∧ dN t ≤ 4 := by have := dimN_bd t; unfold dN; omega
theorem info43 : (Tryz.prog.info? 43).map (fun i => (i.zero, i.size, i.bytes)) = some (some (.float .f64 0), 1, 8) := by kernel_rfl
theorem size43 : (Tryz.prog.info? 43).map (·.size) = some 1 := by kernel_rfl
theorem c136 (t : Int) (a : Option Addr) (n c : Nat) (w : World) (h0 : 0 ≤ t) (h1 : t ≤ 3) (hn : n ≤ 17592186044416) (hm : n % dN t = 0) :
    Calls Tryz.prog 136 #[.slice a n c, .int .u8 t] w fun e w' => e = .returned (.agg #[.int .u8 t, .slice a n c]) ∧ Below w.heap.size w w' := by
  have hq := dN_eq t
  have hb := dN_bd t
  generalize dN t = q at *
  have hmi : ((n : Int) % (q : Int) != 0) = false := by have : ((n % q : Nat) : Int) = (n : Int) % (q : Int) := Int.natCast_emod _ _; rw [← this, hm]; rfl
  clear hm
  go_enter Tryz.func136, Tryz.ntmps136
  go_wp2_with (go_at_call 135; refine (c135 _ _ h0 h1).mono ?_; rintro e w' ⟨rfl, rfl⟩; rw [hq])
  exact bodyPost_ret (v := .agg #[.int .u8 t, .slice a n c]) (by simp [results, Tryz.results136, go_sem]) rfl ⟨rfl, (Below.refl _ _).alloc (Nat.le_refl _) _⟩
/-- The numbers that fill whole places. -/
def seqX (t : Int) (ns : List Nat) : List Nat := ns.take (ns.length - ns.length % dN t)
set_option maxRecDepth 100000 in
theorem c83 (S : Nat → Prop) (d : Int) (ns : List Nat) (v : Value) (w : World) (hS : ∀ k, w.heap.size ≤ k → S k) (h : Rd S w (fl ns) v) :
    Calls Tryz.prog 83 #[v, .int .i64 d] w fun e w' => ∃ a c, e = .returned (.agg #[.int .u8 (d % 4), .slice a (seqX (d % 4) ns).length c]) ∧ Rd S w' (fl (seqX (d % 4) ns)) (.slice a (seqX (d % 4) ns).length c) ∧ Below w.heap.size w w' := by
  obtain ⟨a, c, rfl, hmax, hi⟩ := fl_inv h
  have h0 : 0 ≤ d % 4 := by omega
  have h1 : d % 4 ≤ 3 := by omega
  have hq := dN_eq (d % 4)
  have hb := dN_bd (d % 4)
  have h136 : ∀ (a : Option Addr) (n c : Nat) (w : World), n ≤ 17592186044416 → n % dN (d % 4) = 0 → _ := fun a n c w => c136 (d % 4) a n c w h0 h1
  have H136 := Lib.hid h136; clear h136
  unfold seqX
  generalize dN (d % 4) = q at *
  have hlt := Nat.mod_lt ns.length (show 0 < q by omega)
  have hle := Nat.mod_le ns.length q
  have hmod : (ns.length - ns.length % q) % q = 0 := Nat.mod_eq_zero_of_dvd (Nat.dvd_sub_mod _)
  have Hmod := Lib.hid hmod; clear hmod
  have hmk : ∀ w, (Instr.makeSlice 22 (.int .i64 ((ns.length : Int) - (ns.length : Int) % (q : Int))) (.int .i64 ((ns.length : Int) - (ns.length : Int) % (q : Int)))).run Tryz.prog w =
      .ok (.slice (some ⟨w.heap.size, 0, none⟩) (ns.length - ns.length % q) (ns.length - ns.length % q)) (w.alloc (.cells (madeCells #[.float .f64 0] (ns.length - ns.length % q)) 43)) := fun w => by
    have e : ((ns.length : Int) - (ns.length : Int) % (q : Int)) = ((ns.length - ns.length % q : Nat) : Int) := by rw [Int.natCast_sub hle, Int.natCast_emod]
    rw [e]
    exact run_make_row' 22 43 (.float .f64 0) 8 Tryz.underlying22 info43 rfl .i64 .i64 _ (by omega) (by omega) w
  have hmn : ns.length - ns.length % q ≤ ns.length := Nat.sub_le _ _
  generalize ns.length - ns.length % q = m at *
  have Hml : Hid ((ns.take m).length = m) := Lib.hid (by simp [hmn])
  have hcop := copy_over (P := Tryz.prog) ((w.alloc (.cells #[.int .u8 0, .slice none 0 0] 67)).alloc (.cells (madeCells #[.float .f64 0] m) 43)) 22 3 43 Tryz.underlying22 size43 (w.heap.size + 1) m m a ns.length c (madeCells #[.float .f64 0] m) 43
    (by simpa using heap_alloc_new (w.alloc (.cells #[.int .u8 0, .slice none 0 0] 67)) _) (by simp [size_madeCells]) ((ns.take m).map (Value.float .f64)) (by simp; omega) hmn
    (fun hp => by
      obtain ⟨b, off, rfl, _, hb, _⟩ := hi 0 (by omega)
      refine ⟨_, rfl, fun j v hv => ?_⟩
      have hj : j < m := by have := (List.getElem?_eq_some_iff.1 hv).1; simp at this; omega
      obtain ⟨b', off', he, _, _, k0⟩ := hi j (by omega)
      obtain ⟨rfl, rfl⟩ : b = b' ∧ off = off' := by simpa using he
      rw [Addr.add_lit, World.cell?_alloc_past _ _ _ (by simp; omega), World.cell?_alloc_past _ _ _ hb, k0]
      simp [hj, show j < ns.length by omega] at hv
      rw [← hv]) (by intro v hv; obtain ⟨_, _, rfl⟩ := List.mem_map.1 hv; rfl)
  obtain ⟨w1, hcp, hrow, hgr⟩ := hcop
  have Hrow := Lib.hid hrow; clear hrow
  have hB1 := bl_grown (B := w.heap.size + 1) hgr (Nat.le_refl _) (by simp)
  clear hgr
  have hs1 : w.heap.size + 2 ≤ w1.heap.size := by simpa using hB1.size
  have hL1 : Hid (w1.heap[w.heap.size]? = some (.cells #[.int .u8 0, .slice none 0 0] 67 (0, 0))) := Lib.hid (by
    rw [hB1.block _ (by omega), heap_alloc_old _ _ (by simp), heap_alloc_new])
  go_enter Tryz.func83, Tryz.ntmps83
  go_wp2_with (first | (go_at_call 49; refine (c49 _ _).mono ?_; rintro e w' ⟨rfl, rfl⟩) | (go_at_call 135; refine (c135 _ _ h0 h1).mono ?_; rintro e w' ⟨rfl, rfl⟩; rw [hq]))
  refine (H136.out _ _ _ _ (by omega) Hmod.out).mono ?_
  rintro e w2 ⟨rfl, hb2⟩
  have hL2 := (hb2.block w.heap.size (by omega)).trans hL1.out
  have hR2 := Lib.hid ((hb2.block (w.heap.size + 1) (by omega)).trans Hrow.out)
  obtain ⟨kc, kf⟩ := cells_of hL2
  clear hL2
  go_wp2_with fail
  refine bodyPost_ret (v := .agg #[.int .u8 (d % 4), .slice (some ⟨w.heap.size + 1, 0, none⟩) m m]) (by simp [results, Tryz.results83, go_sem, kc]) rfl ⟨some ⟨w.heap.size + 1, 0, none⟩, m, by rw [Hml.out], ?_, ?_⟩
  · refine fl_row (T := 43) (cs := ((ns.take m).map (Value.float .f64)).toArray) ?_ (hS _ (by omega)) (by rw [Hml.out]; omega) (fun i hi => by
      have hi' := hi
      rw [Hml.out] at hi'
      simp [hi', show i < ns.length by omega])
    rw [Below.heap_setCell _ _ _ _ (by simp), Below.heap_setCell _ _ _ _ (by simp)]
    exact hR2.out
  · exact (((((((Below.refl _ _).alloc (Nat.le_refl _) _).alloc (by simp) _).trans (hB1.mono (by omega))).trans (hb2.mono (by omega))).setCell (by simp) _).setCell (by simp) _)
end Go.Proofs.YtahnhhkbdgaidaaGreatDoor
namespace Go.Proofs.YtahnhhkbdgaidaaGreatDoor
open Go.RowKit
theorem q135 (t : Int) (w : World) (n : Nat) (h0 : 0 ≤ t) (h1 : t ≤ 3) : Calls Tryz.prog 135 #[.int .u8 t] (w.drewN n) fun e w' => e = .returned (.int .i64 (dN t)) ∧ w' = w.drewN n :=
  (c135 t _ h0 h1).mono fun e w' h => ⟨by rw [h.1, dN_eq], h.2.symm⟩
theorem c84 (t : Int) (a : Option Addr) (n c : Nat) (w : World) (h0 : 0 ≤ t) (h1 : t ≤ 3) (hn : n ≤ 17592186044416) :
    Calls Tryz.prog 84 #[.agg #[.int .u8 t, .slice a n c]] w fun e w' => e = .returned (.int .i64 ((n / dN t : Nat) : Int)) ∧ Below w.heap.size w w' := by
  have hb := dN_bd t
  have hdd : ((n : Int) / (dN t : Int)) = ((n / dN t : Nat) : Int) := (Int.natCast_ediv _ _).symm
  have hw : IntKind.i64.wrap ((n : Int) / (dN t : Int)) = ((n / dN t : Nat) : Int) := by
    have := Nat.div_le_self n (dN t); rw [hdd]; generalize n / dN t = m at *; exact IntWalk.i64_in _ (by omega)
  clear hdd
  have H := Lib.hid (fun w n => q135 t w n h0 h1)
  generalize dN t = q at *
  go_enter Tryz.func84, Tryz.ntmps84
  go_wp2_with fail
  go_quiet ((go_at_call 135; exact Calls.quiet_of_same (H.out _ _)))
  go_wp2_with fail
  go_ret
  exact ⟨rfl, bl_drewN ((Below.refl _ _).alloc (Nat.le_refl _) _) _⟩
theorem st_float (k : FloatKind) (n : Nat) (a : Addr) (w : World) : (store a (.float k n)).run Tryz.prog w = stored Tryz.prog w a (.float k n) .plain := run_store Tryz.prog w a _ .plain rfl
set_option maxRecDepth 100000 in
set_option maxHeartbeats 1000000 in
theorem c87_0 (b off n c i p : Nat) (x y : Nat) (w : World) (hn : n ≤ 17592186044416) (hb : b < w.heap.size) (hp : i * dN 0 = p)
    (hi : p + dN 0 ≤ n) (hx : w.cell? ⟨b, off + p, none⟩ = some (.float .f64 x)) (hy : w.cell? ⟨b, off + (p + 1), none⟩ = some (.float .f64 y)) :
    Calls Tryz.prog 87 #[.agg #[.int .u8 0, .slice (some ⟨b, off, none⟩) n c], .int .i64 i] w fun e w' => e = .returned (.agg #[.float .f64 x, .float .f64 y, .float .f64 0, .float .f64 0, .int .u8 0]) ∧ Below w.heap.size w w' := by
  have hqe : dimN 0 = 2 := by decide
  have hqn : dN 0 = 2 := by decide
  rw [hqn] at hp hi
  have hm : IntKind.i64.wrap ((i : Int) * 2) = (p : Int) := by rw [← hp]; exact (IntWalk.i64_in _ (by omega)).trans (by omega)
  have hm' : (i : Int) * 2 = (p : Int) := by omega
  have hm1 : IntKind.i64.wrap ((p : Int) + 1) = (p : Int) + 1 := IntWalk.i64_in _ (by omega)
  have e0 : (0 : Int) ≤ (p : Int) := by omega
  have e1 : (p : Int) < (n : Int) := by omega
  have e2 : (0 : Int) ≤ (p : Int) + 1 := by omega
  have e3 : (p : Int) + 1 < (n : Int) := by omega
  have e4 : ((p : Int) + 1).toNat = p + 1 := by omega
  clear hp
  have hsf := st_float
  have Hm' := Lib.hid hm'; clear hm'
  go_enter Tryz.func87, Tryz.ntmps87
  go_wp2_with (go_at_call 135; refine (c135 _ _ (by omega) (by omega)).mono ?_; rintro e w' ⟨rfl, rfl⟩; rw [hqe])
  have f0 : ((w.alloc (.cells #[.int .u8 0, .slice (some ⟨b, off, none⟩) n c] 67)).alloc (.cells #[.float .f64 0, .float .f64 0, .float .f64 0, .float .f64 0, .int .u8 0] 61)).heap[w.heap.size]? = some (.cells #[.int .u8 0, .slice (some ⟨b, off, none⟩) n c] 67 (0, 0)) := by
    rw [heap_alloc_old _ _ (by simp), heap_alloc_new]
  have f1 : ((w.alloc (.cells #[.int .u8 0, .slice (some ⟨b, off, none⟩) n c] 67)).alloc (.cells #[.float .f64 0, .float .f64 0, .float .f64 0, .float .f64 0, .int .u8 0] 61)).heap[w.heap.size + 1]? = some (.cells #[.float .f64 0, .float .f64 0, .float .f64 0, .float .f64 0, .int .u8 0] 61 (0, 0)) := by
    have := heap_alloc_new (w.alloc (.cells #[.int .u8 0, .slice (some ⟨b, off, none⟩) n c] 67)) (.cells #[.float .f64 0, .float .f64 0, .float .f64 0, .float .f64 0, .int .u8 0] 61)
    simpa using this
  have fB : Below w.heap.size w ((w.alloc (.cells #[.int .u8 0, .slice (some ⟨b, off, none⟩) n c] 67)).alloc (.cells #[.float .f64 0, .float .f64 0, .float .f64 0, .float .f64 0, .int .u8 0] 61)) := ((Below.refl _ _).alloc (Nat.le_refl _) _).alloc (by simp) _
  generalize ((w.alloc (.cells #[.int .u8 0, .slice (some ⟨b, off, none⟩) n c] 67)).alloc (.cells #[.float .f64 0, .float .f64 0, .float .f64 0, .float .f64 0, .int .u8 0] 61)) = w1 at *
  have g0 : w1.cell? ⟨w.heap.size, 0, none⟩ = some (.int .u8 0) := (cells_of f0).1 0
  have g1 : w1.cell? ⟨w.heap.size, 1, none⟩ = some (.slice (some ⟨b, off, none⟩) n c) := (cells_of f0).1 1
  have g2 := (fB.cell hb).trans hx
  have g3 := (fB.cell hb).trans hy
  have l0 : w.heap.size < w1.heap.size := (Array.getElem?_eq_some_iff.1 f0).1
  have l1 : b < w1.heap.size := by omega
  have l2 : w.heap.size + 1 < w1.heap.size := (Array.getElem?_eq_some_iff.1 f1).1
  have F1 := Lib.hid f1
  have FB := Lib.hid fB
  clear hx hy f0 f1 fB
  go_region_held3 (fun w' => w'.cell? ⟨w.heap.size, 0, none⟩ = some (.int .u8 0) ∧ w'.cell? ⟨w.heap.size, 1, none⟩ = some (.slice (some ⟨b, off, none⟩) n c) ∧ w'.cell? ⟨b, off + p, none⟩ = some (.float .f64 x) ∧ w'.cell? ⟨b, off + (p + 1), none⟩ = some (.float .f64 y)) (first | (go_keep; done) | (go_simp; done)) (first | fail)
  obtain ⟨kc, kf⟩ := cells_of F1.out
  have hmw := Hm'.out
  go_wp2_with fail
  refine bodyPost_ret (v := .agg #[.float .f64 x, .float .f64 y, .float .f64 0, .float .f64 0, .int .u8 0]) ?_ rfl ⟨rfl, ?_⟩
  · simp [results, Tryz.results87, go_sem, *]
  · repeat (with_reducible first | refine Below.setCell ?_ (by simp) _ | refine Below.drew ?_ | refine Below.alloc ?_ (by simp; omega) _ | exact FB.out)
set_option maxRecDepth 100000 in
set_option maxHeartbeats 1000000 in
theorem c87_1 (b off n c i p : Nat) (x y z : Nat) (w : World) (hn : n ≤ 17592186044416) (hb : b < w.heap.size) (hp : i * dN 1 = p)
    (hi : p + dN 1 ≤ n) (hx : w.cell? ⟨b, off + p, none⟩ = some (.float .f64 x)) (hy : w.cell? ⟨b, off + (p + 1), none⟩ = some (.float .f64 y)) (kz : w.cell? ⟨b, off + (p + 2), none⟩ = some (.float .f64 z)) :
    Calls Tryz.prog 87 #[.agg #[.int .u8 1, .slice (some ⟨b, off, none⟩) n c], .int .i64 i] w fun e w' => e = .returned (.agg #[.float .f64 x, .float .f64 y, .float .f64 z, .float .f64 0, .int .u8 1]) ∧ Below w.heap.size w w' := by
  have hqe : dimN 1 = 3 := by decide
  have hqn : dN 1 = 3 := by decide
  rw [hqn] at hp hi
  have hm : IntKind.i64.wrap ((i : Int) * 3) = (p : Int) := by rw [← hp]; exact (IntWalk.i64_in _ (by omega)).trans (by omega)
  have hm' : (i : Int) * 3 = (p : Int) := by omega
  have hm1 : IntKind.i64.wrap ((p : Int) + 1) = (p : Int) + 1 := IntWalk.i64_in _ (by omega)
  have e0 : (0 : Int) ≤ (p : Int) := by omega
  have e1 : (p : Int) < (n : Int) := by omega
  have e2 : (0 : Int) ≤ (p : Int) + 1 := by omega
  have e3 : (p : Int) + 1 < (n : Int) := by omega
  have e4 : ((p : Int) + 1).toNat = p + 1 := by omega
  clear hp
  have hsf := st_float
  have Hm' := Lib.hid hm'; clear hm'
  go_enter Tryz.func87, Tryz.ntmps87
  go_wp2_with (go_at_call 135; refine (c135 _ _ (by omega) (by omega)).mono ?_; rintro e w' ⟨rfl, rfl⟩; rw [hqe])
  have f0 : ((w.alloc (.cells #[.int .u8 1, .slice (some ⟨b, off, none⟩) n c] 67)).alloc (.cells #[.float .f64 0, .float .f64 0, .float .f64 0, .float .f64 0, .int .u8 0] 61)).heap[w.heap.size]? = some (.cells #[.int .u8 1, .slice (some ⟨b, off, none⟩) n c] 67 (0, 0)) := by
    rw [heap_alloc_old _ _ (by simp), heap_alloc_new]
  have f1 : ((w.alloc (.cells #[.int .u8 1, .slice (some ⟨b, off, none⟩) n c] 67)).alloc (.cells #[.float .f64 0, .float .f64 0, .float .f64 0, .float .f64 0, .int .u8 0] 61)).heap[w.heap.size + 1]? = some (.cells #[.float .f64 0, .float .f64 0, .float .f64 0, .float .f64 0, .int .u8 0] 61 (0, 0)) := by
    have := heap_alloc_new (w.alloc (.cells #[.int .u8 1, .slice (some ⟨b, off, none⟩) n c] 67)) (.cells #[.float .f64 0, .float .f64 0, .float .f64 0, .float .f64 0, .int .u8 0] 61)
    simpa using this
  have fB : Below w.heap.size w ((w.alloc (.cells #[.int .u8 1, .slice (some ⟨b, off, none⟩) n c] 67)).alloc (.cells #[.float .f64 0, .float .f64 0, .float .f64 0, .float .f64 0, .int .u8 0] 61)) := ((Below.refl _ _).alloc (Nat.le_refl _) _).alloc (by simp) _
  generalize ((w.alloc (.cells #[.int .u8 1, .slice (some ⟨b, off, none⟩) n c] 67)).alloc (.cells #[.float .f64 0, .float .f64 0, .float .f64 0, .float .f64 0, .int .u8 0] 61)) = w1 at *
  have g0 : w1.cell? ⟨w.heap.size, 0, none⟩ = some (.int .u8 1) := (cells_of f0).1 0
  have g1 : w1.cell? ⟨w.heap.size, 1, none⟩ = some (.slice (some ⟨b, off, none⟩) n c) := (cells_of f0).1 1
  have g2 := (fB.cell hb).trans hx
  have g3 := (fB.cell hb).trans hy
  have gz := (fB.cell hb).trans kz
  have l0 : w.heap.size < w1.heap.size := (Array.getElem?_eq_some_iff.1 f0).1
  have l1 : b < w1.heap.size := by omega
  have l2 : w.heap.size + 1 < w1.heap.size := (Array.getElem?_eq_some_iff.1 f1).1
  have F1 := Lib.hid f1
  have FB := Lib.hid fB
  clear hx hy f0 f1 fB kz
  go_region_held3 (fun w' => w'.cell? ⟨w.heap.size, 0, none⟩ = some (.int .u8 1) ∧ w'.cell? ⟨w.heap.size, 1, none⟩ = some (.slice (some ⟨b, off, none⟩) n c) ∧ w'.cell? ⟨b, off + p, none⟩ = some (.float .f64 x) ∧ w'.cell? ⟨b, off + (p + 1), none⟩ = some (.float .f64 y)) (first | (go_keep; done) | (go_simp; done)) (first | fail)
  obtain ⟨kc, kf⟩ := cells_of F1.out
  have hmw := Hm'.out
  go_wp2_with fail
  refine bodyPost_ret (v := .agg #[.float .f64 x, .float .f64 y, .float .f64 z, .float .f64 0, .int .u8 1]) ?_ rfl ⟨rfl, ?_⟩
  · simp [results, Tryz.results87, go_sem, *]
  · repeat (with_reducible first | refine Below.setCell ?_ (by simp) _ | refine Below.drew ?_ | refine Below.alloc ?_ (by simp; omega) _ | exact FB.out)
set_option maxRecDepth 100000 in
set_option maxHeartbeats 1000000 in
theorem c87_2 (b off n c i p : Nat) (x y z : Nat) (w : World) (hn : n ≤ 17592186044416) (hb : b < w.heap.size) (hp : i * dN 2 = p)
    (hi : p + dN 2 ≤ n) (hx : w.cell? ⟨b, off + p, none⟩ = some (.float .f64 x)) (hy : w.cell? ⟨b, off + (p + 1), none⟩ = some (.float .f64 y)) (kz : w.cell? ⟨b, off + (p + 2), none⟩ = some (.float .f64 z)) :
    Calls Tryz.prog 87 #[.agg #[.int .u8 2, .slice (some ⟨b, off, none⟩) n c], .int .i64 i] w fun e w' => e = .returned (.agg #[.float .f64 x, .float .f64 y, .float .f64 0, .float .f64 z, .int .u8 2]) ∧ Below w.heap.size w w' := by
  have hqe : dimN 2 = 3 := by decide
  have hqn : dN 2 = 3 := by decide
  rw [hqn] at hp hi
  have hm : IntKind.i64.wrap ((i : Int) * 3) = (p : Int) := by rw [← hp]; exact (IntWalk.i64_in _ (by omega)).trans (by omega)
  have hm' : (i : Int) * 3 = (p : Int) := by omega
  have hm1 : IntKind.i64.wrap ((p : Int) + 1) = (p : Int) + 1 := IntWalk.i64_in _ (by omega)
  have e0 : (0 : Int) ≤ (p : Int) := by omega
  have e1 : (p : Int) < (n : Int) := by omega
  have e2 : (0 : Int) ≤ (p : Int) + 1 := by omega
  have e3 : (p : Int) + 1 < (n : Int) := by omega
  have e4 : ((p : Int) + 1).toNat = p + 1 := by omega
  clear hp
  have hsf := st_float
  have Hm' := Lib.hid hm'; clear hm'
  go_enter Tryz.func87, Tryz.ntmps87
  go_wp2_with (go_at_call 135; refine (c135 _ _ (by omega) (by omega)).mono ?_; rintro e w' ⟨rfl, rfl⟩; rw [hqe])
  have f0 : ((w.alloc (.cells #[.int .u8 2, .slice (some ⟨b, off, none⟩) n c] 67)).alloc (.cells #[.float .f64 0, .float .f64 0, .float .f64 0, .float .f64 0, .int .u8 0] 61)).heap[w.heap.size]? = some (.cells #[.int .u8 2, .slice (some ⟨b, off, none⟩) n c] 67 (0, 0)) := by
    rw [heap_alloc_old _ _ (by simp), heap_alloc_new]
  have f1 : ((w.alloc (.cells #[.int .u8 2, .slice (some ⟨b, off, none⟩) n c] 67)).alloc (.cells #[.float .f64 0, .float .f64 0, .float .f64 0, .float .f64 0, .int .u8 0] 61)).heap[w.heap.size + 1]? = some (.cells #[.float .f64 0, .float .f64 0, .float .f64 0, .float .f64 0, .int .u8 0] 61 (0, 0)) := by
    have := heap_alloc_new (w.alloc (.cells #[.int .u8 2, .slice (some ⟨b, off, none⟩) n c] 67)) (.cells #[.float .f64 0, .float .f64 0, .float .f64 0, .float .f64 0, .int .u8 0] 61)
    simpa using this
  have fB : Below w.heap.size w ((w.alloc (.cells #[.int .u8 2, .slice (some ⟨b, off, none⟩) n c] 67)).alloc (.cells #[.float .f64 0, .float .f64 0, .float .f64 0, .float .f64 0, .int .u8 0] 61)) := ((Below.refl _ _).alloc (Nat.le_refl _) _).alloc (by simp) _
  generalize ((w.alloc (.cells #[.int .u8 2, .slice (some ⟨b, off, none⟩) n c] 67)).alloc (.cells #[.float .f64 0, .float .f64 0, .float .f64 0, .float .f64 0, .int .u8 0] 61)) = w1 at *
  have g0 : w1.cell? ⟨w.heap.size, 0, none⟩ = some (.int .u8 2) := (cells_of f0).1 0
  have g1 : w1.cell? ⟨w.heap.size, 1, none⟩ = some (.slice (some ⟨b, off, none⟩) n c) := (cells_of f0).1 1
  have g2 := (fB.cell hb).trans hx
  have g3 := (fB.cell hb).trans hy
  have gz := (fB.cell hb).trans kz
  have l0 : w.heap.size < w1.heap.size := (Array.getElem?_eq_some_iff.1 f0).1
  have l1 : b < w1.heap.size := by omega
  have l2 : w.heap.size + 1 < w1.heap.size := (Array.getElem?_eq_some_iff.1 f1).1
  have F1 := Lib.hid f1
  have FB := Lib.hid fB
  clear hx hy f0 f1 fB kz
  go_region_held3 (fun w' => w'.cell? ⟨w.heap.size, 0, none⟩ = some (.int .u8 2) ∧ w'.cell? ⟨w.heap.size, 1, none⟩ = some (.slice (some ⟨b, off, none⟩) n c) ∧ w'.cell? ⟨b, off + p, none⟩ = some (.float .f64 x) ∧ w'.cell? ⟨b, off + (p + 1), none⟩ = some (.float .f64 y)) (first | (go_keep; done) | (go_simp; done)) (first | fail)
  obtain ⟨kc, kf⟩ := cells_of F1.out
  have hmw := Hm'.out
  go_wp2_with fail
  refine bodyPost_ret (v := .agg #[.float .f64 x, .float .f64 y, .float .f64 0, .float .f64 z, .int .u8 2]) ?_ rfl ⟨rfl, ?_⟩
  · simp [results, Tryz.results87, go_sem, *]
  · repeat (with_reducible first | refine Below.setCell ?_ (by simp) _ | refine Below.drew ?_ | refine Below.alloc ?_ (by simp; omega) _ | exact FB.out)
set_option maxRecDepth 100000 in
set_option maxHeartbeats 1000000 in
theorem c87_3 (b off n c i p : Nat) (x y z u : Nat) (w : World) (hn : n ≤ 17592186044416) (hb : b < w.heap.size) (hp : i * dN 3 = p)
    (hi : p + dN 3 ≤ n) (hx : w.cell? ⟨b, off + p, none⟩ = some (.float .f64 x)) (hy : w.cell? ⟨b, off + (p + 1), none⟩ = some (.float .f64 y)) (kz : w.cell? ⟨b, off + (p + 2), none⟩ = some (.float .f64 z)) (ku : w.cell? ⟨b, off + (p + 3), none⟩ = some (.float .f64 u)) :
    Calls Tryz.prog 87 #[.agg #[.int .u8 3, .slice (some ⟨b, off, none⟩) n c], .int .i64 i] w fun e w' => e = .returned (.agg #[.float .f64 x, .float .f64 y, .float .f64 z, .float .f64 u, .int .u8 3]) ∧ Below w.heap.size w w' := by
  have hqe : dimN 3 = 4 := by decide
  have hqn : dN 3 = 4 := by decide
  rw [hqn] at hp hi
  have hm : IntKind.i64.wrap ((i : Int) * 4) = (p : Int) := by rw [← hp]; exact (IntWalk.i64_in _ (by omega)).trans (by omega)
  have hm' : (i : Int) * 4 = (p : Int) := by omega
  have hm1 : IntKind.i64.wrap ((p : Int) + 1) = (p : Int) + 1 := IntWalk.i64_in _ (by omega)
  have e0 : (0 : Int) ≤ (p : Int) := by omega
  have e1 : (p : Int) < (n : Int) := by omega
  have e2 : (0 : Int) ≤ (p : Int) + 1 := by omega
  have e3 : (p : Int) + 1 < (n : Int) := by omega
  have e4 : ((p : Int) + 1).toNat = p + 1 := by omega
  clear hp
  have hsf := st_float
  have Hm' := Lib.hid hm'; clear hm'
  go_enter Tryz.func87, Tryz.ntmps87
  go_wp2_with (go_at_call 135; refine (c135 _ _ (by omega) (by omega)).mono ?_; rintro e w' ⟨rfl, rfl⟩; rw [hqe])
  have f0 : ((w.alloc (.cells #[.int .u8 3, .slice (some ⟨b, off, none⟩) n c] 67)).alloc (.cells #[.float .f64 0, .float .f64 0, .float .f64 0, .float .f64 0, .int .u8 0] 61)).heap[w.heap.size]? = some (.cells #[.int .u8 3, .slice (some ⟨b, off, none⟩) n c] 67 (0, 0)) := by
    rw [heap_alloc_old _ _ (by simp), heap_alloc_new]
  have f1 : ((w.alloc (.cells #[.int .u8 3, .slice (some ⟨b, off, none⟩) n c] 67)).alloc (.cells #[.float .f64 0, .float .f64 0, .float .f64 0, .float .f64 0, .int .u8 0] 61)).heap[w.heap.size + 1]? = some (.cells #[.float .f64 0, .float .f64 0, .float .f64 0, .float .f64 0, .int .u8 0] 61 (0, 0)) := by
    have := heap_alloc_new (w.alloc (.cells #[.int .u8 3, .slice (some ⟨b, off, none⟩) n c] 67)) (.cells #[.float .f64 0, .float .f64 0, .float .f64 0, .float .f64 0, .int .u8 0] 61)
    simpa using this
  have fB : Below w.heap.size w ((w.alloc (.cells #[.int .u8 3, .slice (some ⟨b, off, none⟩) n c] 67)).alloc (.cells #[.float .f64 0, .float .f64 0, .float .f64 0, .float .f64 0, .int .u8 0] 61)) := ((Below.refl _ _).alloc (Nat.le_refl _) _).alloc (by simp) _
  generalize ((w.alloc (.cells #[.int .u8 3, .slice (some ⟨b, off, none⟩) n c] 67)).alloc (.cells #[.float .f64 0, .float .f64 0, .float .f64 0, .float .f64 0, .int .u8 0] 61)) = w1 at *
  have g0 : w1.cell? ⟨w.heap.size, 0, none⟩ = some (.int .u8 3) := (cells_of f0).1 0
  have g1 : w1.cell? ⟨w.heap.size, 1, none⟩ = some (.slice (some ⟨b, off, none⟩) n c) := (cells_of f0).1 1
  have g2 := (fB.cell hb).trans hx
  have g3 := (fB.cell hb).trans hy
  have gz := (fB.cell hb).trans kz
  have gu := (fB.cell hb).trans ku
  have l0 : w.heap.size < w1.heap.size := (Array.getElem?_eq_some_iff.1 f0).1
  have l1 : b < w1.heap.size := by omega
  have l2 : w.heap.size + 1 < w1.heap.size := (Array.getElem?_eq_some_iff.1 f1).1
  have F1 := Lib.hid f1
  have FB := Lib.hid fB
  clear hx hy f0 f1 fB kz ku
  go_region_held3 (fun w' => w'.cell? ⟨w.heap.size, 0, none⟩ = some (.int .u8 3) ∧ w'.cell? ⟨w.heap.size, 1, none⟩ = some (.slice (some ⟨b, off, none⟩) n c) ∧ w'.cell? ⟨b, off + p, none⟩ = some (.float .f64 x) ∧ w'.cell? ⟨b, off + (p + 1), none⟩ = some (.float .f64 y)) (first | (go_keep; done) | (go_simp; done)) (first | fail)
  obtain ⟨kc, kf⟩ := cells_of F1.out
  have hmw := Hm'.out
  go_wp2_with fail
  refine bodyPost_ret (v := .agg #[.float .f64 x, .float .f64 y, .float .f64 z, .float .f64 u, .int .u8 3]) ?_ rfl ⟨rfl, ?_⟩
  · simp [results, Tryz.results87, go_sem, *]
  · repeat (with_reducible first | refine Below.setCell ?_ (by simp) _ | refine Below.drew ?_ | refine Below.alloc ?_ (by simp; omega) _ | exact FB.out)
/-- A place with all its numbers. -/
structure Crd where
  x : Nat
  y : Nat
  z : Nat
  m : Nat
  t : Int
/-- The i-th place of a list of numbers. -/
def crdOf (t : Int) (xs : List Nat) (i : Nat) : Crd :=
  { x := xs.getD (i * dN t) 0, y := xs.getD (i * dN t + 1) 0, z := if t = 1 ∨ t = 3 then xs.getD (i * dN t + 2) 0 else 0
    m := if t = 2 then xs.getD (i * dN t + 2) 0 else if t = 3 then xs.getD (i * dN t + 3) 0 else 0, t := t }
theorem fl_at {S : Nat → Prop} {w : World} {xs : List Nat} {b off c : Nat} {n : Nat} (h : Rd S w (fl xs) (.slice (some ⟨b, off, none⟩) n c)) (j : Nat) (hj : j < xs.length) :
    w.cell? ⟨b, off + j, none⟩ = some (.float .f64 (xs.getD j 0)) := by
  obtain ⟨a, c', e, _, hi⟩ := fl_inv h
  obtain ⟨b', off', e', _, _, k⟩ := hi j hj
  simp only [Value.slice.injEq] at e
  obtain ⟨rfl, _, _⟩ := e
  simp only [Option.some.injEq, Addr.mk.injEq, and_true] at e'
  obtain ⟨rfl, rfl⟩ := e'
  rw [k]; simp [List.getD, hj]
theorem c87 (S : Nat → Prop) (t : Int) (xs : List Nat) (a : Option Addr) (c i : Nat) (w : World) (h0 : 0 ≤ t) (h1 : t ≤ 3) (h : Rd S w (fl xs) (.slice a xs.length c)) (hi : i * dN t + dN t ≤ xs.length) :
    Calls Tryz.prog 87 #[.agg #[.int .u8 t, .slice a xs.length c], .int .i64 i] w fun e w' =>
      e = .returned (.agg #[.float .f64 (crdOf t xs i).x, .float .f64 (crdOf t xs i).y, .float .f64 (crdOf t xs i).z, .float .f64 (crdOf t xs i).m, .int .u8 t]) ∧ Below w.heap.size w w' := by
  have hd := dN_bd t
  obtain ⟨a', c', e, hn, hall⟩ := fl_inv h
  simp only [Value.slice.injEq] at e
  obtain ⟨rfl, _, rfl⟩ := e
  obtain ⟨b, off, rfl, _, hb, _⟩ := hall (i * dN t) (by omega)
  have hat := fun j hj => fl_at h j hj
  rcases four t h0 h1 with rfl | rfl | rfl | rfl
  · have hq : dN 0 = 2 := by decide
    exact c87_0 b off _ _ i _ _ _ w hn hb rfl hi (hat _ (by omega)) (hat _ (by omega))
  · have hq : dN 1 = 3 := by decide
    exact c87_1 b off _ _ i _ _ _ _ w hn hb rfl hi (hat _ (by omega)) (hat _ (by omega)) (hat _ (by omega))
  · have hq : dN 2 = 3 := by decide
    exact c87_2 b off _ _ i _ _ _ _ w hn hb rfl hi (hat _ (by omega)) (hat _ (by omega)) (hat _ (by omega))
  · have hq : dN 3 = 4 := by decide
    exact c87_3 b off _ _ i _ _ _ _ _ w hn hb rfl hi (hat _ (by omega)) (hat _ (by omega)) (hat _ (by omega)) (hat _ (by omega))
end Go.Proofs.YtahnhhkbdgaidaaGreatDoor
