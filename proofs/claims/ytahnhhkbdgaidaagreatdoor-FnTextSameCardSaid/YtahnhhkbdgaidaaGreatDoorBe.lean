/-
  A sequence of numbers is made: the numbers that fill whole places are copied.
-/
import Derived.Test.YtahnhhkbdgaidaaGreatDoorBd
import Derived.Laws.CopyOwn
import Derived.Deep.OwnRows
namespace Go.Proofs.YtahnhhkbdgaidaaGreatDoor
open Go.RowKit

theorem cells_of {w : World} {b : Nat} {cs : Array Value} {T : TypeId} (h : w.heap[b]? = some (.cells cs T (0, 0))) : (∀ o, w.cell? ⟨b, o, none⟩ = cs[o]?) ∧ (∀ o, w.frozen? ⟨b, o, none⟩ = false) :=
  ⟨fun o => by simp [World.cell?, h], fun o => by simp [World.frozen?, h]⟩
theorem fl_row {S : Nat → Prop} {w : World} {g : Nat} {cs : Array Value} {T : TypeId} {xs : List Nat} {c : Nat} (h : w.heap[g]? = some (.cells cs T (0, 0))) (hS : S g) (hmax : xs.length ≤ 17592186044416)
    (hx : ∀ i (hi : i < xs.length), cs[i]? = some (.float .f64 (xs[i]))) : Rd S w (fl xs) (.slice (some ⟨g, 0, none⟩) xs.length c) := by
  have hg : g < w.heap.size := (Array.getElem?_eq_some_iff.1 h).1
  have e : xs.length = (xs.map fun x => [F.atom (.float .f64 x)]).length := by simp
  unfold fl
  rw [e]
  refine .list _ g 0 c 1 (fun i _ => cs[i]?.getD undef) (by omega) (by simpa using hmax) (by simp) hS hg (fun i j hi hj => ?_) (fun i hi j hj => ?_)
  · obtain rfl : j = 0 := by omega
    simp only [List.length_map] at hi
    simp only [Nat.zero_add, Nat.mul_one, Nat.add_zero]
    rw [(cells_of h).1, hx i hi]; simp
  · simp only [List.length_map] at hi
    simp only [List.getElem_map, List.length_cons, List.length_nil] at hj ⊢
    obtain rfl : j = 0 := by omega
    simp only [List.getElem_cons_zero]
    rw [hx i hi]
    exact .atom _

theorem copy_over {P : Program} (W : World) (T ty e : TypeId) (hu : P.underlying T = some (.slice e)) (hs : (P.info? e).map (·.size) = some 1) (g m c : Nat) (sp : Option Addr) (sl sc : Nat) (cur : Array Value) (t : TypeId)
    (hg : W.heap[g]? = some (.cells cur t (0, 0))) (hcur : cur.size = m) (cs : List Value) (hcs : cs.length = m) (hm : m ≤ sl)
    (hsrc : 0 < m → ∃ ad, sp = some ad ∧ ∀ j v, cs[j]? = some v → W.cell? (ad.add j) = some v) (h1 : ∀ v ∈ cs, v.oneCell' = true) :
    ∃ w1, (Builtin.copy_ #[T, T] ty #[.slice (some ⟨g, 0, none⟩) m c, .slice sp sl sc]).run P W = .ok (goInt m) w1 ∧ w1.heap[g]? = some (.cells cs.toArray t (0, 0)) ∧ W.grownBy w1 (some g) := by
  by_cases h0 : m = 0
  · subst h0
    obtain rfl : cs = [] := List.eq_nil_of_length_eq_zero hcs
    obtain rfl : cur = #[] := Array.eq_empty_of_size_eq_zero hcur
    exact ⟨W, run_copy_none W T T ty e _ _ _ _ _ _ hu hs (by simp), hg, ⟨rfl, rfl, rfl, Nat.le_refl _, fun _ _ _ => rfl⟩⟩
  · obtain ⟨ad, rfl, hsr⟩ := hsrc (by omega)
    have hr := run_copy_row (P := P) W T T ty e g 0 m c ad sl sc cur t cs hu hs hg (by rw [hcs]; exact (Nat.min_eq_right hm).symm) hsr (by omega) h1
    rw [hcs] at hr
    refine ⟨_, hr, ?_, ⟨rfl, rfl, rfl, by simp [World.setRow], fun k _ hk => setRow_other W g k _ (fun e => hk (by rw [e]))⟩⟩
    rw [setRow_heap W g _ _ t _ hg]
    simp [← hcur, ← hcs]
theorem bl_grown {B : Nat} {w w' : World} {g : Nat} (h : w.grownBy w' (some g)) (hB : B ≤ g) (hg : g < w.heap.size) : Below B w w' :=
  ⟨h.os, h.tape, h.output, h.size, fun k hk => h.block k (by omega) (fun e => by have := Option.some.inj e; omega)⟩

def dN (t : Int) : Nat := (dimN t).toNat
theorem dN_eq (t : Int) : dimN t = (dN t : Int) := by have := dimN_bd t; unfold dN; omega
theorem dN_bd (t : Int) : 2 ≤ dN t ∧ dN t ≤ 4 := by have := dimN_bd t; unfold dN; omega

theorem info43 : (Tryz.prog.info? 43).map (fun i => (i.zero, i.size, i.bytes)) = some (some (.float .f64 0), 1, 8) := by kernel_rfl
theorem size43 : (Tryz.prog.info? 43).map (·.size) = some 1 := by kernel_rfl

theorem c136 (t : Int) (a : Option Addr) (n c : Nat) (w : World) (h0 : 0 ≤ t) (h1 : t ≤ 3) (hn : n ≤ 17592186044416) (hm : n % dN t = 0) :
    Calls Tryz.prog 136 #[.slice a n c, .int .u8 t] w fun e w' => e = .returned (.agg #[.int .u8 t, .slice a n c]) ∧ Below w.heap.size w w' := by
  have hq := dN_eq t
  have hb := dN_bd t
  generalize dN t = q at *
  have hmi : ((n : Int) % (q : Int) != 0) = false := by have : ((n % q : Nat) : Int) = (n : Int) % (q : Int) := Int.natCast_emod _ _; rw [← this, hm]; rfl
  clear hm
  go_enter Tryz.func136, Tryz.ntmps136
  go_wp2_with (go_at_call 135; refine (c135 _ _ h0 h1).mono ?_; rintro e w' ⟨rfl, rfl⟩; rw [hq])
  exact bodyPost_ret (v := .agg #[.int .u8 t, .slice a n c]) (by simp [results, Tryz.results136, go_sem]) rfl ⟨rfl, (Below.refl _ _).alloc (Nat.le_refl _) _⟩

/-- The numbers that fill whole places. -/
def seqX (t : Int) (ns : List Nat) : List Nat := ns.take (ns.length - ns.length % dN t)
set_option maxRecDepth 100000 in
theorem c83 (S : Nat → Prop) (d : Int) (ns : List Nat) (v : Value) (w : World) (hS : ∀ k, w.heap.size ≤ k → S k) (h : Rd S w (fl ns) v) :
    Calls Tryz.prog 83 #[v, .int .i64 d] w fun e w' => ∃ a c, e = .returned (.agg #[.int .u8 (d % 4), .slice a (seqX (d % 4) ns).length c]) ∧ Rd S w' (fl (seqX (d % 4) ns)) (.slice a (seqX (d % 4) ns).length c) ∧ Below w.heap.size w w' := by
  obtain ⟨a, c, rfl, hmax, hi⟩ := fl_inv h
  have h0 : 0 ≤ d % 4 := by omega
  have h1 : d % 4 ≤ 3 := by omega
  have hq := dN_eq (d % 4)
  have hb := dN_bd (d % 4)
  have h136 : ∀ (a : Option Addr) (n c : Nat) (w : World), n ≤ 17592186044416 → n % dN (d % 4) = 0 → _ := fun a n c w => c136 (d % 4) a n c w h0 h1
  have H136 := Lib.hid h136; clear h136
  unfold seqX
  generalize dN (d % 4) = q at *
  have hlt := Nat.mod_lt ns.length (show 0 < q by omega)
  have hle := Nat.mod_le ns.length q
  have hmod : (ns.length - ns.length % q) % q = 0 := Nat.mod_eq_zero_of_dvd (Nat.dvd_sub_mod _)
  have Hmod := Lib.hid hmod; clear hmod
  have hmk : ∀ w, (Instr.makeSlice 22 (.int .i64 ((ns.length : Int) - (ns.length : Int) % (q : Int))) (.int .i64 ((ns.length : Int) - (ns.length : Int) % (q : Int)))).run Tryz.prog w =
      .ok (.slice (some ⟨w.heap.size, 0, none⟩) (ns.length - ns.length % q) (ns.length - ns.length % q)) (w.alloc (.cells (madeCells #[.float .f64 0] (ns.length - ns.length % q)) 43)) := fun w => by
    have e : ((ns.length : Int) - (ns.length : Int) % (q : Int)) = ((ns.length - ns.length % q : Nat) : Int) := by rw [Int.natCast_sub hle, Int.natCast_emod]
    rw [e]
    exact run_make_row' 22 43 (.float .f64 0) 8 Tryz.underlying22 info43 rfl .i64 .i64 _ (by omega) (by omega) w
  have hmn : ns.length - ns.length % q ≤ ns.length := Nat.sub_le _ _
  generalize ns.length - ns.length % q = m at *
  have Hml : Hid ((ns.take m).length = m) := Lib.hid (by simp [hmn])
  have hcop := copy_over (P := Tryz.prog) ((w.alloc (.cells #[.int .u8 0, .slice none 0 0] 67)).alloc (.cells (madeCells #[.float .f64 0] m) 43)) 22 3 43 Tryz.underlying22 size43 (w.heap.size + 1) m m a ns.length c (madeCells #[.float .f64 0] m) 43
    (by simpa using heap_alloc_new (w.alloc (.cells #[.int .u8 0, .slice none 0 0] 67)) _) (by simp [size_madeCells]) ((ns.take m).map (Value.float .f64)) (by simp; omega) hmn
    (fun hp => by
      obtain ⟨b, off, rfl, _, hb, _⟩ := hi 0 (by omega)
      refine ⟨_, rfl, fun j v hv => ?_⟩
      have hj : j < m := by have := (List.getElem?_eq_some_iff.1 hv).1; simp at this; omega
      obtain ⟨b', off', he, _, _, k0⟩ := hi j (by omega)
      obtain ⟨rfl, rfl⟩ : b = b' ∧ off = off' := by simpa using he
      rw [Addr.add_lit, World.cell?_alloc_past _ _ _ (by simp; omega), World.cell?_alloc_past _ _ _ hb, k0]
      simp [hj, show j < ns.length by omega] at hv
      rw [← hv]) (by intro v hv; obtain ⟨_, _, rfl⟩ := List.mem_map.1 hv; rfl)
  obtain ⟨w1, hcp, hrow, hgr⟩ := hcop
  have Hrow := Lib.hid hrow; clear hrow
  have hB1 := bl_grown (B := w.heap.size + 1) hgr (Nat.le_refl _) (by simp)
  clear hgr
  have hs1 : w.heap.size + 2 ≤ w1.heap.size := by simpa using hB1.size
  have hL1 : Hid (w1.heap[w.heap.size]? = some (.cells #[.int .u8 0, .slice none 0 0] 67 (0, 0))) := Lib.hid (by
    rw [hB1.block _ (by omega), heap_alloc_old _ _ (by simp), heap_alloc_new])
  go_enter Tryz.func83, Tryz.ntmps83
  go_wp2_with (first | (go_at_call 49; refine (c49 _ _).mono ?_; rintro e w' ⟨rfl, rfl⟩) | (go_at_call 135; refine (c135 _ _ h0 h1).mono ?_; rintro e w' ⟨rfl, rfl⟩; rw [hq]))
  refine (H136.out _ _ _ _ (by omega) Hmod.out).mono ?_
  rintro e w2 ⟨rfl, hb2⟩
  have hL2 := (hb2.block w.heap.size (by omega)).trans hL1.out
  have hR2 := Lib.hid ((hb2.block (w.heap.size + 1) (by omega)).trans Hrow.out)
  obtain ⟨kc, kf⟩ := cells_of hL2
  clear hL2
  go_wp2_with fail
  refine bodyPost_ret (v := .agg #[.int .u8 (d % 4), .slice (some ⟨w.heap.size + 1, 0, none⟩) m m]) (by simp [results, Tryz.results83, go_sem, kc]) rfl ⟨some ⟨w.heap.size + 1, 0, none⟩, m, by rw [Hml.out], ?_, ?_⟩
  · refine fl_row (T := 43) (cs := ((ns.take m).map (Value.float .f64)).toArray) ?_ (hS _ (by omega)) (by rw [Hml.out]; omega) (fun i hi => by
      have hi' := hi
      rw [Hml.out] at hi'
      simp [hi', show i < ns.length by omega])
    rw [Below.heap_setCell _ _ _ _ (by simp), Below.heap_setCell _ _ _ _ (by simp)]
    exact hR2.out
  · exact (((((((Below.refl _ _).alloc (Nat.le_refl _) _).alloc (by simp) _).trans (hB1.mono (by omega))).trans (hb2.mono (by omega))).setCell (by simp) _).setCell (by simp) _)
end Go.Proofs.YtahnhhkbdgaidaaGreatDoor
