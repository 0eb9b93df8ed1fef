/-
  The argument's datum, opened: a geometry as plain data lies in memory as it reads.
-/
import Derived.Test.YtahnhhkbdgaidaaGreatDoorCt
import Derived.ProofKit
import Derived.SizedLaws
namespace Go.Proofs.YtahnhhkbdgaidaaGreatDoor
open Go.RowKit
set_option maxRecDepth 100000
theorem cells43 : Tryz.prog.cellsOf 43 = 1 := by kernel_rfl
theorem cells25 : Tryz.prog.cellsOf 25 = 4 := by kernel_rfl
theorem cells3 : Tryz.prog.cellsOf 3 = 1 := by kernel_rfl
theorem cells22 : Tryz.prog.cellsOf 22 = 1 := by kernel_rfl
theorem cells23 : Tryz.prog.cellsOf 23 = 1 := by kernel_rfl
theorem bytes43 : Tryz.prog.bytesOf 43 = 8 := by kernel_rfl
theorem bytes25 : Tryz.prog.bytesOf 25 = 64 := by kernel_rfl
theorem four_list {α : Type} {l : List α} (h : l.length = 4) : ∃ a b c d, l = [a, b, c, d] := by
  match l, h with
  | [a, b, c, d], _ => exact ⟨a, b, c, d, rfl⟩
theorem CapL.of {w : World} : ∀ (l : List G) (b off : Nat), (∀ i (hi : i < l.length), ∃ vn vk, w.cell? ⟨b, off + i * 4 + 2, none⟩ = some vn ∧ w.cell? ⟨b, off + i * 4 + 3, none⟩ = some vk ∧ CapG w l[i] vn vk) → CapL w l b off
  | [], _, _, _ => by simp [CapL]
  | g :: r, b, off, h => by
    simp only [CapL]
    refine ⟨by obtain ⟨vn, vk, a, b', c⟩ := h 0 (by simp); exact ⟨vn, vk, by simpa using a, by simpa using b', c⟩, CapL.of r b (off + 4) fun i hi => ?_⟩
    have := h (i + 1) (by simpa using hi)
    rw [show off + (i + 1) * 4 = off + 4 + i * 4 by omega] at this
    exact this
theorem trod_float {H : Type} {enc : TypeId × Value → H} {w : World} {fuel : Nat} {cs : List Value} {x : DataW H × List MemPlace} (h : DataW.trod enc Tryz.prog w 0 (fun _ => true) true fuel 43 cs = some x) : ∃ b, cs = [.float .f64 b] := by
  cases fuel with
  | zero => simp [DataW.trod] at h
  | succ n =>
    unfold DataW.trod at h
    rw [Tryz.underlying43] at h
    split at h <;> simp_all
theorem cells_one {w : World} {a : Addr} {l : List Value} (h : w.cells? 0 a 1 = some l) : ∃ v, l = [v] ∧ w.cell? a = some v := by
  unfold World.cells? at h
  rw [if_pos (Nat.zero_le _)] at h
  simp only [List.range, List.range.loop, List.mapM_cons, List.mapM_nil] at h
  simp only [Option.bind_eq_bind, Option.bind_eq_some_iff] at h
  obtain ⟨x0, h0, l1, h4, e0⟩ := h
  simp only [pure, Option.some.injEq] at *
  subst h4; subst e0
  exact ⟨x0, rfl, by simpa [Addr.add] using h0⟩
theorem cells_four {w : World} {a : Addr} {l : List Value} (h : w.cells? 0 a 4 = some l) : ∃ x0 x1 x2 x3, l = [x0, x1, x2, x3] ∧ w.cell? a = some x0 ∧ w.cell? (a.add 1) = some x1 ∧ w.cell? (a.add 2) = some x2 ∧ w.cell? (a.add 3) = some x3 := by
  unfold World.cells? at h
  rw [if_pos (Nat.zero_le _)] at h
  simp only [List.range, List.range.loop, List.mapM_cons, List.mapM_nil] at h
  simp only [Option.bind_eq_bind, Option.bind_eq_some_iff] at h
  obtain ⟨x0, h0, l1, ⟨x1, h1, l2, ⟨x2, h2, l3, ⟨x3, h3, l4, h4, e3⟩, e2⟩, e1⟩, e0⟩ := h
  simp only [pure, Option.some.injEq] at *
  subst h4; subst e3; subst e2; subst e1; subst e0
  exact ⟨x0, x1, x2, x3, rfl, by simpa [Addr.add] using h0, h1, h2, h3⟩
theorem spot_none {w : World} {a : Addr} {v : Value} (h : w.cell? a = some v) : a = ⟨a.block, a.off, none⟩ ∧ a.block < w.heap.size := by
  obtain ⟨b, o, s⟩ := a
  cases s with
  | none => exact ⟨rfl, cell_lt h⟩
  | some s =>
    unfold World.cell? at h
    split at h <;> simp at h
theorem add_none (b o n : Nat) : (⟨b, o, none⟩ : Addr).add n = ⟨b, o + n, none⟩ := by
  unfold Addr.add
  split
  · next h => subst h; rfl
  · rfl
instance : Inhabited G := ⟨.mk 0 0 [] []⟩
theorem geo_open {H : Type} {enc : TypeId × Value → H} (W : World) : ∀ (fuel : Nat) (cs : List Value) (x : DataW H × List MemPlace), DataW.trod enc Tryz.prog W 0 (fun _ => true) true fuel 25 cs = some x → (x.1.weights Tryz.prog 25).all (· ≤ reachBytes) = true →
    ∃ g vn vk, cs = [.int .i64 (G.kind g), .int .i64 (G.dim g), vn, vk] ∧ Rd (fun _ => True) W (fl (G.nums g)) vn ∧ Rd (fun _ => True) W (.list (G.fsL (G.kids g))) vk ∧ CapG W g vn vk := by
  intro fuel
  induction fuel using Nat.strongRecOn with
  | ind fuel ih =>
  intro cs x h hw
  obtain ⟨xs, n, rfl, rfl, hl, hxl, hf⟩ := DataW.trod_struct Tryz.underlying25 h
  rw [cells25] at hl
  obtain ⟨c0, c1, c2, c3, rfl⟩ := four_list hl
  obtain ⟨x0, x1, x2, x3, rfl⟩ := four_list (by simpa using hxl)
  have f0 : DataW.trod enc Tryz.prog W 0 (fun _ => true) true n 3 [c0] = some x0 := by have h : DataW.trod enc Tryz.prog W 0 (fun _ => true) true n 3 (List.take (Tryz.prog.cellsOf 3) (List.drop 0 [c0, c1, c2, c3])) = [x0, x1, x2, x3][0]? := hf 0 _ rfl; rw [cells3] at h; exact h
  have f1 : DataW.trod enc Tryz.prog W 0 (fun _ => true) true n 3 [c1] = some x1 := by have h : DataW.trod enc Tryz.prog W 0 (fun _ => true) true n 3 (List.take (Tryz.prog.cellsOf 3) (List.drop 1 [c0, c1, c2, c3])) = [x0, x1, x2, x3][1]? := hf 1 _ rfl; rw [cells3] at h; exact h
  have f2 : DataW.trod enc Tryz.prog W 0 (fun _ => true) true n 22 [c2] = some x2 := by have h : DataW.trod enc Tryz.prog W 0 (fun _ => true) true n 22 (List.take (Tryz.prog.cellsOf 22) (List.drop 2 [c0, c1, c2, c3])) = [x0, x1, x2, x3][2]? := hf 2 _ rfl; rw [cells22] at h; exact h
  have f3 : DataW.trod enc Tryz.prog W 0 (fun _ => true) true n 23 [c3] = some x3 := by have h : DataW.trod enc Tryz.prog W 0 (fun _ => true) true n 23 (List.take (Tryz.prog.cellsOf 23) (List.drop 3 [c0, c1, c2, c3])) = [x0, x1, x2, x3][3]? := hf 3 _ rfl; rw [cells23] at h; exact h
  obtain ⟨k, e0, _, _⟩ := DataW.trod_int Tryz.underlying3 f0
  obtain ⟨d, e1, _, _⟩ := DataW.trod_int Tryz.underlying3 f1
  obtain rfl : c0 = .int .i64 k := by simpa using e0
  obtain rfl : c1 = .int .i64 d := by simpa using e1
  simp only [DataW.weights, Tryz.underlying25, List.map_cons, List.map_nil, DataW.weightsEach, List.all_append, Bool.and_eq_true] at hw
  obtain ⟨_, _, hw2, hw3, _⟩ := hw
  -- the numbers
  have hN : ∃ ns : List Nat, Rd (fun _ => True) W (fl ns) c2 ∧ ∃ a c, c2 = .slice a ns.length c ∧ ns.length ≤ c ∧ (a = none → c = 0) := by
    rcases DataW.trod_slice Tryz.underlying22 f2 with ⟨hc, _⟩ | ⟨a, len, cap, elems, rest, m, _, hc, hx, _, hlc, _, hel, hi, _, _⟩
    · obtain rfl : c2 = .slice none 0 0 := by simpa using hc
      exact ⟨[], .nil _ _, none, 0, rfl, by simp, fun _ => rfl⟩
    · obtain rfl : c2 = .slice (some a) len cap := by simpa using hc
      rw [cells43] at hi
      have hbd : len ≤ 17592186044416 := by
        rw [hx] at hw2
        simp only [DataW.weights, Tryz.underlying22, List.all_cons, bytes43, Bool.and_eq_true, List.length_map, reachBytes] at hw2
        have hw2' := of_decide_eq_true hw2.1
        omega
      have hex : ∀ i, i < len → ∃ b, W.cell? (a.add i) = some (.float .f64 b) := fun i hlt => by
        have hi' := hi i hlt
        rw [List.getElem?_eq_getElem (by omega), Nat.mul_one] at hi'
        obtain ⟨l, hl1, hl2⟩ := Option.bind_eq_some_iff.1 hi'
        obtain ⟨v, rfl, hv⟩ := cells_one hl1
        obtain ⟨b, hb⟩ := trod_float hl2
        exact ⟨b, by rw [hv]; simpa using hb⟩
      obtain ⟨f, hfb⟩ := Go.Deep.choose_lt hex
      refine ⟨(List.range len).map f, ?_, some a, cap, by simp, by simpa using hlc, fun e => by cases e⟩
      by_cases hz : len = 0
      · subst hz; exact .nil _ _
      · obtain ⟨ea, hlt⟩ := spot_none (hfb 0 (by omega))
        rw [show (a.add 0) = a from rfl] at ea hlt
        have hlen : ((List.range len).map f).length = len := by simp
        have e : len = (((List.range len).map f).map fun x => [F.atom (.float .f64 x)]).length := by simp
        unfold fl
        rw [ea]
        conv => rhs; rw [e]
        refine .list _ a.block a.off cap 1 (fun i _ => .float .f64 (f i)) (by omega) (by simpa using hbd) (by simp) trivial hlt (fun i j hi hj => ?_) (fun i hi j hj => ?_)
        · obtain rfl : j = 0 := by omega
          have hi' : i < len := by simpa using hi
          have := hfb i hi'
          rw [ea, add_none] at this
          simpa using this
        · simp only [List.length_map, List.length_range] at hi
          simp only [List.getElem_map, List.length_cons, List.length_nil] at hj ⊢
          obtain rfl : j = 0 := by omega
          simp only [List.getElem_range, List.getElem_cons_zero]
          exact .atom _
  obtain ⟨ns, hn, hcap⟩ := hN
  -- the parts
  have hK : ∃ ks : List G, Rd (fun _ => True) W (.list (G.fsL ks)) c3 ∧ ∀ b off n c, c3 = .slice (some ⟨b, off, none⟩) n c → CapL W ks b off := by
    rcases DataW.trod_slice Tryz.underlying23 f3 with ⟨hc, _⟩ | ⟨a, len, cap, elems, rest, m, hmn, hc, hx, _, hlc, _, hel, hi, _, _⟩
    · obtain rfl : c3 = .slice none 0 0 := by simpa using hc
      exact ⟨[], by simp only [G.fsL]; exact .nil _ _, fun b off n c e => by cases e⟩
    · obtain rfl : c3 = .slice (some a) len cap := by simpa using hc
      rw [cells25] at hi
      rw [hx] at hw3
      simp only [DataW.weights, Tryz.underlying23, List.all_cons, List.all_append, bytes25, Bool.and_eq_true, List.length_map, reachBytes] at hw3
      obtain ⟨hb1, hb2, _⟩ := hw3
      have hb1 := of_decide_eq_true hb1
      have hbd : len ≤ 17592186044416 := by omega
      have hwe : ∀ (l : List (DataW H)), (DataW.weightsAll Tryz.prog 25 l).all (fun x => decide (x ≤ 140737488351232)) = true → ∀ d ∈ l, (d.weights Tryz.prog 25).all (fun x => decide (x ≤ 140737488351232)) = true := by
        intro l
        induction l with
        | nil => intro _ d hd; cases hd
        | cons y r ihl =>
          intro hy d hd
          simp only [DataW.weightsAll, List.all_append, Bool.and_eq_true] at hy
          rcases List.mem_cons.1 hd with rfl | hd
          · exact hy.1
          · exact ihl hy.2 d hd
      have hex : ∀ i, i < len → ∃ p : G × Value × Value, W.cell? (a.add (i * 4)) = some (.int .i64 p.1.kind) ∧ W.cell? ((a.add (i * 4)).add 1) = some (.int .i64 p.1.dim) ∧ W.cell? ((a.add (i * 4)).add 2) = some p.2.1 ∧ W.cell? ((a.add (i * 4)).add 3) = some p.2.2 ∧
          Rd (fun _ => True) W (fl p.1.nums) p.2.1 ∧ Rd (fun _ => True) W (.list (G.fsL p.1.kids)) p.2.2 ∧ CapG W p.1 p.2.1 p.2.2 := fun i hlt => by
        have hi' := hi i hlt
        have hlt' : i < elems.length := by omega
        rw [List.getElem?_eq_getElem hlt'] at hi'
        obtain ⟨l, hl1, hl2⟩ := Option.bind_eq_some_iff.1 hi'
        obtain ⟨y0, y1, y2, y3, rfl, k0, k1, k2, k3⟩ := cells_four hl1
        obtain ⟨g, vn, vk, e, r1, r2, r3⟩ := ih m (by omega) _ _ hl2 (hwe _ hb2 _ (List.mem_map.2 ⟨elems[i], List.getElem_mem hlt', rfl⟩))
        simp only [List.cons.injEq, and_true] at e
        obtain ⟨rfl, rfl, rfl, rfl⟩ := e
        exact ⟨(g, y2, y3), k0, k1, k2, k3, r1, r2, r3⟩
      haveI : Inhabited Value := ⟨.nilIface⟩
      obtain ⟨f, hfb⟩ := Go.Deep.choose_lt hex
      by_cases hz : len = 0
      · subst hz
        exact ⟨[], by simp only [G.fsL]; exact .nil _ _, fun b off n c _ => by simp [CapL]⟩
      · obtain ⟨ea, hlt⟩ := spot_none (hfb 0 (by omega)).1
        rw [show (a.add (0 * 4)) = a from rfl] at ea hlt
        rw [ea] at hfb ⊢
        simp only [add_none] at hfb
        refine ⟨(List.range len).map fun i => (f i).1, ?_, fun b off n c e => ?_⟩
        · rw [G.fsL_map, List.map_map]
          have e : len = ((List.range len).map (G.fs ∘ fun i => (f i).1)).length := by simp
          conv => rhs; rw [e]
          refine .list _ a.block a.off cap 4 (fun i j => #[.int .i64 (f i).1.kind, .int .i64 (f i).1.dim, (f i).2.1, (f i).2.2][j]?.getD undef) (by omega) (by simpa using hbd) (fun i hi => by simp only [List.getElem_map, Function.comp]; rw [G.fs_eq]; rfl) trivial hlt (fun i j hi hj => ?_) (fun i hi j hj => ?_)
          · have hi' : i < len := by simpa using hi
            obtain ⟨k0, k1, k2, k3, _⟩ := hfb i hi'
            have hj' : j = 0 ∨ j = 1 ∨ j = 2 ∨ j = 3 := by omega
            rcases hj' with rfl | rfl | rfl | rfl
            · simpa using k0
            · simpa using k1
            · simpa using k2
            · simpa using k3
          · have hi' : i < len := by simpa using hi
            obtain ⟨_, _, _, _, r1, r2, _⟩ := hfb i hi'
            have e1 : ((List.range len).map (G.fs ∘ fun i => (f i).1))[i] = [.atom (.int .i64 (f i).1.kind), .atom (.int .i64 (f i).1.dim), fl (f i).1.nums, .list (G.fsL (f i).1.kids)] := by
              simp only [List.getElem_map, List.getElem_range, Function.comp]; exact G.fs_eq _
            simp only [e1] at hj ⊢
            have hj' : j = 0 ∨ j = 1 ∨ j = 2 ∨ j = 3 := by have : j < 4 := hj; omega
            rcases hj' with rfl | rfl | rfl | rfl
            · exact .atom _
            · exact .atom _
            · exact r1
            · exact r2
        · simp only [Value.slice.injEq, Option.some.injEq, Addr.mk.injEq, and_true] at e
          obtain ⟨⟨rfl, rfl⟩, _, _⟩ := e
          refine CapL.of _ _ _ fun i hi => ?_
          have hi' : i < len := by simpa using hi
          obtain ⟨_, _, k2, k3, _, _, r3⟩ := hfb i hi'
          refine ⟨_, _, k2, k3, ?_⟩
          simpa using r3
  obtain ⟨ks, hk, hcapk⟩ := hK
  refine ⟨.mk k d ns ks, c2, c3, rfl, hn, hk, ?_⟩
  simp only [CapG]
  exact ⟨hcap, hcapk⟩
end Go.Proofs.YtahnhhkbdgaidaaGreatDoor
