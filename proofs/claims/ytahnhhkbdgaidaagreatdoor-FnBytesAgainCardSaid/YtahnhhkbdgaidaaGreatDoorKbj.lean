/-
  The argument's datum, opened: its numbers are of eight bytes.
  Plain law: how long the GeoJSON is; the law of FnJSONFlat with no program in sight.
  Plain law: the bytes that are written are a binary form of the geometry that is made.
  Plain law: the binary form read gives the geometry that is made.
-/
import Derived.Test.YtahnhhkbdgaidaaGreatDoorKbi
import Derived.Test.YtahnhhkbdgaidaaGreatDoorKam
import Derived.Test.YtahnhhkbdgaidaaGreatDoorKba
import Derived.Test.YtahnhhkbdgaidaaGreatDoorKbf
namespace Go.Proofs.YtahnhhkbdgaidaaGreatDoor
open Go.RowKit
set_option maxRecDepth 100000
mutual
/-- All numbers are of eight bytes. -/
def G.small : G → Prop
  | .mk _ _ ns ks => (∀ n ∈ ns, n < 18446744073709551616) ∧ G.smallL ks
def G.smallL : List G → Prop
  | [] => True
  | g :: r => g.small ∧ G.smallL r
end
theorem G.smallL_iff : ∀ (l : List G), G.smallL l ↔ ∀ g ∈ l, g.small
  | [] => by simp [G.smallL]
  | g :: r => by simp only [G.smallL, G.smallL_iff r, List.forall_mem_cons]
theorem trod_float2 {H : Type} {enc : TypeId × Value → H} {w : World} {fuel : Nat} {cs : List Value} {x : DataW H × List MemPlace} (h : DataW.trod enc Tryz.prog w 0 (fun _ => true) true fuel 43 cs = some x) : ∃ b, cs = [.float .f64 b] ∧ b < 18446744073709551616 := by
  cases fuel with
  | zero => simp [DataW.trod] at h
  | succ n =>
    unfold DataW.trod at h
    rw [Tryz.underlying43] at h
    split at h <;> first
      | (simp_all; done)
      | (next k k' b e0 =>
          injection e0 with e0
          injection e0 with e0
          subst e0
          split at h
          · next hc =>
            obtain ⟨rfl, hw⟩ := hc
            exact ⟨b, rfl, by simpa [Lit.wf] using hw⟩
          · cases h)
theorem geo_open2 {H : Type} {enc : TypeId × Value → H} (W : World) : ∀ (fuel : Nat) (cs : List Value) (x : DataW H × List MemPlace), DataW.trod enc Tryz.prog W 0 (fun _ => true) true fuel 25 cs = some x → (x.1.weights Tryz.prog 25).all (· ≤ reachBytes) = true →
    ∃ g vn vk, cs = [.int .i64 (G.kind g), .int .i64 (G.dim g), vn, vk] ∧ Rd (fun _ => True) W (fl (G.nums g)) vn ∧ Rd (fun _ => True) W (.list (G.fsL (G.kids g))) vk ∧ CapG W g vn vk ∧ g.small := by
  intro fuel
  induction fuel using Nat.strongRecOn with
  | ind fuel ih =>
  intro cs x h hw
  obtain ⟨xs, n, rfl, rfl, hl, hxl, hf⟩ := DataW.trod_struct Tryz.underlying25 h
  rw [cells25] at hl
  obtain ⟨c0, c1, c2, c3, rfl⟩ := four_list hl
  obtain ⟨x0, x1, x2, x3, rfl⟩ := four_list (by simpa using hxl)
  have f0 : DataW.trod enc Tryz.prog W 0 (fun _ => true) true n 3 [c0] = some x0 := by have h : DataW.trod enc Tryz.prog W 0 (fun _ => true) true n 3 (List.take (Tryz.prog.cellsOf 3) (List.drop 0 [c0, c1, c2, c3])) = [x0, x1, x2, x3][0]? := hf 0 _ rfl; rw [cells3] at h; exact h
  have f1 : DataW.trod enc Tryz.prog W 0 (fun _ => true) true n 3 [c1] = some x1 := by have h : DataW.trod enc Tryz.prog W 0 (fun _ => true) true n 3 (List.take (Tryz.prog.cellsOf 3) (List.drop 1 [c0, c1, c2, c3])) = [x0, x1, x2, x3][1]? := hf 1 _ rfl; rw [cells3] at h; exact h
  have f2 : DataW.trod enc Tryz.prog W 0 (fun _ => true) true n 22 [c2] = some x2 := by have h : DataW.trod enc Tryz.prog W 0 (fun _ => true) true n 22 (List.take (Tryz.prog.cellsOf 22) (List.drop 2 [c0, c1, c2, c3])) = [x0, x1, x2, x3][2]? := hf 2 _ rfl; rw [cells22] at h; exact h
  have f3 : DataW.trod enc Tryz.prog W 0 (fun _ => true) true n 23 [c3] = some x3 := by have h : DataW.trod enc Tryz.prog W 0 (fun _ => true) true n 23 (List.take (Tryz.prog.cellsOf 23) (List.drop 3 [c0, c1, c2, c3])) = [x0, x1, x2, x3][3]? := hf 3 _ rfl; rw [cells23] at h; exact h
  obtain ⟨k, e0, _, _⟩ := DataW.trod_int Tryz.underlying3 f0
  obtain ⟨d, e1, _, _⟩ := DataW.trod_int Tryz.underlying3 f1
  obtain rfl : c0 = .int .i64 k := by simpa using e0
  obtain rfl : c1 = .int .i64 d := by simpa using e1
  simp only [DataW.weights, Tryz.underlying25, List.map_cons, List.map_nil, DataW.weightsEach, List.all_append, Bool.and_eq_true] at hw
  obtain ⟨_, _, hw2, hw3, _⟩ := hw
  -- the numbers
  have hN : ∃ ns : List Nat, (∀ n ∈ ns, n < 18446744073709551616) ∧ Rd (fun _ => True) W (fl ns) c2 ∧ ∃ a c, c2 = .slice a ns.length c ∧ ns.length ≤ c ∧ (a = none → c = 0) := by
    rcases DataW.trod_slice Tryz.underlying22 f2 with ⟨hc, _⟩ | ⟨a, len, cap, elems, rest, m, _, hc, hx, _, hlc, _, hel, hi, _, _⟩
    · obtain rfl : c2 = .slice none 0 0 := by simpa using hc
      exact ⟨[], by simp, .nil _ _, none, 0, rfl, by simp, fun _ => rfl⟩
    · obtain rfl : c2 = .slice (some a) len cap := by simpa using hc
      rw [cells43] at hi
      have hbd : len ≤ 17592186044416 := by
        rw [hx] at hw2
        simp only [DataW.weights, Tryz.underlying22, List.all_cons, bytes43, Bool.and_eq_true, List.length_map, reachBytes] at hw2
        have hw2' := of_decide_eq_true hw2.1
        omega
      have hex : ∀ i, i < len → ∃ b, W.cell? (a.add i) = some (.float .f64 b) ∧ b < 18446744073709551616 := fun i hlt => by
        have hi' := hi i hlt
        rw [List.getElem?_eq_getElem (by omega), Nat.mul_one] at hi'
        obtain ⟨l, hl1, hl2⟩ := Option.bind_eq_some_iff.1 hi'
        obtain ⟨v, rfl, hv⟩ := cells_one hl1
        obtain ⟨b, hb, hsm⟩ := trod_float2 hl2
        exact ⟨b, by rw [hv]; simpa using hb, hsm⟩
      obtain ⟨f, hfb⟩ := Go.Deep.choose_lt hex
      refine ⟨(List.range len).map f, fun n hn => by obtain ⟨i, hi, rfl⟩ := List.mem_map.1 hn; exact (hfb i (List.mem_range.1 hi)).2, ?_, some a, cap, by simp, by simpa using hlc, fun e => by cases e⟩
      by_cases hz : len = 0
      · subst hz; exact .nil _ _
      · obtain ⟨ea, hlt⟩ := spot_none (hfb 0 (by omega)).1
        rw [show (a.add 0) = a from rfl] at ea hlt
        have hlen : ((List.range len).map f).length = len := by simp
        have e : len = (((List.range len).map f).map fun x => [F.atom (.float .f64 x)]).length := by simp
        unfold fl
        rw [ea]
        conv => rhs; rw [e]
        refine .list _ a.block a.off cap 1 (fun i _ => .float .f64 (f i)) (by omega) (by simpa using hbd) (by simp) trivial hlt (fun i j hi hj => ?_) (fun i hi j hj => ?_)
        · obtain rfl : j = 0 := by omega
          have hi' : i < len := by simpa using hi
          have := (hfb i hi').1
          rw [ea, add_none] at this
          simpa using this
        · simp only [List.length_map, List.length_range] at hi
          simp only [List.getElem_map, List.length_cons, List.length_nil] at hj ⊢
          obtain rfl : j = 0 := by omega
          simp only [List.getElem_range, List.getElem_cons_zero]
          exact .atom _
  obtain ⟨ns, hsmn, hn, hcap⟩ := hN
  -- the parts
  have hK : ∃ ks : List G, (∀ g ∈ ks, g.small) ∧ Rd (fun _ => True) W (.list (G.fsL ks)) c3 ∧ ∀ b off n c, c3 = .slice (some ⟨b, off, none⟩) n c → CapL W ks b off := by
    rcases DataW.trod_slice Tryz.underlying23 f3 with ⟨hc, _⟩ | ⟨a, len, cap, elems, rest, m, hmn, hc, hx, _, hlc, _, hel, hi, _, _⟩
    · obtain rfl : c3 = .slice none 0 0 := by simpa using hc
      exact ⟨[], by simp, by simp only [G.fsL]; exact .nil _ _, fun b off n c e => by cases e⟩
    · obtain rfl : c3 = .slice (some a) len cap := by simpa using hc
      rw [cells25] at hi
      rw [hx] at hw3
      simp only [DataW.weights, Tryz.underlying23, List.all_cons, List.all_append, bytes25, Bool.and_eq_true, List.length_map, reachBytes] at hw3
      obtain ⟨hb1, hb2, _⟩ := hw3
      have hb1 := of_decide_eq_true hb1
      have hbd : len ≤ 17592186044416 := by omega
      have hwe : ∀ (l : List (DataW H)), (DataW.weightsAll Tryz.prog 25 l).all (fun x => decide (x ≤ 140737488351232)) = true → ∀ d ∈ l, (d.weights Tryz.prog 25).all (fun x => decide (x ≤ 140737488351232)) = true := by
        intro l
        induction l with
        | nil => intro _ d hd; cases hd
        | cons y r ihl =>
          intro hy d hd
          simp only [DataW.weightsAll, List.all_append, Bool.and_eq_true] at hy
          rcases List.mem_cons.1 hd with rfl | hd
          · exact hy.1
          · exact ihl hy.2 d hd
      have hex : ∀ i, i < len → ∃ p : G × Value × Value, W.cell? (a.add (i * 4)) = some (.int .i64 p.1.kind) ∧ W.cell? ((a.add (i * 4)).add 1) = some (.int .i64 p.1.dim) ∧ W.cell? ((a.add (i * 4)).add 2) = some p.2.1 ∧ W.cell? ((a.add (i * 4)).add 3) = some p.2.2 ∧
          Rd (fun _ => True) W (fl p.1.nums) p.2.1 ∧ Rd (fun _ => True) W (.list (G.fsL p.1.kids)) p.2.2 ∧ CapG W p.1 p.2.1 p.2.2 ∧ p.1.small := fun i hlt => by
        have hi' := hi i hlt
        have hlt' : i < elems.length := by omega
        rw [List.getElem?_eq_getElem hlt'] at hi'
        obtain ⟨l, hl1, hl2⟩ := Option.bind_eq_some_iff.1 hi'
        obtain ⟨y0, y1, y2, y3, rfl, k0, k1, k2, k3⟩ := cells_four hl1
        obtain ⟨g, vn, vk, e, r1, r2, r3, r4⟩ := ih m (by omega) _ _ hl2 (hwe _ hb2 _ (List.mem_map.2 ⟨elems[i], List.getElem_mem hlt', rfl⟩))
        simp only [List.cons.injEq, and_true] at e
        obtain ⟨rfl, rfl, rfl, rfl⟩ := e
        exact ⟨(g, y2, y3), k0, k1, k2, k3, r1, r2, r3, r4⟩
      haveI : Inhabited Value := ⟨.nilIface⟩
      obtain ⟨f, hfb⟩ := Go.Deep.choose_lt hex
      by_cases hz : len = 0
      · subst hz
        exact ⟨[], by simp, by simp only [G.fsL]; exact .nil _ _, fun b off n c _ => by simp [CapL]⟩
      · obtain ⟨ea, hlt⟩ := spot_none (hfb 0 (by omega)).1
        rw [show (a.add (0 * 4)) = a from rfl] at ea hlt
        rw [ea] at hfb ⊢
        simp only [add_none] at hfb
        refine ⟨(List.range len).map fun i => (f i).1, fun g hg => by obtain ⟨i, hi, rfl⟩ := List.mem_map.1 hg; exact (hfb i (List.mem_range.1 hi)).2.2.2.2.2.2.2, ?_, fun b off n c e => ?_⟩
        · rw [G.fsL_map, List.map_map]
          have e : len = ((List.range len).map (G.fs ∘ fun i => (f i).1)).length := by simp
          conv => rhs; rw [e]
          refine .list _ a.block a.off cap 4 (fun i j => #[.int .i64 (f i).1.kind, .int .i64 (f i).1.dim, (f i).2.1, (f i).2.2][j]?.getD undef) (by omega) (by simpa using hbd) (fun i hi => by simp only [List.getElem_map, Function.comp]; rw [G.fs_eq]; rfl) trivial hlt (fun i j hi hj => ?_) (fun i hi j hj => ?_)
          · have hi' : i < len := by simpa using hi
            obtain ⟨k0, k1, k2, k3, _⟩ := hfb i hi'
            have hj' : j = 0 ∨ j = 1 ∨ j = 2 ∨ j = 3 := by omega
            rcases hj' with rfl | rfl | rfl | rfl
            · simpa using k0
            · simpa using k1
            · simpa using k2
            · simpa using k3
          · have hi' : i < len := by simpa using hi
            obtain ⟨_, _, _, _, r1, r2, _⟩ := hfb i hi'
            have e1 : ((List.range len).map (G.fs ∘ fun i => (f i).1))[i] = [.atom (.int .i64 (f i).1.kind), .atom (.int .i64 (f i).1.dim), fl (f i).1.nums, .list (G.fsL (f i).1.kids)] := by
              simp only [List.getElem_map, List.getElem_range, Function.comp]; exact G.fs_eq _
            simp only [e1] at hj ⊢
            have hj' : j = 0 ∨ j = 1 ∨ j = 2 ∨ j = 3 := by have : j < 4 := hj; omega
            rcases hj' with rfl | rfl | rfl | rfl
            · exact .atom _
            · exact .atom _
            · exact r1
            · exact r2
        · simp only [Value.slice.injEq, Option.some.injEq, Addr.mk.injEq, and_true] at e
          obtain ⟨⟨rfl, rfl⟩, _, _⟩ := e
          refine CapL.of _ _ _ fun i hi => ?_
          have hi' : i < len := by simpa using hi
          obtain ⟨_, _, k2, k3, _, _, r3, _⟩ := hfb i hi'
          refine ⟨_, _, k2, k3, ?_⟩
          simpa using r3
  obtain ⟨ks, hsmk, hk, hcapk⟩ := hK
  refine ⟨.mk k d ns ks, c2, c3, rfl, hn, hk, ?_, ?_⟩
  · simp only [CapG]
    exact ⟨hcap, hcapk⟩
  · simp only [G.small, G.smallL_iff]
    exact ⟨hsmn, hsmk⟩
end Go.Proofs.YtahnhhkbdgaidaaGreatDoor
namespace Go.Proofs.YtahnhhkbdgaidaaGreatDoor
open Go.RowKit
set_option maxRecDepth 100000
theorem numsOf_length (t : Int) (l : List Crd) (h0 : 0 ≤ t) (h1 : t ≤ 3) : (numsOf t l).length = l.length * dN t := by
  unfold numsOf
  induction l with
  | nil => simp
  | cons c r ih => rw [List.flatMap_cons, List.length_append, ih, crdNums_len t c h0 h1, List.length_cons, Nat.succ_mul, Nat.add_comm]
theorem plsOf_length (t : Int) (xs : List Nat) : (plsOf t xs).length = xs.length / dN t := by simp [plsOf]
/-- Nothing has to be changed to make a geometry of it. -/
def G.own (k d : Int) (ns : List Nat) (ks : List G) : Prop :=
  0 ≤ k ∧ k ≤ 6 ∧ 0 ≤ d ∧ d ≤ 3 ∧ (k = 1 → ns.length = 0 ∨ ns.length = dN d) ∧ (k = 2 → ns.length % dN d = 0) ∧ (¬ (k = 1 ∨ k = 2) → ns = []) ∧ (k = 1 ∨ k = 2 → ks = [])
mutual
def G.good : G → Prop
  | .mk k d ns ks => G.own k d ns ks ∧ G.goodL k d ks
def G.goodL (k d : Int) : List G → Prop
  | [] => True
  | g :: r => (g.dim = d ∧ (kidOf k < 0 ∨ g.kind = kidOf k) ∧ g.good) ∧ G.goodL k d r
end
theorem G.goodL_iff (k d : Int) : ∀ (l : List G), G.goodL k d l ↔ ∀ g ∈ l, g.dim = d ∧ (kidOf k < 0 ∨ g.kind = kidOf k) ∧ g.good
  | [] => by simp [G.goodL]
  | g :: r => by simp only [G.goodL, G.goodL_iff k d r, List.forall_mem_cons]
theorem G.good_eq (g : G) : g.good ↔ G.own g.kind g.dim g.nums g.kids ∧ ∀ x ∈ g.kids, x.dim = g.dim ∧ (kidOf g.kind < 0 ∨ x.kind = kidOf g.kind) ∧ x.good := by
  cases g; simp only [G.good, G.goodL_iff, G.kind, G.dim, G.nums, G.kids]
theorem own_force {k d : Int} {ns : List Nat} {ks ks' : List G} (h : G.own k d ns ks) (t : Int) (h0 : 0 ≤ t) (h1 : t ≤ 3) (hk : ks = [] → ks' = []) : G.own k t (numsOf t (plsOf d ns)) ks' := by
  obtain ⟨k0, k1, d0, d1, e1, e2, e3, e4⟩ := h
  have hb := dN_bd d
  refine ⟨k0, k1, h0, h1, fun hk1 => ?_, fun hk2 => ?_, fun hn => ?_, fun hl => hk (e4 hl)⟩
  · rw [numsOf_length t _ h0 h1, plsOf_length]
    rcases e1 hk1 with e | e
    · left; rw [e, Nat.zero_div, Nat.zero_mul]
    · right; rw [e, Nat.div_self (by omega), Nat.one_mul]
  · rw [numsOf_length t _ h0 h1]; exact Nat.mul_mod_left _ _
  · rw [e3 hn]; exact nums_none d t
mutual
theorem force_good : ∀ (g : G) (t : Int), g.good → 0 ≤ t → t ≤ 3 → (g.force t).good
  | .mk k d ns ks, t, h, h0, h1 => by
    simp only [G.good] at h
    simp only [G.force, G.good]
    refine ⟨own_force h.1 t h0 h1 (fun e => by subst e; rfl), forceL_good k d ks t h.2 h0 h1⟩
theorem forceL_good : ∀ (k d : Int) (l : List G) (t : Int), G.goodL k d l → 0 ≤ t → t ≤ 3 → G.goodL k t (G.forceL l t)
  | _, _, [], _, _, _, _ => by simp [G.forceL, G.goodL]
  | k, d, g :: r, t, h, h0, h1 => by
    simp only [G.goodL] at h
    simp only [G.forceL, G.goodL]
    refine ⟨⟨by rw [G.force_eq]; rfl, ?_, force_good g t h.1.2.2 h0 h1⟩, forceL_good k d r t h.2 h0 h1⟩
    have e : (g.force t).kind = g.kind := by rw [G.force_eq]; rfl
    rw [e]; exact h.1.2.1
end
mutual
theorem force_self : ∀ (g : G), g.good → g.force g.dim = g
  | .mk k d ns ks, h => by
    simp only [G.good] at h
    obtain ⟨⟨k0, k1, d0, d1, e1, e2, e3, e4⟩, hk⟩ := h
    simp only [G.force, G.dim]
    have hn : numsOf d (plsOf d ns) = ns := nums_back d ns d0 d1 (by
      by_cases h1 : k = 1
      · rcases e1 h1 with e | e
        · rw [e, Nat.zero_mod]
        · rw [e, Nat.mod_self]
      · by_cases h2 : k = 2
        · exact e2 h2
        · rw [e3 (by omega)]; simp)
    rw [hn, forceL_self k d ks hk]
theorem forceL_self : ∀ (k d : Int) (l : List G), G.goodL k d l → G.forceL l d = l
  | _, _, [], _ => by simp [G.forceL]
  | k, d, g :: r, h => by
    simp only [G.goodL] at h
    simp only [G.forceL]
    have := force_self g h.1.2.2
    rw [h.1.1] at this
    rw [this, forceL_self k d r h.2]
end
theorem fold_dims (d : Int) (d0 : 0 ≤ d) (d1 : d ≤ 3) : ∀ (l : List Int) (s : Int), (∀ x ∈ l, x = d) → s = 3 ∨ s = d → l ≠ [] → l.foldl andL s = d
  | [], _, _, _, h => absurd rfl h
  | x :: r, s, hx, hs, _ => by
    obtain rfl := hx x (by simp)
    have e : andL s x = x := by
      rcases hs with rfl | rfl
      · rcases four x d0 d1 with rfl | rfl | rfl | rfl <;> decide
      · rcases four s d0 d1 with rfl | rfl | rfl | rfl <;> decide
    rw [List.foldl_cons, e]
    by_cases hr : r = []
    · subst hr; rfl
    · exact fold_dims x d0 d1 r x (fun y hy => hx y (by simp [hy])) (.inr rfl) hr
mutual
theorem newG_of_good : ∀ (g : G), g.good → newG g = g
  | .mk k d ns ks, h => by
    simp only [G.good] at h
    obtain ⟨⟨k0, k1, d0, d1, e1, e2, e3, e4⟩, hk⟩ := h
    have hb := dN_bd d
    have hkk : kindOf k = k := by unfold kindOf; split <;> omega
    have hdd : d % 4 = d := by omega
    have hL := newGL_of_good k d ks hk
    simp only [newG, hkk, hdd, hL]
    by_cases hl : k = 1 ∨ k = 2
    · rw [if_pos hl, e4 hl]
      have : leafN k d ns = ns := by
        unfold leafN
        rcases hl with rfl | rfl
        · rw [if_pos rfl]
          rcases e1 rfl with e | e
          · rw [List.eq_nil_of_length_eq_zero e]; simp
          · rw [e, Nat.div_self (by omega)]; simp [← e]
        · rw [if_neg (by decide)]
          have := Nat.div_add_mod ns.length (dN d)
          rw [e2 rfl, Nat.mul_comm, Nat.add_zero] at this
          rw [this, List.take_length]
      rw [this]
    · rw [if_neg hl, e3 hl]
      have hf : ks.filter (fitG k) = ks := by
        rw [List.filter_eq_self]
        intro x hx
        have := ((G.goodL_iff k d ks).1 hk x hx).2.1
        unfold fitG
        rcases this with h | h
        · simp [h]
        · simp [h]
      rw [hf]
      unfold gatherG
      by_cases h0 : ks.length = 0
      · rw [if_pos h0, List.eq_nil_of_length_eq_zero h0]
      · rw [if_neg h0]
        have hne : ks ≠ [] := fun e => h0 (by rw [e]; rfl)
        rw [fold_dims d d0 d1 (ks.map G.dim) 3 (fun x hx => by
          obtain ⟨y, hy, rfl⟩ := List.mem_map.1 hx
          exact ((G.goodL_iff k d ks).1 hk y hy).1) (.inl rfl) (by simpa using hne)]
        simp only [G.force, nums_none]
        rw [forceL_self k d ks hk]
theorem newGL_of_good : ∀ (k d : Int) (l : List G), G.goodL k d l → newGL l = l
  | _, _, [], _ => by simp [newGL]
  | k, d, g :: r, h => by
    simp only [G.goodL] at h
    simp only [newGL]
    rw [newG_of_good g h.1.2.2, newGL_of_good k d r h.2]
end
theorem kindOf_bd (k : Int) : 0 ≤ kindOf k ∧ kindOf k ≤ 6 := by unfold kindOf; split <;> omega
theorem fold_bd : ∀ (l : List Int) (s : Int), 0 ≤ s → s ≤ 3 → (∀ t ∈ l, 0 ≤ t ∧ t ≤ 3) → 0 ≤ l.foldl andL s ∧ l.foldl andL s ≤ 3 := fun l s h0 h1 h => by
  rw [foldL_eq l s h0 h1 h]
  induction l generalizing s with
  | nil => exact ⟨h0, h1⟩
  | cons t r ih =>
    have ht := h t (by simp)
    have hb := andT_bd s t h0 h1 ht.1 ht.2
    rw [List.foldl_cons]
    exact ih _ hb.1 hb.2 (fun x hx => h x (by simp [hx]))
mutual
theorem newG_good : ∀ (g : G), (newG g).good
  | .mk k d ns ks => by
    have hkb := kindOf_bd k
    have hL := newGL_good ks
    have hd0 : 0 ≤ d % 4 := by omega
    have hd1 : d % 4 ≤ 3 := by omega
    simp only [newG]
    generalize kindOf k = k' at *
    generalize d % 4 = d' at *
    have hb := dN_bd d'
    by_cases hl : k' = 1 ∨ k' = 2
    · rw [if_pos hl]
      simp only [G.good, G.goodL, and_true]
      have hdm := Nat.div_mul_le_self ns.length (dN d')
      refine ⟨hkb.1, hkb.2, hd0, hd1, fun e => ?_, fun e => ?_, fun e => absurd hl e, fun _ => rfl⟩
      · unfold leafN
        rw [if_pos e, List.length_take]
        rcases Nat.eq_zero_or_pos (ns.length / dN d') with h | h
        · left; rw [h]; simp
        · right
          rw [Nat.min_eq_right h, Nat.one_mul, Nat.min_eq_left]
          have := Nat.mul_le_mul_right (dN d') h
          omega
      · unfold leafN
        rw [if_neg (by omega), List.length_take, Nat.min_eq_left hdm]
        exact Nat.mul_mod_left _ _
    · rw [if_neg hl]
      unfold gatherG
      have hL' : ∀ x ∈ (newGL ks).filter (fitG k'), fitG k' x = true ∧ x.good := fun x hx => by
        rw [List.mem_filter] at hx
        exact ⟨hx.2, hL x hx.1⟩
      generalize (newGL ks).filter (fitG k') = l at *
      by_cases h0 : l.length = 0
      · rw [if_pos h0]
        simp only [G.good, G.goodL, and_true]
        exact ⟨hkb.1, hkb.2, hd0, hd1, fun e => absurd (.inl e) hl, fun e => absurd (.inr e) hl, fun _ => rfl, fun _ => rfl⟩
      · rw [if_neg h0]
        have hds : ∀ t ∈ l.map G.dim, 0 ≤ t ∧ t ≤ 3 := fun t ht => by
          obtain ⟨x, hx, rfl⟩ := List.mem_map.1 ht
          have := (hL' x hx).2
          rw [G.good_eq] at this
          exact ⟨this.1.2.2.1, this.1.2.2.2.1⟩
        have hT := fold_bd (l.map G.dim) 3 (by omega) (by omega) hds
        generalize (l.map G.dim).foldl andL 3 = T at *
        rw [G.force_eq]
        simp only [G.kind, G.dim, G.nums, G.kids, nums_none]
        rw [G.good_eq]
        refine ⟨⟨hkb.1, hkb.2, hT.1, hT.2, fun e => absurd (.inl e) hl, fun e => absurd (.inr e) hl, fun _ => rfl, fun e => absurd e hl⟩, fun x hx => ?_⟩
        obtain ⟨y, hy, rfl⟩ := List.mem_map.1 hx
        refine ⟨by rw [G.force_eq]; rfl, ?_, force_good y T (hL' y hy).2 hT.1 hT.2⟩
        have e : (y.force T).kind = y.kind := by rw [G.force_eq]; rfl
        have hf := (hL' y hy).1
        rw [e]
        simp only [G.kind]
        unfold fitG at hf
        simp only [Bool.or_eq_true, decide_eq_true_eq, beq_iff_eq] at hf
        exact hf.imp id fun h => h.symm
theorem newGL_good : ∀ (l : List G), ∀ x ∈ newGL l, x.good
  | [] => by simp [newGL]
  | g :: r => by
    simp only [newGL]
    intro x hx
    rcases List.mem_cons.1 hx with rfl | hx
    · exact newG_good g
    · exact newGL_good r x hx
end
end Go.Proofs.YtahnhhkbdgaidaaGreatDoor
namespace Go.Proofs.YtahnhhkbdgaidaaGreatDoor
open Go.RowKit
set_option maxRecDepth 100000
mutual
theorem good_dimok : ∀ g : G, g.good → g.dimok
  | .mk k d ns ks, h => by
    simp only [G.good] at h
    simp only [G.dimok]
    exact ⟨h.1.2.2.1, h.1.2.2.2.1, goodL_dimok k d ks h.2⟩
theorem goodL_dimok : ∀ (k d : Int) (l : List G), G.goodL k d l → G.dimokL l
  | _, _, [], _ => by simp [G.dimokL]
  | k, d, g :: r, h => by
    simp only [G.goodL] at h
    simp only [G.dimokL]
    exact ⟨good_dimok g h.1.2.2, goodL_dimok k d r h.2⟩
end
mutual
theorem fine_ok : ∀ g : G, g.fine → g.ok
  | .mk k d ns ks, h => by
    simp only [G.fine] at h
    simp only [G.ok]
    exact ⟨h.2.2.1, h.2.2.2.1, fineL_ok ks h.2.2.2.2⟩
theorem fineL_ok : ∀ l : List G, G.fineL l → G.okL l
  | [], _ => by simp [G.okL]
  | g :: r, h => by
    simp only [G.fineL] at h
    simp only [G.okL]
    exact ⟨fine_ok g h.1, fineL_ok r h.2⟩
end
theorem good_ok (g : G) (h : g.good) (hp : g.pw ≤ 200000) : g.ok := fine_ok g (fine_of g (good_dimok g h) hp)
end Go.Proofs.YtahnhhkbdgaidaaGreatDoor
namespace Go.Proofs.YtahnhhkbdgaidaaGreatDoor
open Go.RowKit
set_option maxRecDepth 100000
mutual
/-- All numbers are of one kind. -/
def G.every (Q : Nat → Prop) : G → Prop
  | .mk _ _ ns ks => (∀ n ∈ ns, Q n) ∧ G.everyL Q ks
def G.everyL (Q : Nat → Prop) : List G → Prop
  | [] => True
  | g :: r => g.every Q ∧ G.everyL Q r
end
theorem G.everyL_iff (Q : Nat → Prop) : ∀ (l : List G), G.everyL Q l ↔ ∀ g ∈ l, g.every Q
  | [] => by simp [G.everyL]
  | g :: r => by simp only [G.everyL, G.everyL_iff Q r, List.forall_mem_cons]
theorem getD_every {Q : Nat → Prop} (h0 : Q 0) {xs : List Nat} (h : ∀ n ∈ xs, Q n) (i : Nat) : Q (xs.getD i 0) := by
  by_cases hi : i < xs.length
  · have : xs.getD i 0 = xs[i] := by simp [List.getD, hi]
    rw [this]; exact h _ (List.getElem_mem hi)
  · have : xs.getD i 0 = 0 := by simp [List.getD, List.getElem?_eq_none (Nat.le_of_not_lt hi)]
    rw [this]; exact h0
theorem crdNums_every {Q : Nat → Prop} (h0 : Q 0) {xs : List Nat} (h : ∀ n ∈ xs, Q n) (t t' : Int) (i : Nat) : ∀ n ∈ crdNums t' (crdOf t xs i), Q n := by
  have hg := getD_every h0 h
  intro n hn
  unfold crdNums crdOf at hn
  simp only [List.mem_append, List.mem_cons, List.not_mem_nil, or_false] at hn
  rcases hn with ((rfl | rfl) | hn) | hn
  · exact hg _
  · exact hg _
  · split at hn
    · simp only [List.mem_cons, List.not_mem_nil, or_false] at hn
      subst hn
      split
      · exact hg _
      · exact h0
    · cases hn
  · split at hn
    · simp only [List.mem_cons, List.not_mem_nil, or_false] at hn
      subst hn
      split
      · exact hg _
      · split
        · exact hg _
        · exact h0
    · cases hn
theorem nums_every {Q : Nat → Prop} (h0 : Q 0) {xs : List Nat} (h : ∀ n ∈ xs, Q n) (t t' : Int) : ∀ n ∈ numsOf t' (plsOf t xs), Q n := by
  intro n hn
  unfold numsOf plsOf at hn
  obtain ⟨c, hc, hn⟩ := List.mem_flatMap.1 hn
  obtain ⟨i, _, rfl⟩ := List.mem_map.1 hc
  exact crdNums_every h0 h t t' i n hn
mutual
theorem force_every {Q : Nat → Prop} (h0 : Q 0) : ∀ (g : G) (t : Int), g.every Q → (g.force t).every Q
  | .mk k d ns ks, t, h => by
    simp only [G.every] at h
    simp only [G.force, G.every]
    exact ⟨nums_every h0 h.1 d t, forceL_every h0 ks t h.2⟩
theorem forceL_every {Q : Nat → Prop} (h0 : Q 0) : ∀ (l : List G) (t : Int), G.everyL Q l → G.everyL Q (G.forceL l t)
  | [], _, _ => by simp [G.forceL, G.everyL]
  | g :: r, t, h => by
    simp only [G.everyL] at h
    simp only [G.forceL, G.everyL]
    exact ⟨force_every h0 g t h.1, forceL_every h0 r t h.2⟩
end
theorem gather_every {Q : Nat → Prop} (h0 : Q 0) (k d : Int) (l : List G) (h : ∀ g ∈ l, g.every Q) : (gatherG k d l).every Q := by
  unfold gatherG
  split
  · simp [G.every, G.everyL]
  · refine force_every h0 _ _ ?_
    simp only [G.every, G.everyL_iff]
    exact ⟨by simp, h⟩
mutual
theorem newG_every {Q : Nat → Prop} (h0 : Q 0) : ∀ g : G, g.every Q → (newG g).every Q
  | .mk k d ns ks, h => by
    simp only [G.every] at h
    simp only [newG]
    split
    · simp only [G.every, G.everyL, and_true]
      intro n hn
      exact h.1 n (List.mem_of_mem_take hn)
    · refine gather_every h0 _ _ _ fun g hg => ?_
      exact newGL_every h0 ks h.2 g (List.mem_filter.1 hg).1
theorem newGL_every {Q : Nat → Prop} (h0 : Q 0) : ∀ l : List G, G.everyL Q l → ∀ g ∈ newGL l, g.every Q
  | [], _ => by simp [newGL]
  | g :: r, h => by
    simp only [G.everyL] at h
    simp only [newGL]
    intro x hx
    rcases List.mem_cons.1 hx with rfl | hx
    · exact newG_every h0 g h.1
    · exact newGL_every h0 r h.2 x hx
end
/-- A number of eight bytes that is a number. -/
def okQ (n : Nat) : Prop := n < 18446744073709551616 ∧ nanB n = false
theorem okQ_zero : okQ 0 := ⟨by omega, nanB_zero⟩
mutual
theorem every_of : ∀ g : G, g.small → numB g = true → g.every okQ
  | .mk k d ns ks, h, hn => by
    simp only [G.small] at h
    simp only [numB, Bool.and_eq_true, List.all_eq_true] at hn
    simp only [G.every]
    refine ⟨fun n hn' => ⟨h.1 n hn', ?_⟩, everyL_of ks h.2 hn.2⟩
    have := hn.1 n hn'
    simpa [okB] using this
theorem everyL_of : ∀ l : List G, G.smallL l → numBL l = true → G.everyL okQ l
  | [], _, _ => by simp [G.everyL]
  | g :: r, h, hn => by
    simp only [G.smallL] at h
    simp only [numBL, Bool.and_eq_true] at hn
    simp only [G.everyL]
    exact ⟨every_of g h.1 hn.1, everyL_of r h.2 hn.2⟩
end
mutual
theorem fit_of : ∀ g : G, g.ok → g.every okQ → g.fit
  | .mk k d ns ks, h, hn => by
    simp only [G.ok] at h
    simp only [G.every] at hn
    simp only [G.fit]
    exact ⟨by omega, fun n hn' => (hn.1 n hn').1, fitL_of ks h.2.2 hn.2⟩
theorem fitL_of : ∀ l : List G, G.okL l → G.everyL okQ l → G.fitL l
  | [], _, _ => by simp [G.fitL]
  | g :: r, h, hn => by
    simp only [G.okL] at h
    simp only [G.everyL] at hn
    simp only [G.fitL]
    exact ⟨fit_of g h.1 hn.1, fitL_of r h.2 hn.2⟩
end
mutual
/-- The bytes of plain data. -/
def wkG : G → List UInt8
  | .mk k t ns ks => wkH k t ++ (if k = 1 then fby (if ns.length = 0 then crdNums t ⟨nanN, nanN, nanN, nanN, t⟩ else ns) else if k = 2 then wkSeq t ns
      else Lib.leBytes 4 ks.length ++ (if k = 3 then ks.flatMap (fun g => wkSeq g.dim g.nums) else wkGL ks))
def wkGL : List G → List UInt8
  | [] => []
  | g :: r => wkG g ++ wkGL r
end
theorem wkGL_map : ∀ l : List G, wkGL l = l.flatMap wkG
  | [] => by simp [wkGL]
  | g :: r => by simp [wkGL, wkGL_map r]
theorem wkG_pt (p : Pt) (h : p.ok) : wkG (ptG p) = wkPt p := by
  have hl := crdNums_len p.c.t p.c h.1 h.2
  have hd := dN_bd p.c.t
  unfold ptG wkPt
  simp only [wkG]
  rw [if_pos trivial]
  by_cases hf : p.full
  · rw [if_pos hf, if_pos hf, if_neg (by omega)]
  · rw [if_neg hf, if_neg hf, if_pos (by simp)]
theorem wkG_ln (l : Ln) : wkG (lnG l) = wkLn l := by
  unfold lnG wkLn
  simp only [wkG]
  rw [if_neg (by omega), if_pos trivial]
theorem wkG_pg (p : Pg) : wkG (pgG p) = wkPg p := by
  unfold pgG wkPg
  simp only [wkG]
  rw [if_neg (by omega), if_neg (by omega), if_pos trivial, List.length_map, List.flatMap_map, List.append_assoc]
  rfl
theorem flatMap_same {α β : Type} (f g : α → List β) : ∀ l : List α, (∀ x ∈ l, f x = g x) → l.flatMap f = l.flatMap g
  | [], _ => rfl
  | a :: r, h => by rw [List.flatMap_cons, List.flatMap_cons, h a (by simp), flatMap_same f g r fun x hx => h x (by simp [hx])]
theorem wkG_of (k t : Int) (ks : List G) (h1 : k ≠ 1) (h2 : k ≠ 2) (h3 : k ≠ 3) : wkG (.mk k t [] ks) = wkH k t ++ Lib.leBytes 4 ks.length ++ ks.flatMap wkG := by
  simp only [wkG]
  rw [if_neg h1, if_neg h2, if_neg h3, wkGL_map, List.append_assoc]
mutual
theorem wkG_geo : ∀ x : Geo, x.ok → wkG x.toG = wkB x
  | .pt p, h => by simp only [Geo.ok] at h; simp only [Geo.toG, wkB]; exact wkG_pt p h
  | .ln l, _ => by simp only [Geo.toG, wkB]; exact wkG_ln l
  | .pg p, _ => by simp only [Geo.toG, wkB]; exact wkG_pg p
  | .mp ps t, h => by
    simp only [Geo.ok] at h
    simp only [Geo.toG, wkB]
    rw [wkG_of 4 t _ (by omega) (by omega) (by omega), List.length_map, List.flatMap_map]
    rw [flatMap_same _ _ ps (fun p hp => wkG_pt p (h.1 p hp))]
  | .ml ls t, h => by
    simp only [Geo.toG, wkB]
    rw [wkG_of 5 t _ (by omega) (by omega) (by omega), List.length_map, List.flatMap_map]
    rw [flatMap_same _ _ ls (fun l _ => wkG_ln l)]
  | .mg ps t, h => by
    simp only [Geo.toG, wkB]
    rw [wkG_of 6 t _ (by omega) (by omega) (by omega), List.length_map, List.flatMap_map]
    rw [flatMap_same _ _ ps (fun p _ => wkG_pg p)]
  | .gc gs t, h => by
    simp only [Geo.ok] at h
    simp only [Geo.toG, wkB]
    rw [wkG_of 0 t _ (by omega) (by omega) (by omega), wkGL_geo gs h.1, Geo.toGL_map, List.length_map]
theorem wkGL_geo : ∀ l : List Geo, Geo.okL l → (Geo.toGL l).flatMap wkG = wkBL l
  | [], _ => by simp [Geo.toGL, wkBL]
  | g :: r, h => by
    simp only [Geo.okL] at h
    simp only [Geo.toGL, wkBL, List.flatMap_cons]
    rw [wkG_geo g h.1, wkGL_geo r h.2]
end
theorem num_room (t : Int) (ns : List Nat) : 8 * ns.length ≤ 32 * (ns.length / dN t) + 32 := by
  have hd := dN_bd t
  have h1 := Nat.div_add_mod ns.length (dN t)
  have h2 := Nat.mod_lt ns.length (show 0 < dN t by omega)
  have h3 : dN t * (ns.length / dN t) ≤ 4 * (ns.length / dN t) := Nat.mul_le_mul_right _ (by omega)
  omega
theorem wkSeq_len (t : Int) (ns : List Nat) : (wkSeq t ns).length ≤ 36 + 32 * (ns.length / dN t) := by
  have := num_room t ns
  unfold wkSeq
  rw [List.length_append, Lib.leBytes_length, fby_len]
  omega
theorem rings_len : ∀ l : List G, (l.flatMap (fun g => wkSeq g.dim g.nums)).length ≤ 100 * G.pwL l
  | [] => by simp
  | .mk k d ns ks :: r => by
    have h1 := wkSeq_len d ns
    have h2 := rings_len r
    simp only [List.flatMap_cons, List.length_append, G.pwL, G.pw, G.dim, G.nums] at *
    omega
mutual
theorem wkG_len : ∀ g : G, (wkG g).length ≤ 100 * g.pw
  | .mk k t ns ks => by
    have hL := wkGL_len ks
    have hR := rings_len ks
    have hS := wkSeq_len t ns
    have hN := num_room t ns
    have hc : (crdNums t ⟨nanN, nanN, nanN, nanN, t⟩).length ≤ 4 := by
      unfold crdNums
      simp only [List.length_append, List.length_cons, List.length_nil]
      split <;> split <;> simp
    simp only [wkG, G.pw]
    rw [List.length_append, wkH_len]
    split
    · rw [fby_len]
      split
      · omega
      · omega
    · split
      · omega
      · rw [List.length_append, Lib.leBytes_length]
        split
        · omega
        · omega
theorem wkGL_len : ∀ l : List G, (wkGL l).length ≤ 100 * G.pwL l
  | [] => by simp [wkGL]
  | g :: r => by
    have h1 := wkG_len g
    have h2 := wkGL_len r
    simp only [wkGL, G.pwL, List.length_append]
    omega
end
end Go.Proofs.YtahnhhkbdgaidaaGreatDoor
namespace Go.Proofs.YtahnhhkbdgaidaaGreatDoor
open Go.RowKit
set_option maxRecDepth 100000
theorem dec_le (k v : Nat) (h : v < 256 ^ k) : dec 1 (Lib.leBytes k v) = v := by
  unfold dec; rw [if_neg (by omega)]; exact Lib.leNat_leBytes k v h
theorem fby_at : ∀ (xs : List Nat) (i : Nat) (h : i < xs.length), ((fby xs).drop (8 * i)).take 8 = Lib.leBytes 8 xs[i]
  | [], i, h => by simp at h
  | x :: r, 0, _ => by
    unfold fby
    rw [List.flatMap_cons, Nat.mul_zero, List.drop_zero]
    have := Lib.leBytes_length 8 x
    rw [List.take_append_of_le_length (by omega), List.take_of_length_le (by omega)]; rfl
  | x :: r, i + 1, h => by
    have hl := Lib.leBytes_length 8 x
    have e : fby (x :: r) = Lib.leBytes 8 x ++ fby r := by unfold fby; rw [List.flatMap_cons]
    rw [e, List.drop_append, List.drop_of_length_le (by omega), List.nil_append, hl, show 8 * (i + 1) - 8 = 8 * i by omega]
    simpa using fby_at r i (by simpa using h)
theorem F8_fby (xs : List Nat) (h : ∀ n ∈ xs, n < 18446744073709551616) : F8 1 xs (fby xs) :=
  ⟨fby_len xs, fun i hi => by rw [fby_at xs i hi]; exact dec_le 8 _ (h _ (List.getElem_mem hi))⟩
theorem seqE_wk (t : Int) (ns : List Nat) (hd : ns.length % dN t = 0) (hl : ns.length ≤ 1000000) (h : ∀ n ∈ ns, n < 18446744073709551616) : SeqE 1 t ns (wkSeq t ns) := by
  have h1 := Nat.div_le_self ns.length (dN t)
  refine ⟨Lib.leBytes 4 (ns.length / dN t), fby ns, ns.length / dN t, rfl, Lib.leBytes_length _ _, dec_le 4 _ (by omega), ?_, F8_fby ns h⟩
  have := Nat.div_add_mod ns.length (dN t)
  rw [Nat.mul_comm]; omega
theorem wcode_lt (k t : Int) (k1 : k ≤ 6) (t1 : t ≤ 3) : wcode k t < 256 ^ 4 := by
  unfold wcode; split <;> omega
theorem ringsE_wk (t : Int) : ∀ ks : List G, (∀ g ∈ ks, g.kind = 2 ∧ g.dim = t ∧ g.kids = [] ∧ g.nums.length % dN t = 0 ∧ g.nums.length ≤ 1000000 ∧ ∀ n ∈ g.nums, n < 18446744073709551616) → RingsE 1 t ks (ks.flatMap fun g => wkSeq g.dim g.nums)
  | [], _ => by simp [RingsE]
  | g :: r, h => by
    obtain ⟨h1, h2, h3, h4, h5, h6⟩ := h g (by simp)
    simp only [RingsE, List.flatMap_cons]
    exact ⟨_, _, rfl, ⟨h1, h2, h3, by rw [h2]; exact seqE_wk t g.nums h4 h5 h6⟩, ringsE_wk t r fun x hx => h x (by simp [hx])⟩
theorem nan_crd (t : Int) : (crdNums t ⟨nanN, nanN, nanN, nanN, t⟩).getD 0 0 = nanN ∧ (crdNums t ⟨nanN, nanN, nanN, nanN, t⟩).getD 1 0 = nanN ∧ ∀ n ∈ crdNums t ⟨nanN, nanN, nanN, nanN, t⟩, n < 18446744073709551616 := by
  refine ⟨rfl, rfl, fun n hn => ?_⟩
  unfold crdNums at hn
  simp only [List.mem_append, List.mem_cons, List.not_mem_nil, or_false] at hn
  have : n = nanN := by
    rcases hn with ((rfl | rfl) | hn) | hn
    · rfl
    · rfl
    · split at hn
      · simpa using hn
      · cases hn
    · split at hn
      · simpa using hn
      · cases hn
  rw [this]; decide
mutual
theorem enc_wk : ∀ g : G, g.good → g.ok → g.every okQ → Enc (· = 1) g (wkG g)
  | .mk k t ns ks, hg, hok, he => by
    simp only [G.good, G.goodL_iff] at hg
    simp only [G.ok] at hok
    simp only [G.every] at he
    obtain ⟨⟨k0, k1, t0, t1, e1, e2, e3, e4⟩, hk⟩ := hg
    obtain ⟨okn, okk, okl⟩ := hok
    have hd := dN_bd t
    have hw : ∀ b : List UInt8, wkH k t ++ b = 1 :: (Lib.leBytes 4 (wcode k t) ++ b) := fun b => by unfold wkH; simp
    simp only [Enc, wkG]
    rw [hw]
    refine ⟨1, Lib.leBytes 4 (wcode k t), _, rfl, rfl, Lib.leBytes_length _ _, dec_le 4 _ (wcode_lt k t k1 t1), ⟨k0, k1, t0, t1⟩, ?_⟩
    show (k = 1 ∧ ks = [] ∧ PtE 1 t ns _) ∨ (k = 2 ∧ ks = [] ∧ SeqE 1 t ns _) ∨ (k = 3 ∧ ns = [] ∧ ∃ c4 rest, _ = c4 ++ rest ∧ c4.length = 4 ∧ dec 1 c4 = ks.length ∧ RingsE 1 t ks rest) ∨
      ((k = 0 ∨ 4 ≤ k) ∧ ns = [] ∧ ∃ c4 rest, _ = c4 ++ rest ∧ c4.length = 4 ∧ dec 1 c4 = ks.length ∧ (∀ g ∈ ks, kidOf k < 0 ∨ g.kind = kidOf k) ∧ EncL (· = 1) ks rest)
    by_cases h1 : k = 1
    · refine .inl ⟨h1, e4 (.inl h1), ?_⟩
      rw [if_pos h1]
      rcases e1 h1 with hz | hz
      · obtain rfl : ns = [] := List.eq_nil_of_length_eq_zero hz
        rw [if_pos hz]
        obtain ⟨n0, n1, nb⟩ := nan_crd t
        exact ⟨_, F8_fby _ nb, crdNums_len t _ t0 t1, .inr ⟨rfl, by rw [n0]; exact nanB_nan, by rw [n1]; exact nanB_nan⟩⟩
      · rw [if_neg (by omega)]
        have hq := fun i => (getD_every okQ_zero he.1 i).2
        exact ⟨ns, F8_fby _ (fun n hn => (he.1 n hn).1), hz, .inl ⟨rfl, hq 0, hq 1⟩⟩
    · rw [if_neg h1]
      by_cases h2 : k = 2
      · refine .inr (.inl ⟨h2, e4 (.inr h2), ?_⟩)
        rw [if_pos h2]
        exact seqE_wk t ns (e2 h2) okn (fun n hn => (he.1 n hn).1)
      · rw [if_neg h2]
        have hn := e3 (by omega)
        by_cases h3 : k = 3
        · refine .inr (.inr (.inl ⟨h3, hn, _, _, rfl, Lib.leBytes_length _ _, dec_le 4 _ (by omega), ?_⟩))
          rw [if_pos h3]
          refine ringsE_wk t ks fun g hg => ?_
          obtain ⟨q1, q2, q3⟩ := hk g hg
          have q2' : g.kind = 2 := by rcases q2 with q2 | q2 <;> rw [h3] at q2 <;> simp [kidOf] at q2; exact q2
          rw [G.good_eq] at q3
          obtain ⟨⟨_, _, _, _, _, r2, _, r4⟩, _⟩ := q3
          have hgo := G.okL_mem okl g hg
          rw [G.ok_eq] at hgo
          have hev := (G.everyL_iff okQ ks).1 he.2 g hg
          refine ⟨q2', q1, r4 (.inr q2'), by rw [← q1]; exact r2 q2', hgo.1, fun n hn => ?_⟩
          cases g
          simp only [G.every] at hev
          exact (hev.1 n hn).1
        · refine .inr (.inr (.inr ⟨by omega, hn, _, _, rfl, Lib.leBytes_length _ _, dec_le 4 _ (by omega), fun g hg => (hk g hg).2.1, ?_⟩))
          rw [if_neg h3]
          exact encL_wk ks (fun g hg => (hk g hg).2.2) okl he.2
theorem encL_wk : ∀ l : List G, (∀ g ∈ l, g.good) → G.okL l → G.everyL okQ l → EncL (· = 1) l (wkGL l)
  | [], _, _, _ => by simp [EncL, wkGL]
  | g :: r, hg, hok, he => by
    simp only [G.okL] at hok
    simp only [G.everyL] at he
    simp only [EncL, wkGL]
    exact ⟨_, _, rfl, enc_wk g (hg g (by simp)) hok.1 he.1, encL_wk r (fun x hx => hg x (by simp [hx])) hok.2 he.2⟩
end
theorem bytes_law (g : G) (hsm : 0 ≤ gw g 2000) (hs : g.small) (hn : numB g = true) :
    g.ok ∧ (newG g).ok ∧ (newG g).fit ∧ (wkB (geoOf g)).length ≤ 200000 ∧ Enc (· = 1) (newG g) (wkB (geoOf g)) ∧ (geoOf (newG g)).toG = newG g := by
  have hw := gw_wt g 2000 hsm
  have hok := wt_ok g (by omega)
  have hp := newG_pw g
  have hg := newG_good g
  have hok2 := good_ok _ hg (by omega)
  have hev := newG_every okQ_zero g (every_of g hs hn)
  have e0 := newG_geo g hok
  have ew : wkG (newG g) = wkB (geoOf g) := by rw [e0]; exact wkG_geo _ (geoOf_ok g hok)
  have hl := wkG_len (newG g)
  refine ⟨hok, hok2, fit_of _ hok2 hev, by rw [← ew]; omega, by rw [← ew]; exact enc_wk _ hg hok2 hev, ?_⟩
  rw [← newG_geo _ hok2, newG_of_good _ hg]
end Go.Proofs.YtahnhhkbdgaidaaGreatDoor
