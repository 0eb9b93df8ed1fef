/-
  Polygons and lines are made of their parts: the lowest common type, and each part brought to it.
-/
import Derived.Test.YtahnhhkbdgaidaaGreatDoorKaf
namespace Go.Proofs.YtahnhhkbdgaidaaGreatDoor
open Go.RowKit
/-- What stands in a row of structs of the call's own. -/
structure Cont (S : Nat → Prop) (w : World) (g : Nat) (E : TypeId) (sz : Nat) (es : List (List F)) (cs : Array Value) : Prop where
  size : es.length * sz ≤ cs.size
  blk : Lb w g cs E
  lens : ∀ i (hi : i < es.length), (es[i]).length = sz
  rd : ∀ i (hi : i < es.length) j (hj : j < (es[i]).length), ∃ x, cs[i * sz + j]? = some x ∧ Rd (Ex S g) w (es[i][j]) x
theorem Cont.blw {S : Nat → Prop} {w w' : World} {g : Nat} {E : TypeId} {sz : Nat} {es : List (List F)} {cs : Array Value} (h : Cont S w g E sz es cs) (hb : Below w.heap.size w w') : Cont S w' g E sz es cs :=
  ⟨h.size, h.blk.blw hb, h.lens, fun i hi j hj => let ⟨x, hx, r⟩ := h.rd i hi j hj; ⟨x, hx, r.blw hb⟩⟩
theorem Cont.done {S : Nat → Prop} {w : World} {g : Nat} {E : TypeId} {sz : Nat} {es : List (List F)} {cs : Array Value} (h : Cont S w g E sz es cs) (c : Nat) (hsz : 0 < sz) (hS : S g) (hm : es.length ≤ 17592186044416) : Rd S w (.list es) (.slice (some ⟨g, 0, none⟩) es.length c) := by
  refine .list es g 0 c sz (fun i j => cs[i * sz + j]?.getD undef) hsz hm h.lens hS h.blk.use.2.2 (fun i j hi hj => ?_) (fun i hi j hj => ?_)
  · obtain ⟨x, hx, _⟩ := h.rd i hi j (by rw [h.lens i hi]; exact hj)
    rw [Nat.zero_add, h.blk.use.1, hx]; simp
  · obtain ⟨x, hx, r⟩ := h.rd i hi j hj
    rw [hx]
    exact r.unex
theorem Cont.put {S : Nat → Prop} {w w' : World} {g : Nat} {E : TypeId} {sz : Nat} {es : List (List F)} {cs cs' : Array Value} (h : Cont S w g E sz es cs) (i : Nat) (_ : i < es.length) (fs : List F) (hfs : fs.length = sz) (hs : cs'.size = cs.size) (hb : Lb w' g cs' E)
    (hkeep : ∀ b, b < w.heap.size → b ≠ g → w'.heap[b]? = w.heap[b]?) (hsz : w.heap.size ≤ w'.heap.size)
    (hold : ∀ p, p < i * sz ∨ (i + 1) * sz ≤ p → cs'[p]? = cs[p]?) (hnew : ∀ j (hj : j < fs.length), ∃ x, cs'[i * sz + j]? = some x ∧ Rd (Ex S g) w' (fs[j]) x) : Cont S w' g E sz (es.set i fs) cs' := by
  refine ⟨by rw [List.length_set, hs]; exact h.size, hb, fun k hk => ?_, fun k hk j hj => ?_⟩
  · rw [List.getElem_set]; split
    · exact hfs
    · exact h.lens k (by simpa using hk)
  · have hk' : k < es.length := by simpa using hk
    by_cases e : i = k
    · subst e
      have e2 : (es.set i fs)[i] = fs := by simp
      simp only [e2] at hj ⊢
      exact hnew j hj
    · have e2 : (es.set i fs)[k] = es[k] := by simp [e]
      simp only [e2] at hj ⊢
      obtain ⟨x, hx, r⟩ := h.rd k hk' j hj
      have hj' : j < sz := by rw [h.lens k hk'] at hj; exact hj
      refine ⟨x, (hold _ ?_).trans hx, r.step (fun b hb hS => ⟨hkeep b hb hS.2, hS⟩) hsz⟩
      rcases Nat.lt_or_gt_of_ne e with hlt | hgt
      · right
        have : (i + 1) * sz ≤ k * sz := Nat.mul_le_mul_right _ hlt
        omega
      · left
        have : (k + 1) * sz ≤ i * sz := Nat.mul_le_mul_right _ hgt
        rw [Nat.succ_mul] at this; omega
theorem Rd.one {S : Nat → Prop} {w : World} {f : F} {x : Value} (h : Rd S w f x) (ho : ∀ v, f = .atom v → v.oneCell' = true) : x.oneCell' = true := by
  cases h with
  | atom v => exact ho _ rfl
  | nil => rfl
  | list => rfl
  | box => rfl
theorem app_all {P : Program} (T E : TypeId) (sz bytes : Nat) (z : Value) (hT : P.underlying T = some (.slice E)) (hinfo : (P.info? E).map (fun i => (i.zero, i.size, i.bytes)) = some (some z, sz, bytes))
    (hzs : z.cells.size = sz) (hsz : 0 < sz) (hby : bytes ≤ 64) {S : Nat → Prop} {w : World} {es : List (List F)} {a : Option Addr} {c : Nat} (h : Rd S w (.list es) (.slice a es.length c)) (hw : ∀ i (hi : i < es.length), (es[i]).length = sz)
    (hone : ∀ i (hi : i < es.length), ∀ f ∈ es[i], ∀ v, f = .atom v → v.oneCell' = true) (hpos : 0 < es.length) (hlen : es.length ≤ 1000000000) :
    ∃ g cap cs w', (Builtin.append_ #[T, T] T #[.slice none 0 0, .slice a es.length c]).run P w = .ok (.slice (some ⟨g, 0, none⟩) es.length cap) w' ∧ w.heap.size ≤ g ∧ Cont S w' g E sz es cs ∧ Below w.heap.size w w' := by
  obtain ⟨i0, hi0, hz0, hz1, hz2⟩ := info_parts hinfo
  obtain ⟨a', c', e, _, hall⟩ := h.list_inv
  obtain ⟨rfl, _, rfl⟩ := Value.slice.inj e
  obtain ⟨b, off, sz', cell, rfl, hsz', hS, hb, hl, hc, hr⟩ := hall 0 hpos
  have e' : sz' = sz := (hl 0 hpos).symm.trans (hw 0 hpos)
  subst e'
  have hdm : ∀ p, p < es.length * sz' → p / sz' < es.length ∧ p % sz' < sz' ∧ p / sz' * sz' + p % sz' = p := fun p hp =>
    ⟨Nat.div_lt_of_lt_mul (by rw [Nat.mul_comm]; exact hp), Nat.mod_lt _ hsz', by rw [Nat.mul_comm]; exact Nat.div_add_mod p sz'⟩
  obtain ⟨v', w', hrun, ho, hg, hnil, _⟩ := run_append_own_at (P := P) w w.heap.size T T E i0 z sz' bytes hT hi0 hz0 hz1 hz2 hzs hsz (.slice none 0 0) 0 [] (World.ownsRow_nil _ _ _ _)
    ⟨b, off, none⟩ es.length c ((List.range (es.length * sz')).map fun p => cell (p / sz') (p % sz')) (by simp) (fun j u hj => by
      have hj' : j < es.length * sz' := by have := (List.getElem?_eq_some_iff.1 hj).1; simpa using this
      obtain ⟨h1, h2, h3⟩ := hdm j hj'
      have := hc _ _ h1 h2
      rw [Addr.add_lit, show off + j = off + j / sz' * sz' + j % sz' by omega, this]
      simp [hj'] at hj
      rw [hj]) (fun u hu => by
      obtain ⟨p, hp, rfl⟩ := List.mem_map.1 hu
      obtain ⟨h1, h2, _⟩ := hdm p (by simpa using hp)
      exact (hr _ h1 _ (by rw [hw _ h1]; exact h2)).one (hone _ h1 _ (List.getElem_mem _))) (by simp only [maxLen]; omega)
    (Nat.le_trans (Nat.mul_le_mul (by omega : 0 + es.length ≤ 1000000000) hby) (by omega)) (Nat.le_refl _)
  rcases ho.2 with ⟨_, h0⟩ | ⟨g, cap, cur, rfl, hB, hgg, hn, _, hcs, htake⟩
  · omega
  · simp only [Nat.zero_add] at hrun htake hn
    have hB' : Below w.heap.size w w' := ⟨hg.os, hg.tape, hg.output, hg.size, fun k hk => hg.block k hk (by simp [Value.ownBlock])⟩
    have hcell : ∀ p, p < es.length * sz' → cur[p]? = some (cell (p / sz') (p % sz')) := fun p hp => by
      have : (cur.toList.take (es.length * sz'))[p]? = some (cell (p / sz') (p % sz')) := by rw [htake]; simp [hp]
      rw [List.getElem?_take, if_pos hp] at this
      simpa using this
    refine ⟨g, cap, cur, w', hrun, hB, ⟨by rw [hcs]; exact Nat.mul_le_mul_right _ hn, hgg, hw, fun i hi j hj => ?_⟩, hB'⟩
    have hj' : j < sz' := by rw [hw i hi] at hj; exact hj
    have hlt : i * sz' + j < es.length * sz' := by
      have : (i + 1) * sz' ≤ es.length * sz' := Nat.mul_le_mul_right _ hi
      rw [Nat.succ_mul] at this; omega
    refine ⟨cell i j, ?_, (hr i hi j hj).step (fun b hb hS => ⟨hB'.block b hb, hS, by omega⟩) hB'.size⟩
    rw [hcell _ hlt, Nat.add_comm, Nat.add_mul_div_right _ _ hsz, Nat.div_eq_of_lt hj', Nat.add_mul_mod_self_right, Nat.mod_eq_of_lt hj', Nat.zero_add]
end Go.Proofs.YtahnhhkbdgaidaaGreatDoor
namespace Go.Proofs.YtahnhhkbdgaidaaGreatDoor
open Go.RowKit
/-- An append whose run is known. -/
theorem wpList_append_eq {P : Program} {w : World} {ops : Array Oper} {rest : List Oper} {o : Oper} {a : Act} {Q : Exit → Act → World → Prop} (hgd : o.guard = none) (s x : Operand) (T : TypeId)
    (ho : o.op = .call { callee := .builtin .append, args := #[s, x], argTypes := #[T, T] }) (hty : o.type = T) {v u v' : Value} {w' : World} (hs : a.eval s = v) (hx : a.eval x = u)
    (hrun : (Builtin.append_ #[T, T] T #[v, u]).run P w = .ok v' w') (h : wpList P ops Q rest (a.put o.dst v') w') : wpList P ops Q (o :: rest) a w := by
  refine wpList_plain hgd fun K hK => ?_
  unfold Oper.wp
  simp [execOp, ho, hty, resolve, invoke, builtin, hs, hx, hrun, Result.andThen]
  exact hK _ _ h
/-- What two types have in common. -/
def andT (a b : Int) : Int := bits .and .u8 a b
theorem andT_bd (a b : Int) (h0 : 0 ≤ a) (h1 : a ≤ 3) (g0 : 0 ≤ b) (g1 : b ≤ 3) : 0 ≤ andT a b ∧ andT a b ≤ 3 := by
  rcases four a h0 h1 with rfl | rfl | rfl | rfl <;> rcases four b g0 g1 with rfl | rfl | rfl | rfl <;> decide
def foldT (ts : List Int) : Int := ts.foldl andT 3
theorem foldl_bd : ∀ (ts : List Int) (s : Int), 0 ≤ s → s ≤ 3 → (∀ t ∈ ts, 0 ≤ t ∧ t ≤ 3) → 0 ≤ ts.foldl andT s ∧ ts.foldl andT s ≤ 3
  | [], s, h0, h1, _ => ⟨h0, h1⟩
  | t :: r, s, h0, h1, h => by
    have ht := h t (by simp)
    have hb := andT_bd s t h0 h1 ht.1 ht.2
    exact foldl_bd r _ hb.1 hb.2 fun x hx => h x (by simp [hx])
theorem foldT_bd (ts : List Int) (h : ∀ t ∈ ts, 0 ≤ t ∧ t ≤ 3) : 0 ≤ foldT ts ∧ foldT ts ≤ 3 := foldl_bd ts 3 (by omega) (by omega) h
/-- What the first j have in common. -/
def preT (l : List Int) (j : Nat) : Int := foldT (l.take j)
theorem preT_step {α : Type} (l : List α) (f : α → Int) (j : Nat) (h : j < l.length) : preT (l.map f) (j + 1) = andT (preT (l.map f) j) (f l[j]) := by
  have h' : j < (l.map f).length := by simpa using h
  unfold preT foldT
  rw [List.take_succ_eq_append_getElem h', List.foldl_append]
  simp
theorem preT_all (l : List Int) (n : Nat) (h : n = l.length) : preT l n = foldT l := by subst h; simp [preT]
/-- The first j parts turned, the others as they were. -/
def mixL {α : Type} (ls : List α) (f h : α → List F) (j : Nat) : List (List F) := (ls.take j).map f ++ (ls.drop j).map h
theorem mix_len {α : Type} (ls : List α) (f h : α → List F) (j : Nat) : (mixL ls f h j).length = ls.length := by simp [mixL]; omega
theorem mix_get {α : Type} (ls : List α) (f h : α → List F) (j : Nat) (hj : j < ls.length) : (mixL ls f h j)[j]'(by rw [mix_len]; exact hj) = h ls[j] := by
  have hl : ((ls.take j).map f).length = j := by simp; omega
  simp only [mixL]
  rw [List.getElem_append_right (by omega)]
  simp only [hl, Nat.sub_self, List.getElem_map, List.getElem_drop, Nat.add_zero]
theorem mix_set {α : Type} (ls : List α) (f h : α → List F) (j : Nat) (hj : j < ls.length) : (mixL ls f h j).set j (f ls[j]) = mixL ls f h (j + 1) := by
  have hl : ((ls.take j).map f).length = j := by simp; omega
  simp only [mixL]
  rw [List.set_append_right _ _ (by omega), hl, Nat.sub_self, List.drop_eq_getElem_cons hj, take_map_succ ls f j hj, List.map_cons, List.set_cons_zero, List.append_assoc]
  rfl
theorem mix_zero {α : Type} (ls : List α) (f h : α → List F) : mixL ls f h 0 = ls.map h := by simp [mixL]
theorem mix_all {α : Type} (ls : List α) (f h : α → List F) : mixL ls f h ls.length = ls.map f := by simp [mixL]
theorem two_out {cs : Array Value} {j p : Nat} {u v : Value} (hp : p < j * 2 ∨ (j + 1) * 2 ≤ p) : ((cs.setIfInBounds (j * 2) u).setIfInBounds (j * 2 + 1) v)[p]? = cs[p]? := by
  rw [Array.getElem?_setIfInBounds_ne (by omega), Array.getElem?_setIfInBounds_ne (by omega)]
set_option maxRecDepth 100000 in
set_option maxHeartbeats 2000000 in
theorem c92 (S : Nat → Prop) (ls : List Ln) (a : Option Addr) (c : Nat) (w : World) (hok : ∀ l ∈ ls, l.ok) (hpos : 0 < ls.length) (hlen : ls.length ≤ 1000000) (hS : ∀ b, w.heap.size ≤ b → S b)
    (h : Rd S w (.list (ls.map Ln.fs)) (.slice a ls.length c)) :
    Calls Tryz.prog 92 #[.slice a ls.length c] w fun e w' => ∃ a' c', e = .returned (.agg #[.slice a' ls.length c', .int .u8 (foldT (ls.map (·.t)))]) ∧
      Rd S w' (.list ((ls.map (·.force (foldT (ls.map (·.t))))).map Ln.fs)) (.slice a' ls.length c') ∧ Below w.heap.size w w' := by
  have hT := foldT_bd (ls.map (·.t)) (fun t ht => by obtain ⟨l, hl, rfl⟩ := List.mem_map.1 ht; exact ⟨(hok l hl).1, (hok l hl).2.1⟩)
  have hl1 : ((ls.length : Int) == 0) = false := by rw [beq_eq_false_iff_ne]; omega
  have hl2 : decide ((0 : Int) < ls.length) = true := by simp; omega
  go_enter Tryz.func92, Tryz.ntmps92
  go_wp2_with fail
  go_loopw [3, 12] (fun T i wr => ∃ j : Nat, j ≤ ls.length ∧ i = .int .i64 j ∧ T = .int .u8 (preT (ls.map (·.t)) j) ∧ Lb wr w.heap.size #[.slice none 0 0, .int .u8 0] 73 ∧
      Rd (Ex S w.heap.size) wr (.list (ls.map Ln.fs)) (.slice a ls.length c) ∧ Below w.heap.size w wr ∧ w.heap.size + 1 ≤ wr.heap.size) (fun _ i _ => ls.length - (intOf i).toNat)
  case atStart => exact ⟨0, Nat.zero_le _, rfl, rfl, Lb.new w _ _, (h.ex (Nat.le_refl _)).alloc _, bl_a1 w _, by simp⟩
  case round =>
    obtain ⟨j, hj, rfl, rfl, L0, hr, hB, hsz⟩ := hrel
    have HL0 := Lib.hid L0; have HB := Lib.hid hB
    clear L0 hB
    by_cases hlt : j < ls.length
    · obtain ⟨a0, c0, e0, hm, hat⟩ := lines_at hr
      obtain ⟨rfl, _, rfl⟩ := Value.slice.inj e0
      obtain ⟨b, off, a', c', rfl, hSb, hb, k0, k1, hrj⟩ := hat j hlt
      have Hst := Lib.hid (preT_step ls (·.t) j hlt)
      have Hr := Lib.hid hr
      clear hat e0 hr hrj hT
      go_wp2_with fail
      refine (c139 _ _ _ _ _).mono ?_
      rintro e w1 ⟨rfl, hb2'⟩
      have hb2 := (bl_a1 wr _).trans (hb2'.mono (by simp))
      have HL0' := Lib.hid (HL0.out.blw hb2); have HB' := Lib.hid (HB.out.trans (hb2.mono (by omega))); have Hr' := Lib.hid (Hr.out.blw hb2)
      have hsz2 : w.heap.size + 1 ≤ w1.heap.size := Nat.le_trans hsz hb2.size
      clear hb2 hb2' k0 k1 hb
      go_wp2_with fail
      go_roundw
      case rel => exact ⟨j + 1, by omega, by go_num, by rw [Hst.out]; rfl, HL0'.out, Hr'.out, HB'.out, hsz2⟩
      case measure => simp [intOf]; omega
    · obtain rfl : j = ls.length := by omega
      have hdl : decide (((ls.length : Nat) : Int) < ls.length) = false := by simp
      have hr' : Rd (Ex S w.heap.size) wr (.list (ls.map Ln.fs)) (.slice a (ls.map Ln.fs).length c) := by rw [List.length_map]; exact hr
      obtain ⟨g, cap, cs0, w2, hap, hg, hC, hb2⟩ := app_all (P := Tryz.prog) 71 69 2 32 _ Tryz.underlying71 info69 rfl (by omega) (by omega) hr' (by simp [Ln.fs]) (by
        intro i hi f hf v hv; simp [Ln.fs] at hf; rcases hf with rfl | rfl <;> first | (cases hv; rfl) | cases hv) (by simpa using hpos) (by simp; omega)
      rw [List.length_map] at hap
      rw [preT_all _ _ (by simp)]
      have HC := Lib.hid hC; have HL1 := Lib.hid (HL0.out.blw hb2); have HB1 := Lib.hid (HB.out.trans (hb2.mono (by omega)))
      have hg1 : w.heap.size < g := by omega
      clear hC hb2 hr hr' h hdl
      have hdl : decide (((ls.length : Nat) : Int) < ls.length) = false := by simp
      generalize hTT : foldT (ls.map (·.t)) = TT at *
      have HTT := Lib.hid hTT; clear hTT
      have Hap := Lib.hid hap; clear hap
      go_wp2_with (at_builtin; refine wpList_append_eq rfl _ _ 71 rfl rfl rfl rfl Hap.out ?_)
      clear Hap
      go_loopw [25] (fun i wr => ∃ j : Nat, ∃ cs : Array Value, j ≤ ls.length ∧ i = .int .i64 j ∧ Cont (Ex S w.heap.size) wr g 69 2 (mixL ls (fun l => (l.force TT).fs) Ln.fs j) cs ∧ Lb wr w.heap.size #[.slice none 0 0, .int .u8 0] 73 ∧ Below w.heap.size w wr) (fun i _ => ls.length - (intOf i).toNat)
      case atStart => exact ⟨0, cs0, Nat.zero_le _, rfl, by rw [mix_zero]; exact HC.out, HL1.out, HB1.out⟩
      case round =>
        clear HC HL1 HB1
        obtain ⟨j, cs, hj, rfl, hC, L0, hB⟩ := hrel
        have hml := mix_len ls (fun l => (l.force TT).fs) Ln.fs j
        by_cases hlt : j < ls.length
        · have hmg := mix_get ls (fun l => (l.force TT).fs) Ln.fs j hlt
          obtain ⟨x0, k0, r0⟩ := hC.rd j (by rw [hml]; exact hlt) 0 (by rw [hmg]; simp [Ln.fs])
          obtain ⟨x1, k1, r1⟩ := hC.rd j (by rw [hml]; exact hlt) 1 (by rw [hmg]; simp [Ln.fs])
          simp only [hmg] at r0 r1
          rw [Nat.add_zero] at k0
          have q0 : Rd (Ex (Ex S w.heap.size) g) wr (.atom (.int .u8 (ls[j]).t)) x0 := r0
          have q1 : Rd (Ex (Ex S w.heap.size) g) wr (fl (ls[j]).xs) x1 := r1
          clear r0 r1
          have e0 := q0.atom_inv
          subst e0
          obtain ⟨a', c', rfl⟩ := fl_shape q1
          have hcs := hC.size
          rw [hml] at hcs
          obtain ⟨kR, fR, ltR⟩ := hC.blk.use
          have HC := Lib.hid hC; have HL0 := Lib.hid L0; have HB := Lib.hid hB
          have H := Lib.hid fun (S : Nat → Prop) => c115 S ls[j] TT a' c' wr (hok _ (List.getElem_mem hlt)) hT.1 hT.2
          clear hC L0 hB hml hmg
          go_wp2_with fail
          refine (H.out _ (fun b hb => ⟨⟨hS b (by have := HB.out.size; omega), by have := HB.out.size; omega⟩, by omega⟩) q1).mono ?_
          rintro e w1 ⟨a2, c2, rfl, hr2, hb2⟩
          have hC2 := HC.out.blw hb2
          have HC2 := Lib.hid hC2
          obtain ⟨kR2, fR2, ltR2⟩ := hC2.blk.use
          have HL1 := Lib.hid (HL0.out.blw hb2); have HB2 := Lib.hid (HB.out.trans (hb2.mono HB.out.size))
          have hr4 := Lib.hid hr2
          clear hb2 hC2 kR fR hr2 q0 q1
          go_wp2_with fail
          go_roundw
          case rel =>
            refine ⟨j + 1, (cs.setIfInBounds (j * 2) (.int .u8 TT)).setIfInBounds (j * 2 + 1) (.slice a2 ((ls[j]).force TT).xs.length c2), by omega, by go_num, ?_, (HL1.out.far (by simp <;> omega) _).far (by simp <;> omega) _, (HB2.out.setCell (by simp <;> omega) _).setCell (by simp <;> omega) _⟩
            rw [← mix_set ls _ _ j hlt]
            refine HC2.out.put j (by rw [mix_len]; exact hlt) _ rfl (by simp) ((HC2.out.blk.set _ _).set _ _) keep_two (by simp [World.setCell]) (fun p hp => two_out hp) (fun jj hjj => ?_)
            have hjc : jj = 0 ∨ jj = 1 := by have : ((ls[j]).force TT).fs.length = 2 := rfl; omega
            rcases hjc with rfl | rfl
            · exact ⟨_, two_new0 (by omega), .atom _⟩
            · exact ⟨_, two_new1 (by omega), (hr4.out.set _ _).set _ _⟩
          case measure => simp [intOf]; omega
        · obtain rfl : j = ls.length := by omega
          have hdl : decide (((ls.length : Nat) : Int) < ls.length) = false := by simp
          obtain ⟨k1, f1, lt1⟩ := L0.use
          have HC := Lib.hid hC; have HB := Lib.hid hB
          clear hC L0 hB
          go_wp2_with fail
          refine bodyPost_ret (v := .agg #[.slice (some ⟨g, 0, none⟩) ls.length cap, .int .u8 TT]) (by simp [results, Tryz.results92, go_sem, k1]) rfl ⟨_, _, by rw [HTT.out], ?_, ?_⟩
          · refine Rd.unex (L := w.heap.size) ?_
            have hd := HC.out.done cap (by omega) ⟨hS _ (by omega), by omega⟩ (by rw [mix_len]; omega)
            rw [mix_len, mix_all] at hd
            rw [HTT.out, List.map_map]
            have hd2 : Rd (Ex S w.heap.size) wr (.list (ls.map (Ln.fs ∘ fun x => x.force TT))) (.slice (some ⟨g, 0, none⟩) ls.length cap) := hd
            repeat (with_reducible first | refine Rd.set ?_ _ _ | exact hd2)
          · repeat (with_reducible first | refine Below.setCell ?_ (by simp) _ | exact HB.out)
set_option maxRecDepth 100000 in
set_option maxHeartbeats 2000000 in
theorem c99 (S : Nat → Prop) (ls : List Ln) (a : Option Addr) (c : Nat) (w : World) (hok : ∀ l ∈ ls, l.ok) (hpos : 0 < ls.length) (hlen : ls.length ≤ 1000000) (hS : ∀ b, w.heap.size ≤ b → S b)
    (h : Rd S w (.list (ls.map Ln.fs)) (.slice a ls.length c)) :
    Calls Tryz.prog 99 #[.slice a ls.length c] w fun e w' => ∃ a' c', e = .returned (.agg #[.slice a' ls.length c', .int .u8 (foldT (ls.map (·.t)))]) ∧
      Rd S w' (.list ((ls.map (·.force (foldT (ls.map (·.t))))).map Ln.fs)) (.slice a' ls.length c') ∧ Below w.heap.size w w' := by
  have hT := foldT_bd (ls.map (·.t)) (fun t ht => by obtain ⟨l, hl, rfl⟩ := List.mem_map.1 ht; exact ⟨(hok l hl).1, (hok l hl).2.1⟩)
  have hl1 : ((ls.length : Int) == 0) = false := by rw [beq_eq_false_iff_ne]; omega
  have hl2 : decide ((0 : Int) < ls.length) = true := by simp; omega
  go_enter Tryz.func99, Tryz.ntmps99
  go_wp2_with fail
  go_loopw [3, 13] (fun T i wr => ∃ j : Nat, j ≤ ls.length ∧ i = .int .i64 j ∧ T = .int .u8 (preT (ls.map (·.t)) j) ∧ Lb wr w.heap.size #[.slice none 0 0, .int .u8 0] 80 ∧
      Rd (Ex S w.heap.size) wr (.list (ls.map Ln.fs)) (.slice a ls.length c) ∧ Below w.heap.size w wr ∧ w.heap.size + 1 ≤ wr.heap.size) (fun _ i _ => ls.length - (intOf i).toNat)
  case atStart => exact ⟨0, Nat.zero_le _, rfl, rfl, Lb.new w _ _, (h.ex (Nat.le_refl _)).alloc _, bl_a1 w _, by simp⟩
  case round =>
    obtain ⟨j, hj, rfl, rfl, L0, hr, hB, hsz⟩ := hrel
    have HL0 := Lib.hid L0; have HB := Lib.hid hB
    clear L0 hB
    by_cases hlt : j < ls.length
    · obtain ⟨a0, c0, e0, hm, hat⟩ := lines_at hr
      obtain ⟨rfl, _, rfl⟩ := Value.slice.inj e0
      obtain ⟨b, off, a', c', rfl, hSb, hb, k0, k1, hrj⟩ := hat j hlt
      have Hst := Lib.hid (preT_step ls (·.t) j hlt)
      have Hr := Lib.hid hr
      clear hat e0 hr hrj hT
      go_wp2_with fail
      refine (c139 _ _ _ _ _).mono ?_
      rintro e w1 ⟨rfl, hb2'⟩
      have hb2 := (bl_a1 wr _).trans (hb2'.mono (by simp))
      have HL0' := Lib.hid (HL0.out.blw hb2); have HB' := Lib.hid (HB.out.trans (hb2.mono (by omega))); have Hr' := Lib.hid (Hr.out.blw hb2)
      have hsz2 : w.heap.size + 1 ≤ w1.heap.size := Nat.le_trans hsz hb2.size
      clear hb2 hb2' k0 k1 hb
      go_wp2_with fail
      go_roundw
      case rel => exact ⟨j + 1, by omega, by go_num, by rw [Hst.out]; rfl, HL0'.out, Hr'.out, HB'.out, hsz2⟩
      case measure => simp [intOf]; omega
    · obtain rfl : j = ls.length := by omega
      have hdl : decide (((ls.length : Nat) : Int) < ls.length) = false := by simp
      have hr' : Rd (Ex S w.heap.size) wr (.list (ls.map Ln.fs)) (.slice a (ls.map Ln.fs).length c) := by rw [List.length_map]; exact hr
      obtain ⟨g, cap, cs0, w2, hap, hg, hC, hb2⟩ := app_all (P := Tryz.prog) 71 69 2 32 _ Tryz.underlying71 info69 rfl (by omega) (by omega) hr' (by simp [Ln.fs]) (by
        intro i hi f hf v hv; simp [Ln.fs] at hf; rcases hf with rfl | rfl <;> first | (cases hv; rfl) | cases hv) (by simpa using hpos) (by simp; omega)
      rw [List.length_map] at hap
      rw [preT_all _ _ (by simp)]
      have HC := Lib.hid hC; have HL1 := Lib.hid (HL0.out.blw hb2); have HB1 := Lib.hid (HB.out.trans (hb2.mono (by omega)))
      have hg1 : w.heap.size < g := by omega
      clear hC hb2 hr hr' h hdl
      have hdl : decide (((ls.length : Nat) : Int) < ls.length) = false := by simp
      generalize hTT : foldT (ls.map (·.t)) = TT at *
      have HTT := Lib.hid hTT; clear hTT
      have Hap := Lib.hid hap; clear hap
      go_wp2_with (at_builtin; refine wpList_append_eq rfl _ _ 71 rfl rfl rfl rfl Hap.out ?_)
      clear Hap
      go_loopw [26] (fun i wr => ∃ j : Nat, ∃ cs : Array Value, j ≤ ls.length ∧ i = .int .i64 j ∧ Cont (Ex S w.heap.size) wr g 69 2 (mixL ls (fun l => (l.force TT).fs) Ln.fs j) cs ∧ Lb wr w.heap.size #[.slice none 0 0, .int .u8 0] 80 ∧ Below w.heap.size w wr) (fun i _ => ls.length - (intOf i).toNat)
      case atStart => exact ⟨0, cs0, Nat.zero_le _, rfl, by rw [mix_zero]; exact HC.out, HL1.out, HB1.out⟩
      case round =>
        clear HC HL1 HB1
        obtain ⟨j, cs, hj, rfl, hC, L0, hB⟩ := hrel
        have hml := mix_len ls (fun l => (l.force TT).fs) Ln.fs j
        by_cases hlt : j < ls.length
        · have hmg := mix_get ls (fun l => (l.force TT).fs) Ln.fs j hlt
          obtain ⟨x0, k0, r0⟩ := hC.rd j (by rw [hml]; exact hlt) 0 (by rw [hmg]; simp [Ln.fs])
          obtain ⟨x1, k1, r1⟩ := hC.rd j (by rw [hml]; exact hlt) 1 (by rw [hmg]; simp [Ln.fs])
          simp only [hmg] at r0 r1
          rw [Nat.add_zero] at k0
          have q0 : Rd (Ex (Ex S w.heap.size) g) wr (.atom (.int .u8 (ls[j]).t)) x0 := r0
          have q1 : Rd (Ex (Ex S w.heap.size) g) wr (fl (ls[j]).xs) x1 := r1
          clear r0 r1
          have e0 := q0.atom_inv
          subst e0
          obtain ⟨a', c', rfl⟩ := fl_shape q1
          have hcs := hC.size
          rw [hml] at hcs
          obtain ⟨kR, fR, ltR⟩ := hC.blk.use
          have HC := Lib.hid hC; have HL0 := Lib.hid L0; have HB := Lib.hid hB
          have H := Lib.hid fun (S : Nat → Prop) => c115 S ls[j] TT a' c' wr (hok _ (List.getElem_mem hlt)) hT.1 hT.2
          clear hC L0 hB hml hmg
          go_wp2_with fail
          refine (H.out _ (fun b hb => ⟨⟨hS b (by have := HB.out.size; omega), by have := HB.out.size; omega⟩, by omega⟩) q1).mono ?_
          rintro e w1 ⟨a2, c2, rfl, hr2, hb2⟩
          have hC2 := HC.out.blw hb2
          have HC2 := Lib.hid hC2
          obtain ⟨kR2, fR2, ltR2⟩ := hC2.blk.use
          have HL1 := Lib.hid (HL0.out.blw hb2); have HB2 := Lib.hid (HB.out.trans (hb2.mono HB.out.size))
          have hr4 := Lib.hid hr2
          clear hb2 hC2 kR fR hr2 q0 q1
          go_wp2_with fail
          go_roundw
          case rel =>
            refine ⟨j + 1, (cs.setIfInBounds (j * 2) (.int .u8 TT)).setIfInBounds (j * 2 + 1) (.slice a2 ((ls[j]).force TT).xs.length c2), by omega, by go_num, ?_, (HL1.out.far (by simp <;> omega) _).far (by simp <;> omega) _, (HB2.out.setCell (by simp <;> omega) _).setCell (by simp <;> omega) _⟩
            rw [← mix_set ls _ _ j hlt]
            refine HC2.out.put j (by rw [mix_len]; exact hlt) _ rfl (by simp) ((HC2.out.blk.set _ _).set _ _) keep_two (by simp [World.setCell]) (fun p hp => two_out hp) (fun jj hjj => ?_)
            have hjc : jj = 0 ∨ jj = 1 := by have : ((ls[j]).force TT).fs.length = 2 := rfl; omega
            rcases hjc with rfl | rfl
            · exact ⟨_, two_new0 (by omega), .atom _⟩
            · exact ⟨_, two_new1 (by omega), (hr4.out.set _ _).set _ _⟩
          case measure => simp [intOf]; omega
        · obtain rfl : j = ls.length := by omega
          have hdl : decide (((ls.length : Nat) : Int) < ls.length) = false := by simp
          obtain ⟨k1, f1, lt1⟩ := L0.use
          have HC := Lib.hid hC; have HB := Lib.hid hB
          clear hC L0 hB
          go_wp2_with fail
          refine bodyPost_ret (v := .agg #[.slice (some ⟨g, 0, none⟩) ls.length cap, .int .u8 TT]) (by simp [results, Tryz.results99, go_sem, k1]) rfl ⟨_, _, by rw [HTT.out], ?_, ?_⟩
          · refine Rd.unex (L := w.heap.size) ?_
            have hd := HC.out.done cap (by omega) ⟨hS _ (by omega), by omega⟩ (by rw [mix_len]; omega)
            rw [mix_len, mix_all] at hd
            rw [HTT.out, List.map_map]
            have hd2 : Rd (Ex S w.heap.size) wr (.list (ls.map (Ln.fs ∘ fun x => x.force TT))) (.slice (some ⟨g, 0, none⟩) ls.length cap) := hd
            repeat (with_reducible first | refine Rd.set ?_ _ _ | exact hd2)
          · repeat (with_reducible first | refine Below.setCell ?_ (by simp) _ | exact HB.out)
set_option maxRecDepth 100000 in
set_option maxHeartbeats 2000000 in
theorem c102 (S : Nat → Prop) (ls : List Pg) (a : Option Addr) (c : Nat) (w : World) (hok : ∀ l ∈ ls, l.ok) (hpos : 0 < ls.length) (hlen : ls.length ≤ 1000000) (hS : ∀ b, w.heap.size ≤ b → S b)
    (h : Rd S w (.list (ls.map Pg.fs)) (.slice a ls.length c)) :
    Calls Tryz.prog 102 #[.slice a ls.length c] w fun e w' => ∃ a' c', e = .returned (.agg #[.slice a' ls.length c', .int .u8 (foldT (ls.map (·.t)))]) ∧
      Rd S w' (.list ((ls.map (·.force (foldT (ls.map (·.t))))).map Pg.fs)) (.slice a' ls.length c') ∧ Below w.heap.size w w' := by
  have hT := foldT_bd (ls.map (·.t)) (fun t ht => by obtain ⟨l, hl, rfl⟩ := List.mem_map.1 ht; exact ⟨(hok l hl).2.2.1, (hok l hl).2.2.2⟩)
  have hl1 : ((ls.length : Int) == 0) = false := by rw [beq_eq_false_iff_ne]; omega
  have hl2 : decide ((0 : Int) < ls.length) = true := by simp; omega
  go_enter Tryz.func102, Tryz.ntmps102
  go_wp2_with fail
  go_loopw [3, 12] (fun T i wr => ∃ j : Nat, j ≤ ls.length ∧ i = .int .i64 j ∧ T = .int .u8 (preT (ls.map (·.t)) j) ∧ Lb wr w.heap.size #[.slice none 0 0, .int .u8 0] 84 ∧
      Rd (Ex S w.heap.size) wr (.list (ls.map Pg.fs)) (.slice a ls.length c) ∧ Below w.heap.size w wr ∧ w.heap.size + 1 ≤ wr.heap.size) (fun _ i _ => ls.length - (intOf i).toNat)
  case atStart => exact ⟨0, Nat.zero_le _, rfl, rfl, Lb.new w _ _, (h.ex (Nat.le_refl _)).alloc _, bl_a1 w _, by simp⟩
  case round =>
    obtain ⟨j, hj, rfl, rfl, L0, hr, hB, hsz⟩ := hrel
    have HL0 := Lib.hid L0; have HB := Lib.hid hB
    clear L0 hB
    by_cases hlt : j < ls.length
    · obtain ⟨a0, c0, e0, hm, hat⟩ := pgs_at hr
      obtain ⟨rfl, _, rfl⟩ := Value.slice.inj e0
      obtain ⟨b, off, a', c', rfl, hSb, hb, k0, k1, hrj⟩ := hat j hlt
      have Hst := Lib.hid (preT_step ls (·.t) j hlt)
      have Hr := Lib.hid hr
      clear hat e0 hr hrj hT
      go_wp2_with fail
      refine (c145 _ _ _ _ _).mono ?_
      rintro e w1 ⟨rfl, hb2'⟩
      have hb2 := (bl_a1 wr _).trans (hb2'.mono (by simp))
      have HL0' := Lib.hid (HL0.out.blw hb2); have HB' := Lib.hid (HB.out.trans (hb2.mono (by omega))); have Hr' := Lib.hid (Hr.out.blw hb2)
      have hsz2 : w.heap.size + 1 ≤ w1.heap.size := Nat.le_trans hsz hb2.size
      clear hb2 hb2' k0 k1 hb
      go_wp2_with fail
      go_roundw
      case rel => exact ⟨j + 1, by omega, by go_num, by rw [Hst.out]; rfl, HL0'.out, Hr'.out, HB'.out, hsz2⟩
      case measure => simp [intOf]; omega
    · obtain rfl : j = ls.length := by omega
      have hdl : decide (((ls.length : Nat) : Int) < ls.length) = false := by simp
      have hr' : Rd (Ex S w.heap.size) wr (.list (ls.map Pg.fs)) (.slice a (ls.map Pg.fs).length c) := by rw [List.length_map]; exact hr
      obtain ⟨g, cap, cs0, w2, hap, hg, hC, hb2⟩ := app_all (P := Tryz.prog) 82 73 2 32 _ Tryz.underlying82 info73 rfl (by omega) (by omega) hr' (by simp [Pg.fs]) (by
        intro i hi f hf v hv; simp [Pg.fs] at hf; rcases hf with rfl | rfl <;> first | (cases hv; rfl) | cases hv) (by simpa using hpos) (by simp; omega)
      rw [List.length_map] at hap
      rw [preT_all _ _ (by simp)]
      have HC := Lib.hid hC; have HL1 := Lib.hid (HL0.out.blw hb2); have HB1 := Lib.hid (HB.out.trans (hb2.mono (by omega)))
      have hg1 : w.heap.size < g := by omega
      clear hC hb2 hr hr' h hdl
      have hdl : decide (((ls.length : Nat) : Int) < ls.length) = false := by simp
      generalize hTT : foldT (ls.map (·.t)) = TT at *
      have HTT := Lib.hid hTT; clear hTT
      have Hap := Lib.hid hap; clear hap
      go_wp2_with (at_builtin; refine wpList_append_eq rfl _ _ 82 rfl rfl rfl rfl Hap.out ?_)
      clear Hap
      go_loopw [25] (fun i wr => ∃ j : Nat, ∃ cs : Array Value, j ≤ ls.length ∧ i = .int .i64 j ∧ Cont (Ex S w.heap.size) wr g 73 2 (mixL ls (fun l => (l.force TT).fs) Pg.fs j) cs ∧ Lb wr w.heap.size #[.slice none 0 0, .int .u8 0] 84 ∧ Below w.heap.size w wr) (fun i _ => ls.length - (intOf i).toNat)
      case atStart => exact ⟨0, cs0, Nat.zero_le _, rfl, by rw [mix_zero]; exact HC.out, HL1.out, HB1.out⟩
      case round =>
        clear HC HL1 HB1
        obtain ⟨j, cs, hj, rfl, hC, L0, hB⟩ := hrel
        have hml := mix_len ls (fun l => (l.force TT).fs) Pg.fs j
        by_cases hlt : j < ls.length
        · have hmg := mix_get ls (fun l => (l.force TT).fs) Pg.fs j hlt
          obtain ⟨x0, k0, r0⟩ := hC.rd j (by rw [hml]; exact hlt) 0 (by rw [hmg]; simp [Pg.fs])
          obtain ⟨x1, k1, r1⟩ := hC.rd j (by rw [hml]; exact hlt) 1 (by rw [hmg]; simp [Pg.fs])
          simp only [hmg] at r0 r1
          rw [Nat.add_zero] at k0
          have q0 : Rd (Ex (Ex S w.heap.size) g) wr (.list ((ls[j]).rings.map Ln.fs)) x0 := r0
          have q1 : Rd (Ex (Ex S w.heap.size) g) wr (.atom (.int .u8 (ls[j]).t)) x1 := r1
          clear r0 r1
          have e0 := q1.atom_inv
          subst e0
          obtain ⟨a', c', e1⟩ := list_shape q0
          rw [List.length_map] at e1
          subst e1
          have hcs := hC.size
          rw [hml] at hcs
          obtain ⟨kR, fR, ltR⟩ := hC.blk.use
          have HC := Lib.hid hC; have HL0 := Lib.hid L0; have HB := Lib.hid hB
          have H := Lib.hid fun (S : Nat → Prop) => c91 S (ls[j]).rings (ls[j]).t TT a' c' wr (hok _ (List.getElem_mem hlt)).1 hT.1 hT.2 (hok _ (List.getElem_mem hlt)).2.1
          clear hC L0 hB hml hmg
          go_wp2_with fail
          refine (H.out _ (fun b hb => ⟨⟨hS b (by have := HB.out.size; omega), by have := HB.out.size; omega⟩, by omega⟩) q0).mono ?_
          rintro e w1 ⟨a2, c2, rfl, hr2, hb2⟩
          have hC2 := HC.out.blw hb2
          have HC2 := Lib.hid hC2
          obtain ⟨kR2, fR2, ltR2⟩ := hC2.blk.use
          have HL1 := Lib.hid (HL0.out.blw hb2); have HB2 := Lib.hid (HB.out.trans (hb2.mono HB.out.size))
          have hr4 := Lib.hid hr2
          clear hb2 hC2 kR fR hr2 q0 q1
          go_wp2_with fail
          go_roundw
          case rel =>
            refine ⟨j + 1, (cs.setIfInBounds (j * 2) (.slice a2 (ls[j]).rings.length c2)).setIfInBounds (j * 2 + 1) (.int .u8 TT), by omega, by go_num, ?_, (HL1.out.far (by simp <;> omega) _).far (by simp <;> omega) _, (HB2.out.setCell (by simp <;> omega) _).setCell (by simp <;> omega) _⟩
            rw [← mix_set ls _ _ j hlt]
            refine HC2.out.put j (by rw [mix_len]; exact hlt) _ rfl (by simp) ((HC2.out.blk.set _ _).set _ _) keep_two (by simp [World.setCell]) (fun p hp => two_out hp) (fun jj hjj => ?_)
            have hjc : jj = 0 ∨ jj = 1 := by have : ((ls[j]).force TT).fs.length = 2 := rfl; omega
            rcases hjc with rfl | rfl
            · exact ⟨_, two_new0 (by omega), (hr4.out.set _ _).set _ _⟩
            · exact ⟨_, two_new1 (by omega), .atom _⟩
          case measure => simp [intOf]; omega
        · obtain rfl : j = ls.length := by omega
          have hdl : decide (((ls.length : Nat) : Int) < ls.length) = false := by simp
          obtain ⟨k1, f1, lt1⟩ := L0.use
          have HC := Lib.hid hC; have HB := Lib.hid hB
          clear hC L0 hB
          go_wp2_with fail
          refine bodyPost_ret (v := .agg #[.slice (some ⟨g, 0, none⟩) ls.length cap, .int .u8 TT]) (by simp [results, Tryz.results102, go_sem, k1]) rfl ⟨_, _, by rw [HTT.out], ?_, ?_⟩
          · refine Rd.unex (L := w.heap.size) ?_
            have hd := HC.out.done cap (by omega) ⟨hS _ (by omega), by omega⟩ (by rw [mix_len]; omega)
            rw [mix_len, mix_all] at hd
            rw [HTT.out, List.map_map]
            have hd2 : Rd (Ex S w.heap.size) wr (.list (ls.map (Pg.fs ∘ fun x => x.force TT))) (.slice (some ⟨g, 0, none⟩) ls.length cap) := hd
            repeat (with_reducible first | refine Rd.set ?_ _ _ | exact hd2)
          · repeat (with_reducible first | refine Below.setCell ?_ (by simp) _ | exact HB.out)
end Go.Proofs.YtahnhhkbdgaidaaGreatDoor
