/-
  A slice of structs that is copied as a whole, and then changed in place.
-/
import Derived.Test.YtahnhhkbdgaidaaGreatDoorBn
namespace Go.Proofs.YtahnhhkbdgaidaaGreatDoor
open Go.RowKit

/-- What stands in a row of structs of the call's own. -/
structure Cont (S : Nat → Prop) (w : World) (g : Nat) (E : TypeId) (sz : Nat) (es : List (List F)) (cs : Array Value) : Prop where
  size : es.length * sz ≤ cs.size
  blk : Lb w g cs E
  lens : ∀ i (hi : i < es.length), (es[i]).length = sz
  rd : ∀ i (hi : i < es.length) j (hj : j < (es[i]).length), ∃ x, cs[i * sz + j]? = some x ∧ Rd (Ex S g) w (es[i][j]) x
theorem Cont.blw {S : Nat → Prop} {w w' : World} {g : Nat} {E : TypeId} {sz : Nat} {es : List (List F)} {cs : Array Value} (h : Cont S w g E sz es cs) (hb : Below w.heap.size w w') : Cont S w' g E sz es cs :=
  ⟨h.size, h.blk.blw hb, h.lens, fun i hi j hj => let ⟨x, hx, r⟩ := h.rd i hi j hj; ⟨x, hx, r.blw hb⟩⟩
theorem Cont.done {S : Nat → Prop} {w : World} {g : Nat} {E : TypeId} {sz : Nat} {es : List (List F)} {cs : Array Value} (h : Cont S w g E sz es cs) (c : Nat) (hsz : 0 < sz) (hS : S g) (hm : es.length ≤ 17592186044416) : Rd S w (.list es) (.slice (some ⟨g, 0, none⟩) es.length c) := by
  refine .list es g 0 c sz (fun i j => cs[i * sz + j]?.getD undef) hsz hm h.lens hS h.blk.use.2.2 (fun i j hi hj => ?_) (fun i hi j hj => ?_)
  · obtain ⟨x, hx, _⟩ := h.rd i hi j (by rw [h.lens i hi]; exact hj)
    rw [Nat.zero_add, h.blk.use.1, hx]; simp
  · obtain ⟨x, hx, r⟩ := h.rd i hi j hj
    rw [hx]
    exact r.unex
theorem Cont.put {S : Nat → Prop} {w w' : World} {g : Nat} {E : TypeId} {sz : Nat} {es : List (List F)} {cs cs' : Array Value} (h : Cont S w g E sz es cs) (i : Nat) (hi : i < es.length) (fs : List F) (hfs : fs.length = sz) (hs : cs'.size = cs.size) (hb : Lb w' g cs' E)
    (hkeep : ∀ b, b < w.heap.size → b ≠ g → w'.heap[b]? = w.heap[b]?) (hsz : w.heap.size ≤ w'.heap.size)
    (hold : ∀ p, p < i * sz ∨ (i + 1) * sz ≤ p → cs'[p]? = cs[p]?) (hnew : ∀ j (hj : j < fs.length), ∃ x, cs'[i * sz + j]? = some x ∧ Rd (Ex S g) w' (fs[j]) x) : Cont S w' g E sz (es.set i fs) cs' := by
  refine ⟨by rw [List.length_set, hs]; exact h.size, hb, fun k hk => ?_, fun k hk j hj => ?_⟩
  · rw [List.getElem_set]; split
    · exact hfs
    · exact h.lens k (by simpa using hk)
  · have hk' : k < es.length := by simpa using hk
    by_cases e : i = k
    · subst e
      have e2 : (es.set i fs)[i] = fs := by simp
      simp only [e2] at hj ⊢
      exact hnew j hj
    · have e2 : (es.set i fs)[k] = es[k] := by simp [e]
      simp only [e2] at hj ⊢
      obtain ⟨x, hx, r⟩ := h.rd k hk' j hj
      have hj' : j < sz := by rw [h.lens k hk'] at hj; exact hj
      refine ⟨x, (hold _ ?_).trans hx, r.step (fun b hb hS => ⟨hkeep b hb hS.2, hS⟩) hsz⟩
      rcases Nat.lt_or_gt_of_ne e with hlt | hgt
      · right
        have : (i + 1) * sz ≤ k * sz := Nat.mul_le_mul_right _ hlt
        omega
      · left
        have : (k + 1) * sz ≤ i * sz := Nat.mul_le_mul_right _ hgt
        rw [Nat.succ_mul] at this; omega

theorem Rd.one {S : Nat → Prop} {w : World} {f : F} {x : Value} (h : Rd S w f x) (ho : ∀ v, f = .atom v → v.oneCell' = true) : x.oneCell' = true := by
  cases h with
  | atom v => exact ho _ rfl
  | nil => rfl
  | list => rfl
  | box => rfl
theorem app_all {P : Program} (T E : TypeId) (sz bytes : Nat) (z : Value) (hT : P.underlying T = some (.slice E)) (hinfo : (P.info? E).map (fun i => (i.zero, i.size, i.bytes)) = some (some z, sz, bytes))
    (hzs : z.cells.size = sz) (hsz : 0 < sz) (hby : bytes ≤ 64) {S : Nat → Prop} {w : World} {es : List (List F)} {a : Option Addr} {c : Nat} (h : Rd S w (.list es) (.slice a es.length c)) (hw : ∀ i (hi : i < es.length), (es[i]).length = sz)
    (hone : ∀ i (hi : i < es.length), ∀ f ∈ es[i], ∀ v, f = .atom v → v.oneCell' = true) (hpos : 0 < es.length) (hlen : es.length ≤ 1000000000) :
    ∃ g cap cs w', (Builtin.append_ #[T, T] T #[.slice none 0 0, .slice a es.length c]).run P w = .ok (.slice (some ⟨g, 0, none⟩) es.length cap) w' ∧ w.heap.size ≤ g ∧ Cont S w' g E sz es cs ∧ Below w.heap.size w w' := by
  obtain ⟨i0, hi0, hz0, hz1, hz2⟩ := info_parts hinfo
  obtain ⟨a', c', e, _, hall⟩ := h.list_inv
  obtain ⟨rfl, _, rfl⟩ := Value.slice.inj e
  obtain ⟨b, off, sz', cell, rfl, hsz', hS, hb, hl, hc, hr⟩ := hall 0 hpos
  have e' : sz' = sz := (hl 0 hpos).symm.trans (hw 0 hpos)
  subst e'
  have hdm : ∀ p, p < es.length * sz' → p / sz' < es.length ∧ p % sz' < sz' ∧ p / sz' * sz' + p % sz' = p := fun p hp =>
    ⟨Nat.div_lt_of_lt_mul (by rw [Nat.mul_comm]; exact hp), Nat.mod_lt _ hsz', by rw [Nat.mul_comm]; exact Nat.div_add_mod p sz'⟩
  obtain ⟨v', w', hrun, ho, hg, hnil, _⟩ := run_append_own_at (P := P) w w.heap.size T T E i0 z sz' bytes hT hi0 hz0 hz1 hz2 hzs hsz (.slice none 0 0) 0 [] (World.ownsRow_nil _ _ _ _)
    ⟨b, off, none⟩ es.length c ((List.range (es.length * sz')).map fun p => cell (p / sz') (p % sz')) (by simp) (fun j u hj => by
      have hj' : j < es.length * sz' := by have := (List.getElem?_eq_some_iff.1 hj).1; simpa using this
      obtain ⟨h1, h2, h3⟩ := hdm j hj'
      have := hc _ _ h1 h2
      rw [Addr.add_lit, show off + j = off + j / sz' * sz' + j % sz' by omega, this]
      simp [hj'] at hj
      rw [hj]) (fun u hu => by
      obtain ⟨p, hp, rfl⟩ := List.mem_map.1 hu
      obtain ⟨h1, h2, _⟩ := hdm p (by simpa using hp)
      exact (hr _ h1 _ (by rw [hw _ h1]; exact h2)).one (hone _ h1 _ (List.getElem_mem _))) (by simp only [maxLen]; omega)
    (Nat.le_trans (Nat.mul_le_mul (by omega : 0 + es.length ≤ 1000000000) hby) (by omega)) (Nat.le_refl _)
  rcases ho.2 with ⟨_, h0⟩ | ⟨g, cap, cur, rfl, hB, hgg, hn, _, hcs, htake⟩
  · omega
  · simp only [Nat.zero_add] at hrun htake hn
    have hB' : Below w.heap.size w w' := ⟨hg.os, hg.tape, hg.output, hg.size, fun k hk => hg.block k hk (by simp [Value.ownBlock])⟩
    have hcell : ∀ p, p < es.length * sz' → cur[p]? = some (cell (p / sz') (p % sz')) := fun p hp => by
      have : (cur.toList.take (es.length * sz'))[p]? = some (cell (p / sz') (p % sz')) := by rw [htake]; simp [hp]
      rw [List.getElem?_take, if_pos hp] at this
      simpa using this
    refine ⟨g, cap, cur, w', hrun, hB, ⟨by rw [hcs]; exact Nat.mul_le_mul_right _ hn, hgg, hw, fun i hi j hj => ?_⟩, hB'⟩
    have hj' : j < sz' := by rw [hw i hi] at hj; exact hj
    have hlt : i * sz' + j < es.length * sz' := by
      have : (i + 1) * sz' ≤ es.length * sz' := Nat.mul_le_mul_right _ hi
      rw [Nat.succ_mul] at this; omega
    refine ⟨cell i j, ?_, (hr i hi j hj).step (fun b hb hS => ⟨hB'.block b hb, hS, by omega⟩) hB'.size⟩
    rw [hcell _ hlt, Nat.add_comm, Nat.add_mul_div_right _ _ hsz, Nat.div_eq_of_lt hj', Nat.add_mul_mod_self_right, Nat.mod_eq_of_lt hj', Nat.zero_add]
end Go.Proofs.YtahnhhkbdgaidaaGreatDoor
