/-
  A region of which one operation comes behind all others: what the others keep need not be kept by that one.
-/
import Derived.Deep.RegionHeld3
namespace Go.Proofs.YtahnhhkbdgaidaaGreatDoor
section
variable {P : Program} {ops : Array Oper} {Q : Exit → Act → World → Prop} {md : Region.Mode} {S : World → Prop} {L : Nat}
/-- Whatever order is picked from here on; S holds behind every operation but number L. -/
def wpAnyL (P : Program) (md : Region.Mode) (ops : Array Oper) (Q : Exit → Act → World → Prop) (S : World → Prop) (L : Nat) : Nat → Array Bool → Act → World → Prop
  | 0, listed, a, w => Region.ready md ops listed = [] ∧ Q .normal a w
  | fuel + 1, listed, a, w =>
    (Region.ready md ops listed = [] → Q .normal a w) ∧
    ∀ i ∈ Region.ready md ops listed, wpOp P ops Q i (fun a' w' => (i ≠ L → S w') ∧ wpAnyL P md ops Q S L fuel (listed.setIfInBounds i true) a' w') a w
theorem wpAny_of_L : ∀ (fuel : Nat) (listed : Array Bool) (a : Act) (w : World), wpAnyL P md ops Q S L fuel listed a w → wpAny P md ops Q fuel listed a w
  | 0, _, _, _, h => h
  | fuel + 1, _, _, _, h => ⟨h.1, fun i hi => wpOp_mono (fun a' w' h' => wpAny_of_L fuel _ a' w' h'.2) (h.2 i hi)⟩
/-- Number L waits for number i, or for one that does. -/
def waitsFor (md : Region.Mode) (ops : Array Oper) : Nat → Nat → Nat → Bool
  | 0, _, _ => false
  | f + 1, L, i => (ops[L]?).any fun o => o.after.any fun e => Region.binds md e && (e.on == i || waitsFor md ops f e.on i)
/-- Whatever has come up, has come up behind all that it waits for. -/
def Closed (md : Region.Mode) (ops : Array Oper) (listed : Array Bool) : Prop := ∀ j oj, ops[j]? = some oj → listed.getD j false = true → ∀ e ∈ oj.after, Region.binds md e = true → listed.getD e.on false = true
def closedB (md : Region.Mode) (ops : Array Oper) (listed : Array Bool) : Bool := (List.range ops.size).all fun j => !(listed.getD j false) || (ops[j]?).all fun o => o.after.all fun e => !(Region.binds md e) || listed.getD e.on false
theorem closedB_spec {listed : Array Bool} (h : closedB md ops listed = true) : Closed md ops listed := by
  intro j oj hj hl e he hb
  unfold closedB at h
  rw [List.all_eq_true] at h
  have h1 := h j (List.mem_range.2 (Array.getElem?_eq_some_iff.1 hj).1)
  rw [hl, hj] at h1
  simp only [Bool.not_true, Bool.false_or, Option.all_some] at h1
  rw [Array.all_eq_true_iff_forall_mem] at h1
  have h2 := h1 e he
  rw [hb] at h2
  simpa using h2
theorem Closed.step {listed : Array Bool} (h : Closed md ops listed) {j : Nat} (hj : j ∈ Region.ready md ops listed) : Closed md ops (listed.setIfInBounds j true) := by
  obtain ⟨_, oj, hoj, hall⟩ := mem_ready.1 hj
  intro k ok hk hl e he hb
  by_cases hjk : j = k
  · subst hjk
    rw [hoj] at hk
    obtain rfl := Option.some.inj hk
    exact getD_set_true (hall e he hb)
  · rw [getD_set_ne false hjk] at hl
    exact getD_set_true (h k ok hk hl e he hb)
theorem waitsFor_listed {listed : Array Bool} (hc : Closed md ops listed) (i : Nat) : ∀ (f L : Nat), waitsFor md ops f L i = true → (∀ oL, ops[L]? = some oL → ∀ e ∈ oL.after, Region.binds md e = true → listed.getD e.on false = true) → listed.getD i false = true
  | 0, _, h, _ => by simp [waitsFor] at h
  | f + 1, L, h, hd => by
    simp only [waitsFor] at h
    cases hL : ops[L]? with
    | none => rw [hL] at h; simp at h
    | some oL =>
      rw [hL] at h
      simp only [Option.any_some, Array.any_eq_true', Bool.and_eq_true, Bool.or_eq_true, beq_iff_eq] at h
      obtain ⟨e, he, hb, ho⟩ := h
      have hl := hd oL hL e he hb
      rcases ho with ho | ho
      · rw [← ho]; exact hl
      · exact waitsFor_listed hc i f e.on ho fun o2 h2 e2 he2 hb2 => hc e.on o2 h2 hl e2 he2 hb2
theorem wpAnyL_first {i : Nat} {oi : Oper} {v : Value} (hi : ops[i]? = some oi) (hLi : waitsFor md ops ops.size L i = true) (hsel : ∀ (j : Nat) (o : Oper) cs b, ops[j]? = some o → o.op ≠ .select cs b)
    (hQ : ∀ c a w, Q (.panic c) (a.put oi.dst v) w → Q (.panic c) a w) :
    ∀ (fuel : Nat) (listed : Array Bool) (a : Act) (w : World),
      (∀ j oj, ops[j]? = some oj → j ≠ i → listed.getD j true = false → (∀ e ∈ oj.after, Region.binds md e = true → e.on ≠ i) → oi.apart ops oj = true) →
      i ∈ Region.ready md ops listed → Closed md ops listed → YieldsIf P ops S oi v a → S w →
      wpAnyL P md ops Q S L fuel (listed.setIfInBounds i true) (a.put oi.dst v) w → wpAnyL P md ops Q S L (fuel + 1) listed a w := by
  intro fuel
  induction fuel with
  | zero =>
    intro listed a w _ hr hcl hy hS H
    refine ⟨fun h => (by rw [h] at hr; cases hr), fun j hj => ?_⟩
    by_cases hji : j = i
    · subst hji; exact hy.wpOp hi hS ⟨fun _ => hS, H⟩
    · have := ready_mono hj hji
      rw [H.1] at this
      cases this
  | succ fuel ih =>
    intro listed a w hfree hr hcl hy hS H
    refine ⟨fun h => (by rw [h] at hr; cases hr), fun j hj => ?_⟩
    by_cases hji : j = i
    · subst hji; exact hy.wpOp hi hS ⟨fun _ => hS, H⟩
    · have h1 := H.2 j (ready_mono hj hji)
      obtain ⟨hjun, oj, hoj, hall⟩ := mem_ready.1 hj
      have hnot : ∀ e ∈ oj.after, Region.binds md e = true → e.on ≠ i := fun e he hb heq => by
        have h1 := hall e he hb
        have h0 := (mem_ready.1 hr).1
        rw [heq] at h1
        rcases Nat.lt_or_ge i listed.size with h' | h'
        · simp [h'] at h0 h1; rw [h0] at h1; cases h1
        · simp [Array.getElem?_eq_none h'] at h1
      have hjL : j ≠ L := fun e => by
        subst e
        have h1 := waitsFor_listed hcl i ops.size j hLi fun oL hL => by
          rw [hoj] at hL
          obtain rfl := Option.some.inj hL
          exact hall
        have h0 := (mem_ready.1 hr).1
        rcases Nat.lt_or_ge i listed.size with h' | h'
        · simp [h'] at h0 h1; rw [h0] at h1; cases h1
        · simp [Array.getElem?_eq_none h'] at h1
      have h2 := wpOp_putIf hoj (hfree j oj hoj hji hjun hnot) (fun cs b => hsel i oi cs b hi) (fun cs b => hsel j oj cs b hoj) hQ hy h1
      have hfree' : ∀ k ok, ops[k]? = some ok → k ≠ i → (listed.setIfInBounds j true).getD k true = false →
          (∀ e ∈ ok.after, Region.binds md e = true → e.on ≠ i) → oi.apart ops ok = true := fun k ok hk hki hun hno => by
        refine hfree k ok hk hki ?_ hno
        by_cases hjk : j = k
        · subst hjk; exact hjun
        · rw [getD_set_ne true hjk] at hun; exact hun
      refine wpOp_mono (fun a' w' h3 => ⟨h3.2.1, ih (listed.setIfInBounds j true) a' w' hfree' (ready_mono hr (Ne.symm hji)) (hcl.step hj) h3.1 (h3.2.1 hjL) ?_⟩) h2
      rw [Array.setIfInBounds_comm _ _ hji]
      exact h3.2.2
theorem wpAnyL_take {i : Nat} {oi : Oper} {v : Value} {fuel : Nat} {listed : Array Bool} {a : Act} {w : World} (hi : ops[i]? = some oi) (hLi : waitsFor md ops ops.size L i = true) (hcl : closedB md ops listed = true)
    (hs : Region.noSelect ops = true) (hf : Region.free md ops listed i = true) (hr : (Region.ready md ops listed).contains i = true)
    (hQ : ∀ c a w, Q (.panic c) (a.put oi.dst v) w → Q (.panic c) a w) (hy : YieldsIf P ops S oi v a) (hS : S w)
    (h : wpAnyL P md ops Q S L fuel (listed.setIfInBounds i true) (a.put oi.dst v) w) : wpAnyL P md ops Q S L (fuel + 1) listed a w :=
  wpAnyL_first hi hLi (Region.noSelect_spec hs) hQ fuel listed a w (Region.free_spec hi hf) (by simpa using hr) (closedB_spec hcl) hy hS h
/-- Each of the operations rs comes up next. -/
def AllReadyL (P : Program) (md : Region.Mode) (ops : Array Oper) (Q : Exit → Act → World → Prop) (S : World → Prop) (L : Nat) (fuel : Nat) (listed : Array Bool) (a : Act) (w : World) (rs : List Nat) : Prop :=
  ∀ i ∈ rs, wpOp P ops Q i (fun a' w' => (i ≠ L → S w') ∧ wpAnyL P md ops Q S L fuel (listed.setIfInBounds i true) a' w') a w
theorem AllReadyL.nil {fuel : Nat} {listed : Array Bool} {a : Act} {w : World} : AllReadyL P md ops Q S L fuel listed a w [] := fun _ h => by cases h
theorem AllReadyL.cons {fuel : Nat} {listed : Array Bool} {a : Act} {w : World} {i : Nat} {o : Oper} {rs : List Nat} (ho : ops[i]? = some o)
    (h : ∀ K' : Act → World → Prop, Shut (∀ a w, (i ≠ L → S w) → wpAnyL P md ops Q S L fuel (listed.setIfInBounds i true) a w → K' a w) → if Region.wanted o (yielded ops a.tmps) = true then Oper.wp P o a w K' Q else K' (a.put o.dst undef) w)
    (hs : AllReadyL P md ops Q S L fuel listed a w rs) : AllReadyL P md ops Q S L fuel listed a w (i :: rs) := fun j hj => by
  rcases List.mem_cons.1 hj with rfl | hj
  · exact wpOp_step ho (fun K' hK => h K' (fun a w hS hW => hK a w ⟨hS, hW⟩))
  · exact hs j hj
theorem wpAnyL_ready {rs : List Nat} {fuel : Nat} {listed : Array Bool} {a : Act} {w : World} (hr : Region.ready md ops listed = rs) (hne : rs ≠ [])
    (h : AllReadyL P md ops Q S L fuel listed a w rs) : wpAnyL P md ops Q S L (fuel + 1) listed a w :=
  ⟨fun h0 => absurd (hr ▸ h0) hne, hr ▸ h⟩
theorem wpAnyL_done {listed : Array Bool} {a : Act} {w : World} (hr : Region.ready md ops listed = []) (h : Q .normal a w) :
    ∀ fuel, wpAnyL P md ops Q S L fuel listed a w
  | 0 => ⟨hr, h⟩
  | _ + 1 => ⟨fun _ => h, by rw [hr]; simp⟩
theorem wp_region_L {id : Nat} {a : Act} {w : World} (S : World → Prop) (L : Nat) (hm : P.follows .mixedOrders = true)
    (h : wpAnyL P .any ops Q S L ops.size (Array.replicate ops.size false) a w.drew) : (Code.region id ops true).wp P Q a w :=
  wp_region_any hm (wpAny_of_L _ _ _ _ h)
end
end Go.Proofs.YtahnhhkbdgaidaaGreatDoor
