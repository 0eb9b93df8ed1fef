/-
  Geometries as plain data in memory, with room in their slices; rows of them that a call builds.
-/
import Derived.Test.YtahnhhkbdgaidaaGreatDoorKas
namespace Go.Proofs.YtahnhhkbdgaidaaGreatDoor
open Go.RowKit
set_option maxRecDepth 100000
mutual
/-- Two slices read as a geometry's numbers and parts; every block that is read lies in S; each slice of numbers has room for its numbers. -/
def Gd (S : Nat → Prop) (w : World) : G → Value → Value → Prop
  | .mk _ _ ns ks, vn, vk => (Rd S w (fl ns) vn ∧ ∃ a c, vn = .slice a ns.length c ∧ ns.length ≤ c ∧ (a = none → c = 0)) ∧
      ∃ a c, vk = .slice a ks.length c ∧ ks.length ≤ 1000000 ∧ (0 < ks.length → ∃ b off, a = some ⟨b, off, none⟩ ∧ S b ∧ b < w.heap.size ∧ GdL S w ks b off)
def GdL (S : Nat → Prop) (w : World) : List G → Nat → Nat → Prop
  | [], _, _ => True
  | g :: r, b, off => (∃ vn vk, w.cell? ⟨b, off, none⟩ = some (.int .i64 g.kind) ∧ w.cell? ⟨b, off + 1, none⟩ = some (.int .i64 g.dim) ∧ w.cell? ⟨b, off + 2, none⟩ = some vn ∧ w.cell? ⟨b, off + 3, none⟩ = some vk ∧ Gd S w g vn vk) ∧ GdL S w r b (off + 4)
end
mutual
theorem Gd.step {S S' : Nat → Prop} {w w' : World} (hk : ∀ b, b < w.heap.size → S b → w'.heap[b]? = w.heap[b]? ∧ S' b) (hs : w.heap.size ≤ w'.heap.size) : ∀ (g : G) (vn vk : Value), Gd S w g vn vk → Gd S' w' g vn vk
  | .mk _ _ ns ks, vn, vk, h => by
    simp only [Gd] at h ⊢
    obtain ⟨⟨h1, h2⟩, a, c, e, hl, h3⟩ := h
    refine ⟨⟨h1.step hk hs, h2⟩, a, c, e, hl, fun hp => ?_⟩
    obtain ⟨b, off, ea, hS, hb, hL⟩ := h3 hp
    exact ⟨b, off, ea, (hk b hb hS).2, Nat.lt_of_lt_of_le hb hs, GdL.step hk hs ks b off hb hS hL⟩
theorem GdL.step {S S' : Nat → Prop} {w w' : World} (hk : ∀ b, b < w.heap.size → S b → w'.heap[b]? = w.heap[b]? ∧ S' b) (hs : w.heap.size ≤ w'.heap.size) : ∀ (l : List G) (b off : Nat), b < w.heap.size → S b → GdL S w l b off → GdL S' w' l b off
  | [], _, _, _, _, _ => by simp [GdL]
  | g :: r, b, off, hb, hS, h => by
    simp only [GdL] at h ⊢
    obtain ⟨⟨vn, vk, h0, h1, h2, h3, h4⟩, h5⟩ := h
    have e : ∀ o, w'.cell? ⟨b, o, none⟩ = w.cell? ⟨b, o, none⟩ := fun o => World.cell?_of_block (hk b hb hS).1
    exact ⟨⟨vn, vk, (e _).trans h0, (e _).trans h1, (e _).trans h2, (e _).trans h3, Gd.step hk hs g vn vk h4⟩, GdL.step hk hs r b (off + 4) hb hS h5⟩
end
theorem Gd.blw {S : Nat → Prop} {w w' : World} {g : G} {vn vk : Value} (h : Gd S w g vn vk) (hb : Below w.heap.size w w') : Gd S w' g vn vk := Gd.step (fun b hlt hS => ⟨hb.block b hlt, hS⟩) hb.size g vn vk h
theorem Gd.mono {S S' : Nat → Prop} {w : World} {g : G} {vn vk : Value} (h : Gd S w g vn vk) (hk : ∀ b, b < w.heap.size → S b → S' b) : Gd S' w g vn vk := Gd.step (fun b hlt hS => ⟨rfl, hk b hlt hS⟩) (Nat.le_refl _) g vn vk h
theorem Gd.grown {S : Nat → Prop} {w w' : World} {row : Option Nat} {g : G} {vn vk : Value} (h : Gd S w g vn vk) (hg : w.grownBy w' row) (hne : ∀ b, S b → some b ≠ row) : Gd S w' g vn vk := Gd.step (fun b hlt hS => ⟨hg.block b hlt (hne b hS), hS⟩) hg.size g vn vk h
theorem GdL.at {S : Nat → Prop} {w : World} : ∀ (l : List G) (b off : Nat), GdL S w l b off → ∀ i (hi : i < l.length), ∃ vn vk, w.cell? ⟨b, off + i * 4, none⟩ = some (.int .i64 (l[i]).kind) ∧ w.cell? ⟨b, off + i * 4 + 1, none⟩ = some (.int .i64 (l[i]).dim) ∧
    w.cell? ⟨b, off + i * 4 + 2, none⟩ = some vn ∧ w.cell? ⟨b, off + i * 4 + 3, none⟩ = some vk ∧ Gd S w l[i] vn vk
  | [], _, _, _, i, hi => by simp at hi
  | g :: r, b, off, h, i, hi => by
    simp only [GdL] at h
    cases i with
    | zero => simpa using h.1
    | succ i =>
      have := GdL.at r b (off + 4) h.2 i (by simpa using hi)
      rw [show off + (i + 1) * 4 = off + 4 + i * 4 by omega]
      exact this
mutual
theorem Gd.cap {S : Nat → Prop} {w : World} : ∀ (g : G) (vn vk : Value), Gd S w g vn vk → CapG w g vn vk
  | .mk _ _ ns ks, vn, vk, h => by
    simp only [Gd] at h
    simp only [CapG]
    obtain ⟨⟨_, h2⟩, a, c, e, _, h3⟩ := h
    refine ⟨h2, fun b off n c' e' => ?_⟩
    match ks, h3 with
    | [], _ => simp [CapL]
    | g :: r, h3 =>
      obtain ⟨b', off', ea, _, _, hL⟩ := h3 (by simp)
      have e2 := e.symm.trans e'
      obtain ⟨ea', _, _⟩ := Value.slice.inj e2
      have e3 := Option.some.inj (ea.symm.trans ea')
      obtain ⟨rfl, rfl⟩ : b' = b ∧ off' = off := by simpa using e3
      exact GdL.cap (g :: r) b' off' hL
theorem GdL.cap {S : Nat → Prop} {w : World} : ∀ (l : List G) (b off : Nat), GdL S w l b off → CapL w l b off
  | [], _, _, _ => by simp [CapL]
  | g :: r, b, off, h => by
    simp only [GdL] at h
    simp only [CapL]
    obtain ⟨⟨vn, vk, _, _, h2, h3, h4⟩, h5⟩ := h
    exact ⟨⟨vn, vk, h2, h3, Gd.cap g vn vk h4⟩, GdL.cap r b (off + 4) h5⟩
end
theorem Gd.nums {S : Nat → Prop} {w : World} {g : G} {vn vk : Value} (h : Gd S w g vn vk) : Rd S w (fl g.nums) vn := by
  cases g
  simp only [Gd] at h
  exact h.1.1
theorem Gd.kids {S : Nat → Prop} {w : World} : ∀ (n : Nat) (g : G) (vn vk : Value), g.size ≤ n → Gd S w g vn vk → Rd S w (.list (G.fsL g.kids)) vk
  | 0, g, _, _, hn, _ => by rw [G.size_eq] at hn; omega
  | n + 1, .mk k d ns ks, vn, vk, hn, h => by
    rw [G.size_eq] at hn
    simp only [Gd] at h
    simp only [G.kids] at hn ⊢
    obtain ⟨_, a, c, rfl, hl, h3⟩ := h
    rcases Nat.eq_zero_or_pos ks.length with h0 | h0
    · obtain rfl : ks = [] := List.eq_nil_of_length_eq_zero h0
      exact .nil _ _
    · obtain ⟨b, off, rfl, hS, hb, hL⟩ := h3 h0
      have hat := GdL.at ks b off hL
      have e : ∀ i (hi : i < (G.fsL ks).length), (G.fsL ks)[i] = (ks[i]'(by rw [G.fsL_length] at hi; exact hi)).fs := fun i hi => by simp [G.fsL_map]
      have hfl := G.fsL_length ks
      have := Rd.list (S := S) (w := w) (G.fsL ks) b off c 4 (fun i j => (w.cell? ⟨b, off + i * 4 + j, none⟩).getD undef) (by omega) (by rw [hfl]; omega) (fun i hi => by rw [e i hi, G.fs_eq]; rfl) hS hb
        (fun i j hi hj => by
          obtain ⟨un, uk, q0, q1, q2, q3, _⟩ := hat i (by omega)
          have hjc : j = 0 ∨ j = 1 ∨ j = 2 ∨ j = 3 := by omega
          rcases hjc with rfl | rfl | rfl | rfl
          · rw [Nat.add_zero, q0]; rfl
          · rw [q1]; rfl
          · rw [q2]; rfl
          · rw [q3]; rfl)
        (fun i hi j hj => by
          obtain ⟨un, uk, q0, q1, q2, q3, q4⟩ := hat i (by omega)
          have hjc : j = 0 ∨ j = 1 ∨ j = 2 ∨ j = 3 := by
            have : j < 4 := by rw [e i hi, G.fs_eq] at hj; exact hj
            omega
          have hsz := G.size_kid ks i (by omega)
          have e2 := G.fs_eq (ks[i]'(by omega))
          simp only [e i hi, e2] at hj ⊢
          rcases hjc with rfl | rfl | rfl | rfl
          · rw [Nat.add_zero, q0]; exact .atom _
          · rw [q1]; exact .atom _
          · rw [q2]; exact q4.nums
          · rw [q3]; exact Gd.kids n _ un uk (by omega) q4)
      rw [hfl] at this
      exact this
theorem Gd.rd {S : Nat → Prop} {w : World} {g : G} {vn vk : Value} (h : Gd S w g vn vk) : Rd S w (fl g.nums) vn ∧ Rd S w (.list (G.fsL g.kids)) vk := ⟨h.nums, Gd.kids g.size g vn vk (Nat.le_refl _) h⟩
theorem Gd.shape {S : Nat → Prop} {w : World} {g : G} {vn vk : Value} (h : Gd S w g vn vk) : ∃ a c a' c', vn = .slice a g.nums.length c ∧ vk = .slice a' g.kids.length c' := by
  cases g
  simp only [Gd] at h
  obtain ⟨⟨_, a, c, e, _⟩, a', c', e', _⟩ := h
  exact ⟨a, c, a', c', e, e'⟩
/-- The four cells of a geometry. -/
def gcells (x : G × Value × Value) : List Value := [.int .i64 x.1.kind, .int .i64 x.1.dim, x.2.1, x.2.2]
/-- A row of geometries that the call builds, from block B on. -/
def KRow (B : Nat) (w : World) (v : Value) (ks : List G) : Prop := ∃ l : List (G × Value × Value), ks = l.map (·.1) ∧ w.ownsRow B 25 4 v ks.length (l.flatMap gcells) ∧ ∀ x ∈ l, Gd (Sm (B ≤ ·) v) w x.1 x.2.1 x.2.2
theorem KRow.nil (B : Nat) (w : World) : KRow B w (.slice none 0 0) [] := ⟨[], rfl, World.ownsRow_nil w B 25 4, by simp⟩
theorem KRow.shape {B : Nat} {w : World} {v : Value} {ks : List G} (h : KRow B w v ks) : ∃ a c, v = .slice a ks.length c := by
  obtain ⟨l, _, ho, _⟩ := h
  rcases ho.2 with ⟨rfl, h0⟩ | ⟨g, cap, cur, rfl, _⟩
  · exact ⟨none, 0, by rw [h0]⟩
  · exact ⟨_, _, rfl⟩
theorem KRow.lt {B : Nat} {w : World} {v : Value} {ks : List G} (h : KRow B w v ks) : ∀ k, v.ownBlock = some k → B ≤ k ∧ k < w.heap.size := by
  obtain ⟨l, _, ho, _⟩ := h
  exact ho.lt
theorem KRow.grown {B : Nat} {w w' : World} {v : Value} {ks : List G} (h : KRow B w v ks) {P : Nat} (hg : w.grownBy w' (some P)) (hP : P < B) : KRow B w' v ks := by
  have hl := h.lt
  obtain ⟨l, e, ho, hx⟩ := h
  refine ⟨l, e, ho.kept hg ?_, fun x hxl => (hx x hxl).grown hg fun b hb e => ?_⟩
  · cases hv : v.ownBlock with
    | none => exact .inl rfl
    | some k => exact .inr fun e => by have := (hl k hv).1; have := Option.some.inj e; omega
  · have := hb.1; have := Option.some.inj e; omega
theorem KRow.blw {B : Nat} {w w' : World} {v : Value} {ks : List G} (h : KRow B w v ks) (hb : Below w.heap.size w w') : KRow B w' v ks := by
  obtain ⟨l, e, ho, hx⟩ := h
  exact ⟨l, e, ho.kept (row := none) ⟨hb.os, hb.tape, hb.output, hb.size, fun k hk _ => hb.block k hk⟩ (by cases hv : v.ownBlock <;> simp), fun x hxl => (hx x hxl).blw hb⟩
theorem KRow.far {B : Nat} {w : World} {v : Value} {ks : List G} (h : KRow B w v ks) {P : Nat} (hP : P < B) (o : Nat) (x : Value) : KRow B (w.setCell ⟨P, o, none⟩ x) v ks :=
  h.grown ⟨rfl, rfl, rfl, by simp [World.setCell], fun k _ hk => Below.heap_setCell w _ _ k (fun e => hk (by rw [e]))⟩ hP
theorem KRow.app {B : Nat} {w : World} {v : Value} {ks : List G} (h : KRow B w v ks) (g : G) (vn vk : Value) (hd : Gd (Sm (B ≤ ·) v) w g vn vk) (h1 : vn.oneCell' = true) (h2 : vk.oneCell' = true) (hlen : ks.length ≤ 1000000000) (hB : B ≤ w.heap.size) :
    ∃ v' w', (Builtin.append_ #[23, 23] 23 #[v, .slice (some ⟨w.heap.size, 0, none⟩) 1 1]).run Tryz.prog (w.alloc (.cells #[.int .i64 g.kind, .int .i64 g.dim, vn, vk] 25)) = .ok v' w' ∧ KRow B w' v' (ks ++ [g]) ∧ w.grownBy w' v.ownBlock := by
  obtain ⟨i0, hi0, hz0, hz1, hz2⟩ := info_parts info25
  obtain ⟨l, e, ho0, hx⟩ := h
  have hb := bl_a1 w (.cells #[.int .i64 g.kind, .int .i64 g.dim, vn, vk] 25)
  have ho := ho0.kept (row := none) ⟨hb.os, hb.tape, hb.output, hb.size, fun k hk _ => hb.block k hk⟩ (by cases hv : v.ownBlock <;> simp)
  obtain ⟨v', w', hrun, ho', hg, _, hat⟩ := run_append_own_at (P := Tryz.prog) (w.alloc (.cells #[.int .i64 g.kind, .int .i64 g.dim, vn, vk] 25)) B 23 23 25 i0 _ 4 64 Tryz.underlying23 hi0 hz0 hz1 hz2 rfl (by decide) v ks.length (l.flatMap gcells) ho
    ⟨w.heap.size, 0, none⟩ 1 1 (gcells (g, vn, vk)) rfl (fun j u hj => by
      rw [Addr.add_lit, World.cell?_alloc_at _ _ _ _ rfl]; simpa [gcells] using hj) (by
      intro u hu
      simp only [gcells, List.mem_cons, List.not_mem_nil, or_false] at hu
      rcases hu with rfl | rfl | rfl | rfl
      · rfl
      · rfl
      · exact h1
      · exact h2) (by simp only [maxLen]; omega) (Nat.le_trans (Nat.mul_le_mul_right _ (Nat.succ_le_succ hlen)) (by omega)) (by simp; omega)
  have hg' : w.grownBy w' v.ownBlock := ⟨hg.os, hg.tape, hg.output, Nat.le_trans (by simp) hg.size, fun k hk hne => (hg.block k (by simp; omega) hne).trans (heap_alloc_old w _ hk)⟩
  have hnew : ∀ k, k < w.heap.size → some k ≠ v.ownBlock → some k ≠ v'.ownBlock := fun k hk hne e => by
    rcases hat with h | h
    · exact hne (e.trans h)
    · rw [h] at e; simp at e; omega
  refine ⟨v', w', hrun, ⟨l ++ [(g, vn, vk)], by simp [e], by simpa [List.flatMap_append] using ho', fun x hxl => ?_⟩, hg'⟩
  have hst : ∀ x : G × Value × Value, Gd (Sm (B ≤ ·) v) w x.1 x.2.1 x.2.2 → Gd (Sm (B ≤ ·) v') w' x.1 x.2.1 x.2.2 := fun x r => Gd.step (fun b hb hS => ⟨hg'.block b hb hS.2, hS.1, hnew b hb hS.2⟩) hg'.size _ _ _ r
  rcases List.mem_append.1 hxl with hxl | hxl
  · exact hst x (hx x hxl)
  · obtain rfl : x = (g, vn, vk) := by simpa using hxl
    exact hst _ hd
theorem flat4 : ∀ (l : List (G × Value × Value)) (i : Nat) (h : i < l.length), (l.flatMap gcells)[i * 4]? = some (.int .i64 (l[i]).1.kind) ∧ (l.flatMap gcells)[i * 4 + 1]? = some (.int .i64 (l[i]).1.dim) ∧ (l.flatMap gcells)[i * 4 + 2]? = some (l[i]).2.1 ∧ (l.flatMap gcells)[i * 4 + 3]? = some (l[i]).2.2
  | [], _, h => by simp at h
  | x :: r, 0, _ => by simp [gcells]
  | x :: r, i + 1, h => by
    have ih := flat4 r i (by simpa using h)
    have e : ∀ j, ((x :: r).flatMap gcells)[(i + 1) * 4 + j]? = (r.flatMap gcells)[i * 4 + j]? := fun j => by
      rw [List.flatMap_cons, List.getElem?_append_right (by simp [gcells]; omega)]
      congr 1
      simp [gcells]; omega
    have e0 := e 0
    simp only [Nat.add_zero] at e0
    rw [e0, e 1, e 2, e 3]
    simpa using ih
theorem GdL.of {S : Nat → Prop} {w : World} : ∀ (l : List (G × Value × Value)) (b off : Nat), (∀ i (hi : i < l.length), w.cell? ⟨b, off + i * 4, none⟩ = some (.int .i64 (l[i]).1.kind) ∧ w.cell? ⟨b, off + i * 4 + 1, none⟩ = some (.int .i64 (l[i]).1.dim) ∧
    w.cell? ⟨b, off + i * 4 + 2, none⟩ = some (l[i]).2.1 ∧ w.cell? ⟨b, off + i * 4 + 3, none⟩ = some (l[i]).2.2 ∧ Gd S w (l[i]).1 (l[i]).2.1 (l[i]).2.2) → GdL S w (l.map (·.1)) b off
  | [], _, _, _ => by simp [GdL]
  | x :: r, b, off, h => by
    simp only [List.map_cons, GdL]
    have h0 := h 0 (by simp)
    simp only [Nat.zero_mul, Nat.add_zero, List.getElem_cons_zero] at h0
    refine ⟨⟨x.2.1, x.2.2, h0⟩, GdL.of r b (off + 4) fun i hi => ?_⟩
    have := h (i + 1) (by simpa using hi)
    rw [show off + (i + 1) * 4 = off + 4 + i * 4 by omega] at this
    simpa using this
/-- The row as parts. -/
theorem KRow.gd {B : Nat} {w : World} {v : Value} {ks : List G} (h : KRow B w v ks) (k d : Int) (hm : ks.length ≤ 1000000) : Gd (B ≤ ·) w (.mk k d [] ks) (.slice none 0 0) v := by
  obtain ⟨l, rfl, ho, hx⟩ := h
  simp only [Gd]
  refine ⟨⟨.nil _ _, none, 0, rfl, by simp, fun _ => rfl⟩, ?_⟩
  rcases ho.2 with ⟨rfl, h0⟩ | ⟨g, cap, cur, rfl, hB, hg, hn, _, hcs, htake⟩
  · exact ⟨none, 0, by rw [h0], hm, fun hp => by omega⟩
  · refine ⟨_, cap, rfl, hm, fun _ => ⟨g, 0, rfl, hB, (Array.getElem?_eq_some_iff.1 hg).1, GdL.of l g 0 fun i hi => ?_⟩⟩
    have hat : ∀ p x, (l.flatMap gcells)[p]? = some x → w.cell? ⟨g, p, none⟩ = some x := fun p x hp => by
      rw [(cells_of hg).1]
      rw [← htake, List.getElem?_take] at hp
      split at hp
      · simpa using hp
      · cases hp
    obtain ⟨q0, q1, q2, q3⟩ := flat4 l i hi
    rw [Nat.zero_add]
    exact ⟨hat _ _ q0, hat _ _ q1, hat _ _ q2, hat _ _ q3, (hx _ (List.getElem_mem hi)).mono fun b _ hb => hb.1⟩
/-- A leaf that the call builds. -/
theorem Fl.gd {B : Nat} {w : World} {v : Value} {ns : List Nat} (h : Fl B w v ns) (k d : Int) (hm : ns.length ≤ 1000000) : Gd (B ≤ ·) w (.mk k d ns []) v (.slice none 0 0) := by
  simp only [Gd]
  refine ⟨⟨h.rd (fun _ hb => hb) (by omega), ?_⟩, none, 0, rfl, by simp, by simp⟩
  rcases h.own.2 with ⟨rfl, h0⟩ | ⟨g, cap, cur, rfl, _, _, hn, _⟩
  · exact ⟨none, 0, by rw [h0], by omega, fun _ => rfl⟩
  · exact ⟨_, cap, rfl, hn, fun e => by cases e⟩
end Go.Proofs.YtahnhhkbdgaidaaGreatDoor
