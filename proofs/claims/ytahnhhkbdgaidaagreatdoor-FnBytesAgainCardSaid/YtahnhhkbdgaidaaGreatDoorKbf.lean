/-
  The reader of binary forms: bytes that are a geometry's form; what is read of them.
  The reader of binary forms: UnmarshalWKB, ReadWKB.
  SameGeom over equal data.
-/
import Derived.Test.YtahnhhkbdgaidaaGreatDoorKbe
import Derived.Test.YtahnhhkbdgaidaaGreatDoorKau
import Derived.Test.YtahnhhkbdgaidaaGreatDoorKba
namespace Go.Proofs.YtahnhhkbdgaidaaGreatDoor
open Go.RowKit
set_option maxRecDepth 100000
/-- A row of places' bytes: their count, their numbers. -/
def SeqE (bo t : Int) (ns : List Nat) (l : List UInt8) : Prop := ∃ c4 f n, l = c4 ++ f ∧ c4.length = 4 ∧ dec bo c4 = n ∧ n * dN t = ns.length ∧ F8 bo ns f
def RingsE (bo t : Int) : List G → List UInt8 → Prop
  | [], l => l = []
  | g :: r, l => ∃ a b, l = a ++ b ∧ (g.kind = 2 ∧ g.dim = t ∧ g.kids = [] ∧ SeqE bo t g.nums a) ∧ RingsE bo t r b
mutual
/-- A geometry's binary form, in an order of bytes that is allowed. -/
def Enc (A : UInt8 → Prop) : G → List UInt8 → Prop
  | .mk k t ns ks, l => ∃ x l4 body, l = x :: (l4 ++ body) ∧ A x ∧ l4.length = 4 ∧ dec (x.toNat : Int) l4 = wcode k t ∧ (0 ≤ k ∧ k ≤ 6 ∧ 0 ≤ t ∧ t ≤ 3) ∧
     ((k = 1 ∧ ks = [] ∧ PtE (x.toNat : Int) t ns body) ∨ (k = 2 ∧ ks = [] ∧ SeqE (x.toNat : Int) t ns body) ∨
      (k = 3 ∧ ns = [] ∧ ∃ c4 rest, body = c4 ++ rest ∧ c4.length = 4 ∧ dec (x.toNat : Int) c4 = ks.length ∧ RingsE (x.toNat : Int) t ks rest) ∨
      ((k = 0 ∨ 4 ≤ k) ∧ ns = [] ∧ ∃ c4 rest, body = c4 ++ rest ∧ c4.length = 4 ∧ dec (x.toNat : Int) c4 = ks.length ∧ (∀ g ∈ ks, kidOf k < 0 ∨ g.kind = kidOf k) ∧ EncL A ks rest))
def EncL (A : UInt8 → Prop) : List G → List UInt8 → Prop
  | [], l => l = []
  | g :: r, l => ∃ a b, l = a ++ b ∧ Enc A g a ∧ EncL A r b
end
theorem RingsE.rest {bo t : Int} : ∀ {ks : List G} {l : List UInt8} (r : List UInt8), RingsE bo t ks l → ∃ R : Nat → List UInt8, R 0 = l ++ r ∧ R ks.length = r ∧ ∀ j (hj : j < ks.length), ((ks[j]).kind = 2 ∧ (ks[j]).dim = t ∧ (ks[j]).kids = []) ∧ ∃ a, SeqE bo t (ks[j]).nums a ∧ R j = a ++ R (j + 1)
  | [], l, r, h => by
    simp only [RingsE] at h
    subst h
    exact ⟨fun _ => r, by simp, rfl, fun j hj => by simp at hj⟩
  | g :: ks, l, r, h => by
    simp only [RingsE] at h
    obtain ⟨a, b, rfl, ⟨h1, h2, h3, h4⟩, hr⟩ := h
    obtain ⟨R, R0, Rn, Rj⟩ := RingsE.rest r hr
    refine ⟨fun j => match j with | 0 => (a ++ b) ++ r | j + 1 => R j, rfl, Rn, fun j hj => ?_⟩
    match j with
    | 0 => exact ⟨⟨h1, h2, h3⟩, a, h4, by show (a ++ b) ++ r = a ++ R 0; rw [R0, List.append_assoc]⟩
    | j + 1 => exact Rj j (by simpa using hj)
theorem EncL.rest {A : UInt8 → Prop} : ∀ {ks : List G} {l : List UInt8} (r : List UInt8), EncL A ks l → ∃ R : Nat → List UInt8, R 0 = l ++ r ∧ R ks.length = r ∧ ∀ j (hj : j < ks.length), ∃ a, Enc A (ks[j]) a ∧ R j = a ++ R (j + 1)
  | [], l, r, h => by
    simp only [EncL] at h
    subst h
    exact ⟨fun _ => r, by simp, rfl, fun j hj => by simp at hj⟩
  | g :: ks, l, r, h => by
    simp only [EncL] at h
    obtain ⟨a, b, rfl, h4, hr⟩ := h
    obtain ⟨R, R0, Rn, Rj⟩ := EncL.rest r hr
    refine ⟨fun j => match j with | 0 => (a ++ b) ++ r | j + 1 => R j, rfl, Rn, fun j hj => ?_⟩
    match j with
    | 0 => exact ⟨a, h4, by show (a ++ b) ++ r = a ++ R 0; rw [R0, List.append_assoc]⟩
    | j + 1 => exact Rj j (by simpa using hj)
/-- A line's reader keeps its word in an order of bytes. -/
def LineOk (bo : Int) (no : Bool) : Prop := ∀ (S : Nat → Prop) (P b : Nat) (t : Int) (n : Nat) (xs : List Nat) (l4 l r : List UInt8) (w : World), 0 ≤ t → t ≤ 3 → l4.length = 4 → dec bo l4 = n → n * dN t = xs.length → F8 bo xs l → xs.length ≤ 100000000 → (∀ k, w.heap.size ≤ k → S k) → Pr P b bo no (l4 ++ (l ++ r)) w →
    Calls Tryz.prog 190 #[.pointer (some ⟨P, 0, none⟩), .int .u8 t] w (LineR S P b bo no t xs r w)
theorem lineOk1 : LineOk 1 true := fun S P b t n xs l4 l r w t0 t1 h4 hd hn hf hl hS h => c190_1 S P b t n xs l4 l r w t0 t1 h4 hd hn hf hl hS h
theorem LineOk.seq {bo : Int} {no : Bool} (H : LineOk bo no) (S : Nat → Prop) (P b : Nat) (t : Int) (xs : List Nat) (l r : List UInt8) (w : World) (t0 : 0 ≤ t) (t1 : t ≤ 3) (hl : xs.length ≤ 100000000) (hs : SeqE bo t xs l) (hS : ∀ k, w.heap.size ≤ k → S k) (h : Pr P b bo no (l ++ r) w) :
    Calls Tryz.prog 190 #[.pointer (some ⟨P, 0, none⟩), .int .u8 t] w (LineR S P b bo no t xs r w) := by
  obtain ⟨c4, f, n, rfl, h4, hd, hn, hf⟩ := hs
  exact H S P b t n xs c4 f r w t0 t1 h4 hd hn hf hl hS (by simpa [List.append_assoc] using h)
theorem SeqE.whole {bo t : Int} {xs : List Nat} {l : List UInt8} (h : SeqE bo t xs l) : xs.length % dN t = 0 := by
  obtain ⟨c4, f, n, rfl, h4, hd, hn, hf⟩ := h
  rw [← hn]; exact Nat.mul_mod_left _ _
theorem seqX_whole {t : Int} {xs : List Nat} (h : xs.length % dN t = 0) : seqX t xs = xs := by unfold seqX; rw [h]; simp
theorem lineG_of {g : G} {bo t : Int} {l : List UInt8} (hk : g.kind = 2) (hd : g.dim = t) (t0 : 0 ≤ t) (t1 : t ≤ 3) (h : SeqE bo t g.nums l) : lineG g = ⟨t, g.nums⟩ := by
  unfold lineG lineOf
  rw [if_pos hk, hd, Int.emod_eq_of_lt t0 (by omega), seqX_whole h.whole]
theorem partsOf_all {α : Type} (kk : Int) (mk : G → α) : ∀ (ks : List G), (∀ g ∈ ks, g.kind = kk) → ∀ c : Bool, c = true → partsOf c kk mk ks = ks.map mk
  | [], _, c, hc => by simp [partsOf]
  | g :: r, h, c, hc => by
    have ih := partsOf_all kk mk r (fun x hx => h x (by simp [hx])) c hc
    unfold partsOf at *
    rw [List.filterMap_cons, ih, hc, h g (by simp)]
    simp
theorem geo_pt {g : G} (h : g.kind = 1) : (geoOf g).kind = 1 ∧ (geoOf g).tid = 168 ∧ (geoOf g).inner = (pointG g).fs := by
  rw [geoOf_eq]; unfold flatGeo; rw [if_pos h]; exact ⟨rfl, rfl, rfl⟩
theorem geo_ln {g : G} (h : g.kind = 2) : (geoOf g).kind = 2 ∧ (geoOf g).tid = 169 ∧ (geoOf g).inner = (lineG g).fs := by
  rw [geoOf_eq]; unfold flatGeo; rw [if_neg (by omega), if_pos h]; exact ⟨rfl, rfl, rfl⟩
theorem geo_pg {g : G} (h : g.kind = 3) : (geoOf g).kind = 3 ∧ (geoOf g).tid = 170 ∧ (geoOf g).inner = (polyG g).fs := by
  rw [geoOf_eq]; unfold flatGeo; rw [if_neg (by omega), if_neg (by omega), if_pos h]; exact ⟨rfl, rfl, rfl⟩
theorem geo_mp {t : Int} {ks : List G} (h : ∀ g ∈ ks, g.kind = 1) : (geoOf (.mk 4 t [] ks)).kind = 4 ∧ (geoOf (.mk 4 t [] ks)).tid = 171 ∧ (geoOf (.mk 4 t [] ks)).inner = [.list ((joined ptT Pt.force t (ks.map pointG)).1.map Pt.fs), .atom (.int .u8 (joined ptT Pt.force t (ks.map pointG)).2)] := by
  rw [geoOf_eq]; unfold flatGeo
  simp only [G.kind, G.dim, G.kids, G.nums]
  rw [if_neg (by omega), if_neg (by omega), if_neg (by omega), if_pos trivial, partsOf_all 1 pointG ks h ((4 : Int) == 4) rfl]; exact ⟨rfl, rfl, rfl⟩
theorem geo_ml {t : Int} {ks : List G} (h : ∀ g ∈ ks, g.kind = 2) : (geoOf (.mk 5 t [] ks)).kind = 5 ∧ (geoOf (.mk 5 t [] ks)).tid = 172 ∧ (geoOf (.mk 5 t [] ks)).inner = [.list ((joined lnT Ln.force t (ks.map lineG)).1.map Ln.fs), .atom (.int .u8 (joined lnT Ln.force t (ks.map lineG)).2)] := by
  rw [geoOf_eq]; unfold flatGeo
  simp only [G.kind, G.dim, G.kids, G.nums]
  rw [if_neg (by omega), if_neg (by omega), if_neg (by omega), if_neg (by omega), if_pos trivial, partsOf_all 2 lineG ks h ((5 : Int) == 5) rfl]; exact ⟨rfl, rfl, rfl⟩
theorem geo_mg {t : Int} {ks : List G} (h : ∀ g ∈ ks, g.kind = 3) : (geoOf (.mk 6 t [] ks)).kind = 6 ∧ (geoOf (.mk 6 t [] ks)).tid = 173 ∧ (geoOf (.mk 6 t [] ks)).inner = [.list ((joined pgT Pg.force t (ks.map polyG)).1.map Pg.fs), .atom (.int .u8 (joined pgT Pg.force t (ks.map polyG)).2)] := by
  rw [geoOf_eq]; unfold flatGeo
  simp only [G.kind, G.dim, G.kids, G.nums]
  rw [if_neg (by omega), if_neg (by omega), if_neg (by omega), if_neg (by omega), if_neg (by omega), if_pos trivial, partsOf_all 3 polyG ks h ((6 : Int) == 6) rfl]; exact ⟨rfl, rfl, rfl⟩
theorem geo_gc {t : Int} {ks : List G} : (geoOf (.mk 0 t [] ks)).kind = 0 ∧ (geoOf (.mk 0 t [] ks)).tid = 176 ∧ (geoOf (.mk 0 t [] ks)).inner = [.list ((joined Geo.t Geo.force t (ks.map geoOf)).1.map Geo.fs), .atom (.int .u8 (joined Geo.t Geo.force t (ks.map geoOf)).2)] := by
  have e : ∀ rest, flatGeo 0 t [] ks rest = rest := fun _ => rfl
  rw [geoOf_eq]
  simp only [G.kind, G.dim, G.kids, G.nums]
  rw [e]
  exact ⟨rfl, rfl, by simp only [gather, Geo.inner, Geo.fsL_map]⟩
theorem geo_kinds {k : Int} {ks : List G} (h : ∀ g ∈ ks, kidOf k < 0 ∨ g.kind = kidOf k) (m : Int) (hm : kidOf k = m) (h0 : 0 ≤ m) : ∀ g ∈ ks, g.kind = m := fun g hg => by
  rcases h g hg with h | h <;> omega
theorem Ex.top {S : Nat → Prop} {w w1 : World} (hS : ∀ k, w.heap.size ≤ k → S k) (hs : w.heap.size + 1 ≤ w1.heap.size) : ∀ k, w1.heap.size ≤ k → Ex S w.heap.size k := fun k hk => ⟨hS k (by omega), by omega⟩
set_option maxHeartbeats 1000000 in
/-- What is read of a geometry's binary form. -/
theorem c119_enc (A : UInt8 → Prop) (hA : ∀ x, A x → x = 0 ∨ x = 1) (HL : ∀ x, A x → LineOk (x.toNat : Int) (x == 1)) : ∀ (n : Nat) (g : G) (l r : List UInt8) (S : Nat → Prop) (P b : Nat) (bo0 : Int) (no0 : Bool) (w : World), g.size ≤ n → g.ok → Enc A g l → (∀ k, w.heap.size ≤ k → S k) → Pr P b bo0 no0 (l ++ r) w →
    Calls Tryz.prog 119 #[.pointer (some ⟨P, 0, none⟩)] w fun e w' => ∃ bo2 no2, GeoRx S P b bo2 no2 (geoOf g).kind (geoOf g).tid (geoOf g).inner r w e w'
  | 0, g, _, _, _, _, _, _, _, _, hn, _, _, _, _ => by rw [G.size_eq] at hn; omega
  | n + 1, .mk k t ns ks, l, r, S, P, b, bo0, no0, w, hn, hok, he, hS, hp => by
    have hok' := hok
    rw [G.size_eq] at hn
    rw [G.ok_eq] at hok
    simp only [G.kids, G.nums] at hok hn
    obtain ⟨okn, okk, okl⟩ := hok
    simp only [Enc] at he
    obtain ⟨x, l4, body, rfl, hx, h4, hd, ⟨k0, k1, t0, t1⟩, hc⟩ := he
    have hx01 := hA x hx
    have hbo : (x.toNat : Int) = 0 ∨ (x.toNat : Int) = 1 := by rcases hx01 with rfl | rfl <;> simp
    have hlx := HL x hx
    have hp' : Pr P b bo0 no0 (x :: (l4 ++ (body ++ r))) w := by simpa [List.append_assoc] using hp
    suffices H : ∀ w1, w.heap.size + 1 ≤ w1.heap.size → Pr P b (x.toNat : Int) (x == 1) (body ++ r) w1 → Calls Tryz.prog 162 #[.pointer (some ⟨P, 0, none⟩), .int .i64 k, .int .u8 t] w1 (GeoRx (Ex S w.heap.size) P b (x.toNat : Int) (x == 1) k (geoOf (.mk k t ns ks)).tid (geoOf (.mk k t ns ks)).inner r w1) by
      have hk : (geoOf (.mk k t ns ks)).kind = k := by
        rcases hc with ⟨rfl, _⟩ | ⟨rfl, _⟩ | ⟨rfl, _⟩ | ⟨h4, rfl, _, _, _, _, _, hkk, _⟩
        · exact (geo_pt rfl).1
        · exact (geo_ln rfl).1
        · exact (geo_pg rfl).1
        · rw [geoOf_eq]; unfold flatGeo gather
          simp only [G.kind]
          have : k = 0 ∨ k = 4 ∨ k = 5 ∨ k = 6 := by omega
          rcases this with rfl | rfl | rfl | rfl <;> rfl
      rw [hk]
      refine (c119_g S P b bo0 no0 x hx01 l4 (body ++ r) r k t _ _ h4 hd k0 k1 t0 t1 w H hp').mono fun e w' h => ⟨_, _, h⟩
    intro w1 hw1 hp1
    have hS1 := Ex.top hS hw1
    have IH : ∀ (j : Nat) (hj : j < ks.length) (a r' : List UInt8), Enc A ks[j] a → ∀ (S' : Nat → Prop) (w2 : World), (∀ k, w2.heap.size ≤ k → S' k) → Pr P b (x.toNat : Int) (x == 1) (a ++ r') w2 →
        Calls Tryz.prog 235 #[.pointer (some ⟨P, 0, none⟩)] w2 (GeoRx S' P b (x.toNat : Int) (x == 1) (geoOf ks[j]).kind (geoOf ks[j]).tid (geoOf ks[j]).inner r' w2) := fun j hj a r' ha S' w2 hS' hp2 =>
      c235_g S' P b _ _ (a ++ r') r' _ _ _ w2 hS' (fun S'' P2 w3 hS'' hp3 => c119_enc A hA HL n ks[j] a r' S'' P2 b 0 false w3 (by have := G.size_kid ks j hj; omega) (G.okL_mem okl _ (List.getElem_mem hj)) ha hS'' hp3) hp2
    rcases hc with ⟨rfl, rfl, hpt⟩ | ⟨rfl, rfl, hsq⟩ | ⟨rfl, rfl, c4, rest, rfl, hc4, hdc, hrg⟩ | ⟨hk4, rfl, c4, rest, rfl, hc4, hdc, hkk, hel⟩
    · rw [(geo_pt rfl).2.1, (geo_pt rfl).2.2]
      exact c162_1 (Ex S w.heap.size) P b _ _ t (pointOf 1 t ns) r w1 hp1.lt hp1.inb.2 hS1 fun w2 hb2 hs2 => c189 P b _ hbo _ t t0 t1 ns body r hpt w2 (hp1.blw hb2)
    · rw [(geo_ln rfl).2.1, (geo_ln rfl).2.2, lineG_of (t := t) rfl rfl t0 t1 hsq]
      exact c162_2 (Ex S w.heap.size) P b _ _ t t ns r w1 hp1.lt hp1.inb.2 hS1 fun w2 hb2 hs2 => hlx.seq (Ex (Ex S w.heap.size) w1.heap.size) P b t ns body r w2 t0 t1 (by omega) hsq (Ex.top hS1 hs2) (hp1.blw hb2)
    · rw [(geo_pg rfl).2.1, (geo_pg rfl).2.2]
      obtain ⟨R, R0, Rn, Rj⟩ := hrg.rest r
      have hall : ∀ g ∈ ks, g.kind = 2 := fun g hg => by
        obtain ⟨j, hj, rfl⟩ := List.getElem_of_mem hg; exact (Rj j hj).1.1
      have hlnk : ∀ j (hj : j < ks.length), lineG ks[j] = ⟨t, (ks[j]).nums⟩ := fun j hj => by
        obtain ⟨⟨h1, h2, h3⟩, a, hs, _⟩ := Rj j hj
        exact lineG_of h1 h2 t0 t1 hs
      have hpg : (polyG (.mk 3 t [] ks)).fs = [.list ((joined lnT Ln.force t (ks.map lineG)).1.map Ln.fs), .atom (.int .u8 (joined lnT Ln.force t (ks.map lineG)).2)] := by
        unfold polyG ringsOf
        simp only [G.kind, G.dim, G.kids]
        rw [partsOf_all 2 lineG ks hall ((3 : Int) == 3) rfl]; rfl
      rw [hpg]
      refine c162_3 (Ex S w.heap.size) P b _ _ t _ _ (joined lnT Ln.force t (ks.map lineG)).1.length r w1 hp1.lt hp1.inb.2 hS1 fun w2 hb2 hs2 => ?_
      have h191 := c191 (Ex (Ex S w.heap.size) w1.heap.size) P b _ hbo (x == 1) t t0 t1 (ks.map lineG) (fun l hl => by
          obtain ⟨g, hg, rfl⟩ := List.mem_map.1 hl
          have := G.okL_mem okl g hg; rw [G.ok_eq] at this; exact lineOf_ok _ _ _ this.1) (fun l hl => by
          obtain ⟨g, hg, rfl⟩ := List.mem_map.1 hl
          obtain ⟨j, hj, rfl⟩ := List.getElem_of_mem hg
          rw [hlnk j hj]) (by simpa using okk) R c4 hc4 (by simpa using hdc) w2 (Ex.top hS1 hs2) (fun j hj S' w3 hS' hp3 => by
          have hj' : j < ks.length := by simpa using hj
          obtain ⟨_, a, hs, hRj⟩ := Rj j hj'
          rw [hRj] at hp3
          simp only [List.getElem_map, hlnk j hj']
          have hkj := G.okL_mem okl _ (List.getElem_mem hj'); rw [G.ok_eq] at hkj
          exact hlx.seq S' P b t _ a _ w3 t0 t1 (by omega) hs hS' hp3) (by
          have := hp1.blw hb2
          rw [R0, ← List.append_assoc]; exact this)
      rw [List.length_map, Rn] at h191
      exact h191
    · obtain ⟨R, R0, Rn, Rj⟩ := hel.rest r
      have hpR : ∀ w2, Below w1.heap.size w1 w2 → Pr P b (x.toNat : Int) (x == 1) (c4 ++ R 0) w2 := fun w2 hb2 => by
        have := hp1.blw hb2
        rw [R0, ← List.append_assoc]; exact this
      have IH2 : ∀ (j : Nat) (hj : j < ks.length) (S' : Nat → Prop) (w2 : World), (∀ k, w2.heap.size ≤ k → S' k) → Pr P b (x.toNat : Int) (x == 1) (R j) w2 →
        Calls Tryz.prog 235 #[.pointer (some ⟨P, 0, none⟩)] w2 (GeoRx S' P b (x.toNat : Int) (x == 1) (geoOf ks[j]).kind (geoOf ks[j]).tid (geoOf ks[j]).inner (R (j + 1)) w2) := fun j hj S' w2 hS' hp2 => by
        obtain ⟨a, ha, hRj⟩ := Rj j hj
        rw [hRj] at hp2
        exact IH j hj a _ ha S' w2 hS' hp2
      have hk' : k = 0 ∨ k = 4 ∨ k = 5 ∨ k = 6 := by omega
      rcases hk' with rfl | rfl | rfl | rfl
      · rw [geo_gc.2.1, geo_gc.2.2]
        refine c162_0 (Ex S w.heap.size) P b _ _ t _ _ (joined Geo.t Geo.force t (ks.map geoOf)).1.length r w1 hp1.lt hp1.inb.2 hS1 fun w2 hb2 hs2 => ?_
        have h := c195_g (Ex (Ex S w.heap.size) w1.heap.size) P b _ hbo (x == 1) t t0 t1 (ks.map geoOf) (fun l hl => by
          obtain ⟨g, hg, rfl⟩ := List.mem_map.1 hl
          exact geoOf_ok g (G.okL_mem okl g hg)) (by simpa using okk) R c4 hc4 (by simpa using hdc) w2 (Ex.top hS1 hs2) (fun j hj S' w3 hS' hp3 => by
          have hj' : j < ks.length := by simpa using hj
          simp only [List.getElem_map]
          exact IH2 j hj' S' w3 hS' hp3) (hpR w2 hb2)
        rw [List.length_map, Rn] at h
        exact h
      · have hall := geo_kinds hkk 1 rfl (by omega)
        rw [(geo_mp hall).2.1, (geo_mp hall).2.2]
        refine c162_4 (Ex S w.heap.size) P b _ _ t _ _ (joined ptT Pt.force t (ks.map pointG)).1.length r w1 hp1.lt hp1.inb.2 hS1 fun w2 hb2 hs2 => ?_
        have h := c192_g (Ex (Ex S w.heap.size) w1.heap.size) P b _ hbo (x == 1) t t0 t1 (ks.map pointG) (fun l hl => by
          obtain ⟨g, hg, rfl⟩ := List.mem_map.1 hl
          exact pointOf_ok _ _ _) (by simpa using okk) R c4 hc4 (by simpa using hdc) w2 (Ex.top hS1 hs2) (fun j hj S' w3 hS' hp3 => by
          have hj' : j < ks.length := by simpa using hj
          have := IH2 j hj' S' w3 hS' hp3
          obtain ⟨e1, e2, e3⟩ := geo_pt (hall _ (List.getElem_mem hj'))
          rw [e1, e2, e3] at this
          simp only [List.getElem_map]
          exact this) (hpR w2 hb2)
        rw [List.length_map, Rn] at h
        exact h
      · have hall := geo_kinds hkk 2 rfl (by omega)
        rw [(geo_ml hall).2.1, (geo_ml hall).2.2]
        refine c162_5 (Ex S w.heap.size) P b _ _ t _ _ (joined lnT Ln.force t (ks.map lineG)).1.length r w1 hp1.lt hp1.inb.2 hS1 fun w2 hb2 hs2 => ?_
        have h := c193_g (Ex (Ex S w.heap.size) w1.heap.size) P b _ hbo (x == 1) t t0 t1 (ks.map lineG) (fun l hl => by
          obtain ⟨g, hg, rfl⟩ := List.mem_map.1 hl
          have := G.okL_mem okl g hg; rw [G.ok_eq] at this; exact lineOf_ok _ _ _ this.1) (by simpa using okk) R c4 hc4 (by simpa using hdc) w2 (Ex.top hS1 hs2) (fun j hj S' w3 hS' hp3 => by
          have hj' : j < ks.length := by simpa using hj
          have := IH2 j hj' S' w3 hS' hp3
          obtain ⟨e1, e2, e3⟩ := geo_ln (hall _ (List.getElem_mem hj'))
          rw [e1, e2, e3] at this
          simp only [List.getElem_map]
          exact this) (hpR w2 hb2)
        rw [List.length_map, Rn] at h
        exact h
      · have hall := geo_kinds hkk 3 rfl (by omega)
        rw [(geo_mg hall).2.1, (geo_mg hall).2.2]
        refine c162_6 (Ex S w.heap.size) P b _ _ t _ _ (joined pgT Pg.force t (ks.map polyG)).1.length r w1 hp1.lt hp1.inb.2 hS1 fun w2 hb2 hs2 => ?_
        have h := c194_g (Ex (Ex S w.heap.size) w1.heap.size) P b _ hbo (x == 1) t t0 t1 (ks.map polyG) (fun l hl => by
          obtain ⟨g, hg, rfl⟩ := List.mem_map.1 hl
          have := G.okL_mem okl g hg; rw [G.ok_eq] at this; exact ringsOf_ok _ _ _ this.2.2 this.2.1) (by simpa using okk) R c4 hc4 (by simpa using hdc) w2 (Ex.top hS1 hs2) (fun j hj S' w3 hS' hp3 => by
          have hj' : j < ks.length := by simpa using hj
          have := IH2 j hj' S' w3 hS' hp3
          obtain ⟨e1, e2, e3⟩ := geo_pg (hall _ (List.getElem_mem hj'))
          rw [e1, e2, e3] at this
          simp only [List.getElem_map]
          exact this) (hpR w2 hb2)
        rw [List.length_map, Rn] at h
        exact h
end Go.Proofs.YtahnhhkbdgaidaaGreatDoor
namespace Go.Proofs.YtahnhhkbdgaidaaGreatDoor
open Go.RowKit
set_option maxRecDepth 100000
/-- A slice of bytes. -/
def By (w : World) (v : Value) (l : List UInt8) : Prop := ∃ b off c, v = .slice (some ⟨b, off, none⟩) l.length c ∧ l.length ≤ c ∧ l.length ≤ 17592186044416 ∧ b < w.heap.size ∧ ∀ j (h : j < l.length), w.cell? ⟨b, off + j, none⟩ = some (.int .u8 ((l[j]).toNat : Int))
theorem By.blw {w w' : World} {v : Value} {l : List UInt8} (h : By w v l) (hb : Below w.heap.size w w') : By w' v l := by
  obtain ⟨b, off, c, e, hc, hm, hl, hj⟩ := h
  exact ⟨b, off, c, e, hc, hm, Nat.lt_of_lt_of_le hl hb.size, fun j h => by rw [hb.cell (p := ⟨b, off + j, none⟩) hl]; exact hj j h⟩
theorem Out.by {w w' : World} {v : Value} {out : List UInt8} (h : Out w v out w') (h0 : 0 < out.length) (hl : out.length ≤ 17592186044416) : By w' v out := by
  obtain ⟨W, _, hb⟩ := h
  rcases hb.own.2 with ⟨rfl, h0'⟩ | ⟨g, cap, cur, rfl, hg, hgb, hn, hc, hs, ht⟩
  · omega
  · have hlt : g < w'.heap.size := (Array.getElem?_eq_some_iff.1 hgb).1
    refine ⟨g, 0, cap, rfl, by omega, hl, hlt, fun i hi => ?_⟩
    have := hb.own.cells (g := g) rfl i (.int .u8 ((out[i]).toNat : Int)) (by simp [bcells, hi])
    rw [Addr.add_lit] at this
    simpa using this
theorem Enc.ne {A : UInt8 → Prop} {m : G} {l : List UInt8} (h : Enc A m l) : 0 < l.length := by
  cases m
  simp only [Enc] at h
  obtain ⟨x, l4, body, rfl, _⟩ := h
  simp
set_option maxHeartbeats 2000000 in
theorem c51 (A : UInt8 → Prop) (hA : ∀ x, A x → x = 0 ∨ x = 1) (HL : ∀ x, A x → LineOk (x.toNat : Int) (x == 1)) (S : Nat → Prop) (m : G) (l : List UInt8) (v : Value) (ao : Option Addr) (no co : Nat) (hno : ((no : Int) == 0) = false) (w : World) (hok : m.ok) (he : Enc A m l) (hS : ∀ k, w.heap.size ≤ k → S k) (hv : By w v l) :
    Calls Tryz.prog 51 #[v, .slice ao no co] w fun e w' => ∃ b', e = .returned (.tuple #[.agg #[.int .i64 (geoOf m).kind, .iface (geoOf m).tid (.pointer (some ⟨b', 0, none⟩))], .nilIface]) ∧ GeoV S w' (geoOf m) (.iface (geoOf m).tid (.pointer (some ⟨b', 0, none⟩))) ∧ Below w.heap.size w w' := by
  obtain ⟨b, off, c, rfl, hc, hm, hl, hj⟩ := hv
  have hb1 := bl_a2 w (.cells #[.int .i64 0, .nilIface] 47) (.cells #[.slice (some ⟨b, off, none⟩) l.length c, .int .u8 0, .bool false] 160)
  have hq : Pr (w.heap.size + 1) b 0 false (l ++ []) ((w.alloc (.cells #[.int .i64 0, .nilIface] 47)).alloc (.cells #[.slice (some ⟨b, off, none⟩) l.length c, .int .u8 0, .bool false] 160)) := by
    rw [List.append_nil]
    exact ⟨off, c, Lb.new2 w _ _ 160, hc, hm, by omega, by simp; omega, fun j h => by rw [hb1.cell (p := ⟨b, off + j, none⟩) hl]; exact hj j h⟩
  have HC := Lib.hid (c119_enc A hA HL m.size m l [] (Ex (Ex S (w.heap.size + 1)) w.heap.size) (w.heap.size + 1) b 0 false _ (Nat.le_refl _) hok he (fun k hk => by simp at hk; exact ⟨⟨hS k (by omega), by omega⟩, by omega⟩) hq)
  have l0 := Lib.hid (Lb.new' w #[.int .i64 0, .nilIface] 47 (.cells #[.slice (some ⟨b, off, none⟩) l.length c, .int .u8 0, .bool false] 160))
  have HB := Lib.hid hb1
  clear hb1 hq hj
  go_enter Tryz.func51, Tryz.ntmps51
  go_wp2_with fail
  refine HC.out.mono ?_
  rintro _ w2 ⟨bo2, no2, b', rfl, hr2, hp2, hg2⟩
  have hsz2 : w.heap.size + 2 ≤ w2.heap.size := by have := hg2.size; simpa using this
  have hb3 := bl_a1 w2 (.cells #[.int .i64 (geoOf m).kind, .iface (geoOf m).tid (.pointer (some ⟨b', 0, none⟩))] 47)
  have L2 := (l0.out.grown hg2 (fun e => by have := Option.some.inj e; omega)).blw hb3
  obtain ⟨kr, fr, lr⟩ := L2.use
  have hle := Lb.new w2 #[.int .i64 (geoOf m).kind, .iface (geoOf m).tid (.pointer (some ⟨b', 0, none⟩))] 47
  obtain ⟨ke, _, _⟩ := hle.use
  have HG : Below w.heap.size w (w2.alloc (.cells #[.int .i64 (geoOf m).kind, .iface (geoOf m).tid (.pointer (some ⟨b', 0, none⟩))] 47)) :=
    ⟨hb3.os.trans (hg2.os.trans HB.out.os), hb3.tape.trans (hg2.tape.trans HB.out.tape), hb3.output.trans (hg2.output.trans HB.out.output), by simp; omega, fun q hq => (hb3.block q (by omega)).trans ((hg2.block q (by simp; omega) (fun e => by have := Option.some.inj e; omega)).trans (HB.out.block q hq))⟩
  have HG := Lib.hid HG
  have HR3 := Lib.hid (hr2.blw hb3)
  clear hr2 hp2 hg2 hb3 L2 hle HC l0 HB
  go_wp2_with fail
  refine bodyPost_ret (v := .tuple #[.agg #[.int .i64 (geoOf m).kind, .iface (geoOf m).tid (.pointer (some ⟨b', 0, none⟩))], .nilIface]) (by simp [results, Tryz.results51, go_sem, kr]) rfl ⟨b', rfl, ?_, ?_⟩
  · refine Rd.unex (L := w.heap.size + 1) (Rd.unex (L := w.heap.size) ?_)
    exact (HR3.out.set _ _).set _ _
  · exact (HG.out.setCell (by simp) _).setCell (by simp) _
theorem c52 (w : World) : Calls Tryz.prog 52 #[.bool false] w fun e w' => ∃ ao co, e = .returned (.slice ao 1 co) ∧ Below w.heap.size w w' := by
  go_enter Tryz.func52, Tryz.ntmps52
  go_wp2
  go_ret
  exact ⟨_, _, rfl, by repeat (with_reducible first | exact Below.refl _ _ | refine Below.alloc ?_ (by simp) _)⟩
set_option maxHeartbeats 2000000 in
theorem c19 (A : UInt8 → Prop) (hA : ∀ x, A x → x = 0 ∨ x = 1) (HL : ∀ x, A x → LineOk (x.toNat : Int) (x == 1)) (S : Nat → Prop) (m : G) (l : List UInt8) (v : Value) (w : World) (hok : m.ok) (he : Enc A m l) (hS : ∀ k, w.heap.size ≤ k → S k) (hv : By w v l) :
    Calls Tryz.prog 19 #[v, .bool false] w fun e w' => ∃ x, e = .returned (.tuple #[x, .bool true]) ∧ NewR S w (geoOf m).toG (.returned x) w' := by
  have hb0 := bl_a1 w (.cells #[.int .i64 0, .int .i64 0, .slice none 0 0, .slice none 0 0] 25)
  have l0 := Lib.hid (Lb.new w #[.int .i64 0, .int .i64 0, .slice none 0 0, .slice none 0 0] 25)
  have H52 := Lib.hid (c52 (w.alloc (.cells #[.int .i64 0, .int .i64 0, .slice none 0 0, .slice none 0 0] 25)))
  have HV := Lib.hid (hv.blw hb0)
  have HB0 := Lib.hid hb0
  have HS := Lib.hid hS
  have H51 := Lib.hid fun (ao : Option Addr) (co : Nat) (w1 : World) (hw : w.heap.size + 1 ≤ w1.heap.size) (hv1 : By w1 v l) => c51 A hA HL (Ex S w.heap.size) m l v ao 1 co rfl w1 hok he (fun k hk => ⟨hS k (by omega), by omega⟩) hv1
  have H47 := Lib.hid fun (w1 : World) (u : Value) (hw : w.heap.size + 1 ≤ w1.heap.size) (hx : GeoV (Ex S w.heap.size) w1 (geoOf m) u) => c47 (geoOf m).size (geoOf m) (Ex S w.heap.size) w1 u (Nat.le_refl _) (geoOf_ok m hok) (fun k hk => ⟨hS k (by omega), by omega⟩) hx
  obtain ⟨b, off, c, rfl, hc, hm, hl, hj⟩ := hv
  clear hb0 hj hS
  go_enter Tryz.func19, Tryz.ntmps19
  go_wp2_with fail
  refine H52.out.mono ?_
  rintro _ w1 ⟨ao, co, rfl, hb1⟩
  have hsz1 : w.heap.size + 1 ≤ w1.heap.size := by have := hb1.size; simpa using this
  have HC := Lib.hid (H51.out ao co w1 hsz1 (HV.out.blw hb1))
  have L1 := Lib.hid (l0.out.blw hb1)
  have HB1 := Lib.hid (HB0.out.trans (hb1.mono (by simp)))
  clear hb1 H51 H52 HV l0 HB0
  go_wp2_with fail
  refine HC.out.mono ?_
  rintro _ w2 ⟨b', rfl, hx, hb2⟩
  have hsz2 : w.heap.size + 1 ≤ w2.heap.size := Nat.le_trans hsz1 hb2.size
  have hb3 := bl_a1 w2 (.cells #[.int .i64 (geoOf m).kind, .iface (geoOf m).tid (.pointer (some ⟨b', 0, none⟩))] 47)
  have HC2 := Lib.hid (H47.out _ _ (by simp; omega) (Rd.blw hx hb3))
  have L2 := Lib.hid ((L1.out.blw hb2).blw hb3)
  have HB2 := Lib.hid ((HB1.out.trans (hb2.mono (by omega))).trans (hb3.mono (by omega)))
  clear hx hb2 hb3 HC H47 L1 HB1
  go_wp2_with fail
  refine HC2.out.mono ?_
  rintro _ w3 ⟨a1, c1, a2, c2, rfl, hr1, hr2, hb3⟩
  obtain ⟨k3, f3, l3⟩ := (L2.out.blw hb3).use
  have HB3 := Lib.hid (HB2.out.trans (hb3.mono (by simp; omega)))
  have HR1 := Lib.hid hr1; have HR2 := Lib.hid hr2
  clear hr1 hr2 hb3 HC2 L2 HB2
  go_wp2_with fail
  refine bodyPost_ret (v := .tuple #[.agg #[.int .i64 (geoOf m).toG.kind, .int .i64 (geoOf m).toG.dim, .slice a1 (geoOf m).toG.nums.length c1, .slice a2 (geoOf m).toG.kids.length c2], .bool true]) (by simp [results, Tryz.results19, go_sem, k3]) rfl ⟨_, rfl, a1, c1, a2, c2, rfl, ?_, ?_, ?_⟩
  · exact Rd.unex (L := w.heap.size) ((((HR1.out.set _ _).set _ _).set _ _).set _ _)
  · exact Rd.unex (L := w.heap.size) ((((HR2.out.set _ _).set _ _).set _ _).set _ _)
  · repeat (with_reducible first | refine Below.setCell ?_ (by simp) _ | exact HB3.out)
end Go.Proofs.YtahnhhkbdgaidaaGreatDoor
namespace Go.Proofs.YtahnhhkbdgaidaaGreatDoor
open Go.RowKit
set_option maxRecDepth 100000
set_option maxHeartbeats 1000000 in
theorem c54 (S : Nat → Prop) (xs : List Nat) (v1 v2 : Value) (w : World) (h1 : Rd S w (fl xs) v1) (h2 : Rd S w (fl xs) v2) :
    Calls Tryz.prog 54 #[v1, v2] w fun e w' => e = .returned (.bool true) ∧ Below w.heap.size w w' := by
  obtain ⟨a1, c1, rfl, hm, hi1⟩ := fl_inv h1
  obtain ⟨a2, c2, rfl, _, hi2⟩ := fl_inv h2
  have H122 := fun x w => x122 x w
  have H1 := Lib.hid hi1; have H2 := Lib.hid hi2
  clear h1 h2 hi1 hi2
  go_enter Tryz.func54, Tryz.ntmps54
  go_wp2_with fail
  go_loopw [14] (fun i wr => ∃ j : Nat, j ≤ xs.length ∧ i = .int .i64 j ∧ Below w.heap.size w wr) (fun i _ => xs.length - (intOf i).toNat)
  case atStart => exact ⟨0, Nat.zero_le _, rfl, Below.refl _ _⟩
  case round =>
    obtain ⟨j, hj, rfl, hB⟩ := hrel
    by_cases hlt : j < xs.length
    · obtain ⟨b1, off1, rfl, _, hb1, q1⟩ := H1.out j hlt
      obtain ⟨b2, off2, rfl, _, hb2, q2⟩ := H2.out j hlt
      replace q1 := (hB.cell (p := ⟨b1, off1 + j, none⟩) hb1).trans q1
      replace q2 := (hB.cell (p := ⟨b2, off2 + j, none⟩) hb2).trans q2
      generalize xs[j] = x at *
      have HB := Lib.hid hB
      clear hB
      go_wp2_with fail
      go_region_law (first | fail)
      all_goals go_wp2_with fail
      all_goals go_roundw
      all_goals first
        | (simp [intOf]; omega; done)
        | exact ⟨j + 1, by omega, by go_num, HB.out.drew⟩
    · obtain rfl : j = xs.length := by omega
      have hdl : decide (((xs.length : Nat) : Int) < xs.length) = false := by simp
      have HB := Lib.hid hB
      clear hB
      go_wp2_with fail
      go_ret
      exact ⟨rfl, HB.out⟩
set_option maxHeartbeats 1000000 in
theorem c55 (S : Nat → Prop) (ks : List G) (v1 v2 : Value) (w : World) (h1 : Rd S w (.list (G.fsL ks)) v1) (h2 : Rd S w (.list (G.fsL ks)) v2)
    (IH : ∀ (j : Nat) (hj : j < ks.length) (S : Nat → Prop) (vn vk un uk : Value) (w : World), Rd S w (fl (ks[j]).nums) vn → Rd S w (.list (G.fsL (ks[j]).kids)) vk → Rd S w (fl (ks[j]).nums) un → Rd S w (.list (G.fsL (ks[j]).kids)) uk →
      Calls Tryz.prog 21 #[.agg #[.int .i64 (ks[j]).kind, .int .i64 (ks[j]).dim, vn, vk], .agg #[.int .i64 (ks[j]).kind, .int .i64 (ks[j]).dim, un, uk]] w fun e w' => e = .returned (.bool true) ∧ Below w.heap.size w w') :
    Calls Tryz.prog 55 #[v1, v2] w fun e w' => e = .returned (.bool true) ∧ Below w.heap.size w w' := by
  obtain ⟨a1, c1, rfl, hm, hi1⟩ := kids_inv h1
  obtain ⟨a2, c2, rfl, _, hi2⟩ := kids_inv h2
  have H1 := Lib.hid hi1; have H2 := Lib.hid hi2; have IH := Lib.hid IH
  clear h1 h2 hi1 hi2
  go_enter Tryz.func55, Tryz.ntmps55
  go_wp2_with fail
  go_loopw [14] (fun i wr => ∃ j : Nat, j ≤ ks.length ∧ i = .int .i64 j ∧ Below w.heap.size w wr) (fun i _ => ks.length - (intOf i).toNat)
  case atStart => exact ⟨0, Nat.zero_le _, rfl, Below.refl _ _⟩
  case round =>
    obtain ⟨j, hj, rfl, hB⟩ := hrel
    by_cases hlt : j < ks.length
    · obtain ⟨b1, off1, vn1, vk1, rfl, _, hb1, p0, p1, p2, p3, r2, r3⟩ := H1.out j hlt
      obtain ⟨b2, off2, vn2, vk2, rfl, _, hb2, q0, q1, q2, q3, s2, s3⟩ := H2.out j hlt
      have hsz := hB.size
      obtain ⟨xn, yn, rfl⟩ := fl_shape r2
      obtain ⟨xk, yk, rfl⟩ := kids_shape r3
      obtain ⟨x2n, y2n, rfl⟩ := fl_shape s2
      obtain ⟨x2k, y2k, rfl⟩ := kids_shape s3
      generalize hkn : (Value.slice xn (ks[j]).nums.length yn) = vn1 at *
      generalize hkk : (Value.slice xk (ks[j]).kids.length yk) = vk1 at *
      generalize hln : (Value.slice x2n (ks[j]).nums.length y2n) = vn2 at *
      generalize hlk : (Value.slice x2k (ks[j]).kids.length y2k) = vk2 at *
      have hbA : Below w.heap.size w ((wr.alloc (.cells #[.int .i64 (ks[j]).kind, .int .i64 (ks[j]).dim, vn1, vk1] 25)).drew) := (hB.alloc hsz _).drew
      have H21 := Lib.hid (IH.out j hlt S vn1 vk1 vn2 vk2 ((wr.alloc (.cells #[.int .i64 (ks[j]).kind, .int .i64 (ks[j]).dim, vn1, vk1] 25)).drew) (r2.blw hbA) (r3.blw hbA) (s2.blw hbA) (s3.blw hbA))
      have hc := fun (b : Nat) (o : Nat) (hb : b < w.heap.size) => hB.cell (p := ⟨b, o, none⟩) hb
      replace p0 := (hc _ _ hb1).trans p0
      replace p1 := (hc _ _ hb1).trans p1
      replace p2 := (hc _ _ hb1).trans p2
      replace p3 := (hc _ _ hb1).trans p3
      replace q0 := (hc _ _ hb2).trans q0
      replace q1 := (hc _ _ hb2).trans q1
      replace q2 := (hc _ _ hb2).trans q2
      replace q3 := (hc _ _ hb2).trans q3
      have hlt2 : b2 < wr.heap.size := by omega
      generalize (ks[j]).nums.length = nn at *
      generalize (ks[j]).kids.length = nk at *
      generalize (ks[j]).kind = k at *
      generalize (ks[j]).dim = d at *
      subst hkn hkk hln hlk
      have HB := Lib.hid hbA
      clear hB hbA r2 r3 s2 s3 hc
      go_wp2_with fail
      go_region_law (first
        | (go_simp; go_at_call 21; refine H21.out.mono ?_; rintro _ w3 ⟨rfl, hb3⟩))
      all_goals go_wp2_with fail
      all_goals go_roundw
      all_goals first
        | (simp [intOf]; omega; done)
        | exact ⟨j + 1, by omega, by go_num, HB.out.trans (hb3.mono HB.out.size)⟩
    · obtain rfl : j = ks.length := by omega
      have hdl : decide (((ks.length : Nat) : Int) < ks.length) = false := by simp
      have HB := Lib.hid hB
      clear hB
      go_wp2_with fail
      go_ret
      exact ⟨rfl, HB.out⟩
set_option maxHeartbeats 1000000 in
theorem c21 : ∀ (n : Nat) (g : G) (S : Nat → Prop) (vn vk un uk : Value) (w : World), g.size ≤ n → Rd S w (fl g.nums) vn → Rd S w (.list (G.fsL g.kids)) vk → Rd S w (fl g.nums) un → Rd S w (.list (G.fsL g.kids)) uk →
      Calls Tryz.prog 21 #[.agg #[.int .i64 g.kind, .int .i64 g.dim, vn, vk], .agg #[.int .i64 g.kind, .int .i64 g.dim, un, uk]] w fun e w' => e = .returned (.bool true) ∧ Below w.heap.size w w'
  | 0, g, _, _, _, _, _, _, h, _, _, _, _ => by rw [G.size_eq] at h; omega
  | n + 1, g, S, vn, vk, un, uk, w, hn, r1, r2, s1, s2 => by
    rw [G.size_eq] at hn
    have IH : ∀ (j : Nat) (hj : j < g.kids.length) (S : Nat → Prop) (vn vk un uk : Value) (w : World), Rd S w (fl (g.kids[j]).nums) vn → Rd S w (.list (G.fsL (g.kids[j]).kids)) vk → Rd S w (fl (g.kids[j]).nums) un → Rd S w (.list (G.fsL (g.kids[j]).kids)) uk →
      Calls Tryz.prog 21 #[.agg #[.int .i64 (g.kids[j]).kind, .int .i64 (g.kids[j]).dim, vn, vk], .agg #[.int .i64 (g.kids[j]).kind, .int .i64 (g.kids[j]).dim, un, uk]] w fun e w' => e = .returned (.bool true) ∧ Below w.heap.size w w' :=
      fun j hj S vn vk un uk w => c21 n g.kids[j] S vn vk un uk w (by have := G.size_kid g.kids j hj; omega)
    have H55 := fun w' (hb : Below w.heap.size w w') => c55 S g.kids vk uk w' (r2.blw hb) (s2.blw hb) IH
    have H54 := fun w' (hb : Below w.heap.size w w') => c54 S g.nums vn un w' (r1.blw hb) (s1.blw hb)
    replace H55 := Lib.hid H55; replace H54 := Lib.hid H54
    obtain ⟨an, cn, rfl⟩ := fl_shape r1
    obtain ⟨ak, ck, rfl⟩ := kids_shape r2
    obtain ⟨bn, dn, rfl⟩ := fl_shape s1
    obtain ⟨bk, dk, rfl⟩ := kids_shape s2
    have hb0 := bl_a2 w (.cells #[.int .i64 g.kind, .int .i64 g.dim, .slice an g.nums.length cn, .slice ak g.kids.length ck] 25) (.cells #[.int .i64 g.kind, .int .i64 g.dim, .slice bn g.nums.length dn, .slice bk g.kids.length dk] 25)
    have l0 := Lib.hid (Lb.new' w #[.int .i64 g.kind, .int .i64 g.dim, .slice an g.nums.length cn, .slice ak g.kids.length ck] 25 (.cells #[.int .i64 g.kind, .int .i64 g.dim, .slice bn g.nums.length dn, .slice bk g.kids.length dk] 25))
    have l1 := Lib.hid (Lb.new2 w (.cells #[.int .i64 g.kind, .int .i64 g.dim, .slice an g.nums.length cn, .slice ak g.kids.length ck] 25) #[.int .i64 g.kind, .int .i64 g.dim, .slice bn g.nums.length dn, .slice bk g.kids.length dk] 25)
    have HB0 := Lib.hid hb0
    have ha := Lib.hid (H54.out _ hb0)
    clear hb0 IH r1 r2 s1 s2
    go_enter Tryz.func21, Tryz.ntmps21
    go_wp2_with fail
    refine ha.out.mono ?_
    rintro _ w1 ⟨rfl, hb1⟩
    obtain ⟨k0, _, z0⟩ := (l0.out.blw hb1).use
    obtain ⟨k1, _, z1⟩ := (l1.out.blw hb1).use
    have HB1 := Lib.hid (HB0.out.trans (hb1.mono (by simp; omega)))
    clear hb1
    go_wp2_with fail
    refine (H55.out _ HB1.out).mono ?_
    rintro _ w2 ⟨rfl, hb2⟩
    have HB2 := Lib.hid (HB1.out.trans (hb2.mono HB1.out.size))
    clear hb2
    go_wp2_with fail
    go_ret
    exact ⟨rfl, HB2.out⟩
end Go.Proofs.YtahnhhkbdgaidaaGreatDoor
