/-
  GeoJSON: WriteJSON.
-/
import Derived.Test.YtahnhhkbdgaidaaGreatDoorDj
import Derived.Test.YtahnhhkbdgaidaaGreatDoorBx
namespace Go.Proofs.YtahnhhkbdgaidaaGreatDoor
open Go.RowKit
set_option maxRecDepth 100000
/-- A text that was written since w, in new blocks. -/
def Out (w : World) (v : Value) (out : List UInt8) (w' : World) : Prop := ∃ W, Below w.heap.size w W ∧ Bf W.heap.size W none v out w'
theorem Out.step {w w1 w2 : World} {v : Value} {out : List UInt8} (h : Out w v out w1) (hb : Below w1.heap.size w1 w2) : Out w v out w2 := let ⟨W, h1, h2⟩ := h; ⟨W, h1, h2.step hb⟩
theorem Out.below {w w1 : World} {v : Value} {out : List UInt8} (h : Out w v out w1) : Below w.heap.size w w1 := let ⟨_, h1, h2⟩ := h; h1.trans (h2.below'.mono h1.size)
theorem Out.str {w w1 : World} {v : Value} {out : List UInt8} (h : Out w v out w1) : (convert 32 9 v).run Tryz.prog w1 = .ok (.string ⟨out.toArray⟩) w1 := let ⟨_, _, h2⟩ := h; h2.str
theorem Out.from {w w0 w1 : World} {v : Value} {out : List UInt8} (h : Out w0 v out w1) (hb : Below w.heap.size w w0) : Out w v out w1 := let ⟨W, h1, h2⟩ := h; ⟨W, hb.trans (h1.mono hb.size), h2⟩
set_option maxHeartbeats 1000000 in
theorem c14_1 (out : List UInt8) (P : Value → World → Prop) (d : Int) (vn vk : Value) (w : World)
    (HF : ∀ w1, Below w.heap.size w w1 → Calls Tryz.prog 35 #[.agg #[.int .i64 1, .int .i64 d, vn, vk]] w1 fun e w' => ∃ u, e = .returned u ∧ P u w' ∧ Below w1.heap.size w1 w')
    (HJ : ∀ u w1, P u w1 → Below w.heap.size w w1 → Calls Tryz.prog 36 #[u] w1 fun e w2 => ∃ v', e = .returned (.tuple #[v', .nilIface]) ∧ Bf w1.heap.size w1 none v' out w2) :
    Calls Tryz.prog 14 #[.agg #[.int .i64 1, .int .i64 d, vn, vk]] w fun e w' => ∃ v', e = .returned (.tuple #[v', .bool true]) ∧ Out w v' out w' := by
  have HB := Lib.hid (bl_a1 w (.cells #[.int .i64 1, .int .i64 d, vn, vk] 25))
  have HM := Lib.hid (HF _ HB.out)
  have HJ := Lib.hid HJ
  clear HF
  go_enter Tryz.func14, Tryz.ntmps14
  go_wp2_with fail
  refine HM.out.mono ?_
  rintro _ w1 ⟨u, rfl, hP, hb1⟩
  replace HB := Lib.hid (HB.out.trans (hb1.mono (by simp)))
  have HP := Lib.hid hP
  clear hb1 hP HM
  go_wp2_with fail
  refine (HJ.out _ _ HP.out HB.out).mono ?_
  rintro _ w2 ⟨v', rfl, hx2⟩
  have HO : Hid (Out w v' out w2) := Lib.hid ⟨w1, HB.out, hx2⟩
  clear hx2 HP HJ HB
  go_wp2_with fail
  refine (c34 _ _).mono ?_
  rintro _ w3 ⟨rfl, hb3⟩
  replace HO := Lib.hid (HO.out.step hb3)
  clear hb3
  go_wp2_with fail
  exact bodyPost_ret (v := .tuple #[v', .bool true]) (by simp [results, Tryz.results14, go_sem]) rfl ⟨v', rfl, HO.out⟩
set_option maxHeartbeats 1000000 in
theorem c14_2 (out : List UInt8) (P : Value → World → Prop) (d : Int) (vn vk : Value) (w : World)
    (HF : ∀ w1, Below w.heap.size w w1 → Calls Tryz.prog 37 #[.agg #[.int .i64 2, .int .i64 d, vn, vk]] w1 fun e w' => ∃ u, e = .returned u ∧ P u w' ∧ Below w1.heap.size w1 w')
    (HJ : ∀ u w1, P u w1 → Below w.heap.size w w1 → Calls Tryz.prog 38 #[u] w1 fun e w2 => ∃ v', e = .returned (.tuple #[v', .nilIface]) ∧ Bf w1.heap.size w1 none v' out w2) :
    Calls Tryz.prog 14 #[.agg #[.int .i64 2, .int .i64 d, vn, vk]] w fun e w' => ∃ v', e = .returned (.tuple #[v', .bool true]) ∧ Out w v' out w' := by
  have HB := Lib.hid (bl_a1 w (.cells #[.int .i64 2, .int .i64 d, vn, vk] 25))
  have HM := Lib.hid (HF _ HB.out)
  have HJ := Lib.hid HJ
  clear HF
  go_enter Tryz.func14, Tryz.ntmps14
  go_wp2_with fail
  refine HM.out.mono ?_
  rintro _ w1 ⟨u, rfl, hP, hb1⟩
  replace HB := Lib.hid (HB.out.trans (hb1.mono (by simp)))
  have HP := Lib.hid hP
  clear hb1 hP HM
  go_wp2_with fail
  refine (HJ.out _ _ HP.out HB.out).mono ?_
  rintro _ w2 ⟨v', rfl, hx2⟩
  have HO : Hid (Out w v' out w2) := Lib.hid ⟨w1, HB.out, hx2⟩
  clear hx2 HP HJ HB
  go_wp2_with fail
  refine (c34 _ _).mono ?_
  rintro _ w3 ⟨rfl, hb3⟩
  replace HO := Lib.hid (HO.out.step hb3)
  clear hb3
  go_wp2_with fail
  exact bodyPost_ret (v := .tuple #[v', .bool true]) (by simp [results, Tryz.results14, go_sem]) rfl ⟨v', rfl, HO.out⟩
set_option maxHeartbeats 1000000 in
theorem c14_3 (out : List UInt8) (P : Value → World → Prop) (d : Int) (vn vk : Value) (w : World)
    (HF : ∀ w1, Below w.heap.size w w1 → Calls Tryz.prog 39 #[.agg #[.int .i64 3, .int .i64 d, vn, vk]] w1 fun e w' => ∃ u, e = .returned u ∧ P u w' ∧ Below w1.heap.size w1 w')
    (HJ : ∀ u w1, P u w1 → Below w.heap.size w w1 → Calls Tryz.prog 40 #[u] w1 fun e w2 => ∃ v', e = .returned (.tuple #[v', .nilIface]) ∧ Bf w1.heap.size w1 none v' out w2) :
    Calls Tryz.prog 14 #[.agg #[.int .i64 3, .int .i64 d, vn, vk]] w fun e w' => ∃ v', e = .returned (.tuple #[v', .bool true]) ∧ Out w v' out w' := by
  have HB := Lib.hid (bl_a1 w (.cells #[.int .i64 3, .int .i64 d, vn, vk] 25))
  have HM := Lib.hid (HF _ HB.out)
  have HJ := Lib.hid HJ
  clear HF
  go_enter Tryz.func14, Tryz.ntmps14
  go_wp2_with fail
  refine HM.out.mono ?_
  rintro _ w1 ⟨u, rfl, hP, hb1⟩
  replace HB := Lib.hid (HB.out.trans (hb1.mono (by simp)))
  have HP := Lib.hid hP
  clear hb1 hP HM
  go_wp2_with fail
  refine (HJ.out _ _ HP.out HB.out).mono ?_
  rintro _ w2 ⟨v', rfl, hx2⟩
  have HO : Hid (Out w v' out w2) := Lib.hid ⟨w1, HB.out, hx2⟩
  clear hx2 HP HJ HB
  go_wp2_with fail
  refine (c34 _ _).mono ?_
  rintro _ w3 ⟨rfl, hb3⟩
  replace HO := Lib.hid (HO.out.step hb3)
  clear hb3
  go_wp2_with fail
  exact bodyPost_ret (v := .tuple #[v', .bool true]) (by simp [results, Tryz.results14, go_sem]) rfl ⟨v', rfl, HO.out⟩
set_option maxHeartbeats 1000000 in
theorem c14_4 (out : List UInt8) (P : Value → World → Prop) (d : Int) (vn vk : Value) (w : World)
    (HF : ∀ w1, Below w.heap.size w w1 → Calls Tryz.prog 41 #[.agg #[.int .i64 4, .int .i64 d, vn, vk]] w1 fun e w' => ∃ u, e = .returned u ∧ P u w' ∧ Below w1.heap.size w1 w')
    (HJ : ∀ u w1, P u w1 → Below w.heap.size w w1 → Calls Tryz.prog 42 #[u] w1 fun e w2 => ∃ v', e = .returned (.tuple #[v', .nilIface]) ∧ Bf w1.heap.size w1 none v' out w2) :
    Calls Tryz.prog 14 #[.agg #[.int .i64 4, .int .i64 d, vn, vk]] w fun e w' => ∃ v', e = .returned (.tuple #[v', .bool true]) ∧ Out w v' out w' := by
  have HB := Lib.hid (bl_a1 w (.cells #[.int .i64 4, .int .i64 d, vn, vk] 25))
  have HM := Lib.hid (HF _ HB.out)
  have HJ := Lib.hid HJ
  clear HF
  go_enter Tryz.func14, Tryz.ntmps14
  go_wp2_with fail
  refine HM.out.mono ?_
  rintro _ w1 ⟨u, rfl, hP, hb1⟩
  replace HB := Lib.hid (HB.out.trans (hb1.mono (by simp)))
  have HP := Lib.hid hP
  clear hb1 hP HM
  go_wp2_with fail
  refine (HJ.out _ _ HP.out HB.out).mono ?_
  rintro _ w2 ⟨v', rfl, hx2⟩
  have HO : Hid (Out w v' out w2) := Lib.hid ⟨w1, HB.out, hx2⟩
  clear hx2 HP HJ HB
  go_wp2_with fail
  refine (c34 _ _).mono ?_
  rintro _ w3 ⟨rfl, hb3⟩
  replace HO := Lib.hid (HO.out.step hb3)
  clear hb3
  go_wp2_with fail
  exact bodyPost_ret (v := .tuple #[v', .bool true]) (by simp [results, Tryz.results14, go_sem]) rfl ⟨v', rfl, HO.out⟩
set_option maxHeartbeats 1000000 in
theorem c14_5 (out : List UInt8) (P : Value → World → Prop) (d : Int) (vn vk : Value) (w : World)
    (HF : ∀ w1, Below w.heap.size w w1 → Calls Tryz.prog 43 #[.agg #[.int .i64 5, .int .i64 d, vn, vk]] w1 fun e w' => ∃ u, e = .returned u ∧ P u w' ∧ Below w1.heap.size w1 w')
    (HJ : ∀ u w1, P u w1 → Below w.heap.size w w1 → Calls Tryz.prog 44 #[u] w1 fun e w2 => ∃ v', e = .returned (.tuple #[v', .nilIface]) ∧ Bf w1.heap.size w1 none v' out w2) :
    Calls Tryz.prog 14 #[.agg #[.int .i64 5, .int .i64 d, vn, vk]] w fun e w' => ∃ v', e = .returned (.tuple #[v', .bool true]) ∧ Out w v' out w' := by
  have HB := Lib.hid (bl_a1 w (.cells #[.int .i64 5, .int .i64 d, vn, vk] 25))
  have HM := Lib.hid (HF _ HB.out)
  have HJ := Lib.hid HJ
  clear HF
  go_enter Tryz.func14, Tryz.ntmps14
  go_wp2_with fail
  refine HM.out.mono ?_
  rintro _ w1 ⟨u, rfl, hP, hb1⟩
  replace HB := Lib.hid (HB.out.trans (hb1.mono (by simp)))
  have HP := Lib.hid hP
  clear hb1 hP HM
  go_wp2_with fail
  refine (HJ.out _ _ HP.out HB.out).mono ?_
  rintro _ w2 ⟨v', rfl, hx2⟩
  have HO : Hid (Out w v' out w2) := Lib.hid ⟨w1, HB.out, hx2⟩
  clear hx2 HP HJ HB
  go_wp2_with fail
  refine (c34 _ _).mono ?_
  rintro _ w3 ⟨rfl, hb3⟩
  replace HO := Lib.hid (HO.out.step hb3)
  clear hb3
  go_wp2_with fail
  exact bodyPost_ret (v := .tuple #[v', .bool true]) (by simp [results, Tryz.results14, go_sem]) rfl ⟨v', rfl, HO.out⟩
set_option maxHeartbeats 1000000 in
theorem c14_6 (out : List UInt8) (P : Value → World → Prop) (d : Int) (vn vk : Value) (w : World)
    (HF : ∀ w1, Below w.heap.size w w1 → Calls Tryz.prog 45 #[.agg #[.int .i64 6, .int .i64 d, vn, vk]] w1 fun e w' => ∃ u, e = .returned u ∧ P u w' ∧ Below w1.heap.size w1 w')
    (HJ : ∀ u w1, P u w1 → Below w.heap.size w w1 → Calls Tryz.prog 46 #[u] w1 fun e w2 => ∃ v', e = .returned (.tuple #[v', .nilIface]) ∧ Bf w1.heap.size w1 none v' out w2) :
    Calls Tryz.prog 14 #[.agg #[.int .i64 6, .int .i64 d, vn, vk]] w fun e w' => ∃ v', e = .returned (.tuple #[v', .bool true]) ∧ Out w v' out w' := by
  have HB := Lib.hid (bl_a1 w (.cells #[.int .i64 6, .int .i64 d, vn, vk] 25))
  have HM := Lib.hid (HF _ HB.out)
  have HJ := Lib.hid HJ
  clear HF
  go_enter Tryz.func14, Tryz.ntmps14
  go_wp2_with fail
  refine HM.out.mono ?_
  rintro _ w1 ⟨u, rfl, hP, hb1⟩
  replace HB := Lib.hid (HB.out.trans (hb1.mono (by simp)))
  have HP := Lib.hid hP
  clear hb1 hP HM
  go_wp2_with fail
  refine (HJ.out _ _ HP.out HB.out).mono ?_
  rintro _ w2 ⟨v', rfl, hx2⟩
  have HO : Hid (Out w v' out w2) := Lib.hid ⟨w1, HB.out, hx2⟩
  clear hx2 HP HJ HB
  go_wp2_with fail
  refine (c34 _ _).mono ?_
  rintro _ w3 ⟨rfl, hb3⟩
  replace HO := Lib.hid (HO.out.step hb3)
  clear hb3
  go_wp2_with fail
  exact bodyPost_ret (v := .tuple #[v', .bool true]) (by simp [results, Tryz.results14, go_sem]) rfl ⟨v', rfl, HO.out⟩
/-- The GeoJSON of a geometry. -/
def jgeoB (f : Nat → List UInt8) : Geo → List UInt8
  | .pt p => jhdPt ++ jptB f p ++ [125]
  | .ln l => jhdLn ++ jlnB f l ++ [125]
  | .pg p => jhdPg ++ jpgB f p.rings ++ [125]
  | .mp ps _ => jhdMp ++ jmid f ps ps.length ++ [93, 125]
  | .ml ls _ => jhdMl ++ jpgB f ls ++ [125]
  | .mg ps _ => jhdMg ++ jmpB f (ps.map Pg.rings) ++ [125]
  | .gc _ _ => []
set_option maxHeartbeats 1000000 in
theorem c14 (tab : Nat → Int) (f : Nat → List UInt8) (hF : PrintsJ tab f) (S : Nat → Prop) (g : G) (hok : g.ok) (k0 : 1 ≤ g.kind) (k1 : g.kind ≤ 6) (vn vk : Value) (w : World) (hT : Tabs tab w) (h6 : 6 < w.heap.size)
    (hlen : (jgeoB f (geoOf g)).length ≤ 70000000000000) (hn : Rd S w (fl g.nums) vn) (hk : Rd S w (.list (G.fsL g.kids)) vk) :
    Calls Tryz.prog 14 #[.agg #[.int .i64 g.kind, .int .i64 g.dim, vn, vk]] w fun e w' => ∃ v', e = .returned (.tuple #[v', .bool true]) ∧ Out w v' (jgeoB f (geoOf g)) w' := by
  have hgo := geoOf_ok g hok
  rw [G.ok_eq] at hok
  obtain ⟨hok1, hok2, hok3⟩ := hok
  rw [geoOf_eq] at hlen hgo ⊢
  generalize g.kind = kd at *
  generalize g.dim = d at *
  generalize g.nums = ns at *
  generalize g.kids = ks at *
  clear g
  replace hn : Rd (fun _ => True) w (fl ns) vn := hn.mono fun _ _ _ => trivial
  replace hk : Rd (fun _ => True) w (.list (G.fsL ks)) vk := hk.mono fun _ _ _ => trivial
  have h6' : ∀ w1, Below w.heap.size w w1 → 6 < w1.heap.size := fun w1 hb => Nat.lt_of_lt_of_le h6 hb.size
  have hc : kd = 1 ∨ kd = 2 ∨ kd = 3 ∨ kd = 4 ∨ kd = 5 ∨ kd = 6 := by omega
  rcases hc with rfl | rfl | rfl | rfl | rfl | rfl
  · have e : flatGeo 1 d ns ks (gather d (ks.map geoOf)) = .pt (pointOf 1 d ns) := by simp [flatGeo]
    rw [e] at hlen hgo ⊢
    simp only [jgeoB, Geo.ok, List.length_append] at hlen hgo ⊢
    obtain ⟨ak, ck, rfl⟩ := kids_shape hk
    exact c14_1 _ (fun u _ => u = .agg (pointOf 1 d ns).cells) d vn _ w
      (fun w1 hb => (c35 _ 1 d ns vn ak _ ck w1 (fun _ _ => trivial) (hn.blw hb)).mono fun e w' ⟨he, hb'⟩ => ⟨_, he, rfl, hb'⟩)
      (fun u w1 hu hb => by subst hu; exact c36 tab f hF (pointOf 1 d ns) w1 (hT.blw hb) (h6' w1 hb) hgo)
  · have e : flatGeo 2 d ns ks (gather d (ks.map geoOf)) = .ln (lineOf 2 d ns) := by simp [flatGeo]
    rw [e] at hlen hgo ⊢
    simp only [jgeoB, Geo.ok, List.length_append] at hlen hgo ⊢
    obtain ⟨ak, ck, rfl⟩ := kids_shape hk
    exact c14_2 _ (fun u w' => ∃ a c, u = .agg #[.int .u8 (lineOf 2 d ns).t, .slice a (lineOf 2 d ns).xs.length c] ∧ Rd (fun _ => True) w' (fl (lineOf 2 d ns).xs) (.slice a (lineOf 2 d ns).xs.length c)) d vn _ w
      (fun w1 hb => (c37 _ 2 d ns vn ak _ ck w1 (fun _ _ => trivial) (hn.blw hb)).mono fun e w' ⟨a, c, he, hr, hb'⟩ => ⟨_, he, ⟨a, c, rfl, hr⟩, hb'⟩)
      (fun u w1 hu hb => by obtain ⟨a, c, rfl, hr⟩ := hu; exact c38 tab f hF _ (lineOf 2 d ns) a c w1 (hT.blw hb) (h6' w1 hb) (by omega) hgo hr)
  · have e : flatGeo 3 d ns ks (gather d (ks.map geoOf)) = .pg (ringsOf 3 d ks) := by simp [flatGeo]
    rw [e] at hlen hgo ⊢
    simp only [jgeoB, Geo.ok, List.length_append] at hlen hgo ⊢
    obtain ⟨an, cn, rfl⟩ := fl_shape hn
    exact c14_3 _ (fun u w' => ∃ a c, u = .agg #[.slice a (ringsOf 3 d ks).rings.length c, .int .u8 (ringsOf 3 d ks).t] ∧ Rd (fun _ => True) w' (.list ((ringsOf 3 d ks).rings.map Ln.fs)) (.slice a (ringsOf 3 d ks).rings.length c)) d _ vk w
      (fun w1 hb => (c39' _ 3 d ks an _ cn vk w1 hok2 hok3 (fun _ _ => trivial) (hk.blw hb)).mono fun e w' ⟨a, c, he, hr, hb'⟩ => ⟨_, he, ⟨a, c, rfl, hr⟩, hb'⟩)
      (fun u w1 hu hb => by obtain ⟨a, c, rfl, hr⟩ := hu; exact c40 tab f hF _ (ringsOf 3 d ks).rings _ a c w1 (hT.blw hb) (h6' w1 hb) (by omega) hgo.2.1 hgo.1 hr)
  · have e : flatGeo 4 d ns ks (gather d (ks.map geoOf)) = .mp (joined ptT Pt.force d (partsOf ((4 : Int) == 4) 1 pointG ks)).1 (joined ptT Pt.force d (partsOf ((4 : Int) == 4) 1 pointG ks)).2 := by simp [flatGeo]
    rw [e] at hlen hgo ⊢
    simp only [jgeoB, Geo.ok, List.length_append] at hlen hgo ⊢
    obtain ⟨an, cn, rfl⟩ := fl_shape hn
    exact c14_4 _ (fun u w' => ∃ a c, u = .agg #[.slice a (joined ptT Pt.force d (partsOf ((4 : Int) == 4) 1 pointG ks)).1.length c, .int .u8 (joined ptT Pt.force d (partsOf ((4 : Int) == 4) 1 pointG ks)).2] ∧ Rd (fun _ => True) w' (.list ((joined ptT Pt.force d (partsOf ((4 : Int) == 4) 1 pointG ks)).1.map Pt.fs)) (.slice a (joined ptT Pt.force d (partsOf ((4 : Int) == 4) 1 pointG ks)).1.length c)) d _ vk w
      (fun w1 hb => (c41 _ 4 d ks an _ cn vk w1 hok2 hok3 (fun _ _ => trivial) (hk.blw hb)).mono fun e w' ⟨a, c, he, hr, hb'⟩ => ⟨_, he, ⟨a, c, rfl, hr⟩, hb'⟩)
      (fun u w1 hu hb => by obtain ⟨a, c, rfl, hr⟩ := hu; exact c42 tab f hF _ _ _ a c w1 (hT.blw hb) (h6' w1 hb) (by omega) hgo.1 hr)
  · have e : flatGeo 5 d ns ks (gather d (ks.map geoOf)) = .ml (joined lnT Ln.force d (partsOf ((5 : Int) == 5) 2 lineG ks)).1 (joined lnT Ln.force d (partsOf ((5 : Int) == 5) 2 lineG ks)).2 := by simp [flatGeo]
    rw [e] at hlen hgo ⊢
    simp only [jgeoB, Geo.ok, List.length_append] at hlen hgo ⊢
    obtain ⟨an, cn, rfl⟩ := fl_shape hn
    exact c14_5 _ (fun u w' => ∃ a c, u = .agg #[.slice a (joined lnT Ln.force d (partsOf ((5 : Int) == 5) 2 lineG ks)).1.length c, .int .u8 (joined lnT Ln.force d (partsOf ((5 : Int) == 5) 2 lineG ks)).2] ∧ Rd (fun _ => True) w' (.list ((joined lnT Ln.force d (partsOf ((5 : Int) == 5) 2 lineG ks)).1.map Ln.fs)) (.slice a (joined lnT Ln.force d (partsOf ((5 : Int) == 5) 2 lineG ks)).1.length c)) d _ vk w
      (fun w1 hb => (c43 _ 5 d ks an _ cn vk w1 hok2 hok3 (fun _ _ => trivial) (hk.blw hb)).mono fun e w' ⟨a, c, he, hr, hb'⟩ => ⟨_, he, ⟨a, c, rfl, hr⟩, hb'⟩)
      (fun u w1 hu hb => by obtain ⟨a, c, rfl, hr⟩ := hu; exact c44 tab f hF _ _ _ a c w1 (hT.blw hb) (h6' w1 hb) (by omega) hgo.2.1 hgo.1 hr)
  · have e : flatGeo 6 d ns ks (gather d (ks.map geoOf)) = .mg (joined pgT Pg.force d (partsOf ((6 : Int) == 6) 3 polyG ks)).1 (joined pgT Pg.force d (partsOf ((6 : Int) == 6) 3 polyG ks)).2 := by simp [flatGeo]
    rw [e] at hlen hgo ⊢
    simp only [jgeoB, Geo.ok, List.length_append] at hlen hgo ⊢
    obtain ⟨an, cn, rfl⟩ := fl_shape hn
    exact c14_6 _ (fun u w' => ∃ a c, u = .agg #[.slice a (joined pgT Pg.force d (partsOf ((6 : Int) == 6) 3 polyG ks)).1.length c, .int .u8 (joined pgT Pg.force d (partsOf ((6 : Int) == 6) 3 polyG ks)).2] ∧ Rd (fun _ => True) w' (.list ((joined pgT Pg.force d (partsOf ((6 : Int) == 6) 3 polyG ks)).1.map Pg.fs)) (.slice a (joined pgT Pg.force d (partsOf ((6 : Int) == 6) 3 polyG ks)).1.length c)) d _ vk w
      (fun w1 hb => (c45 _ 6 d ks an _ cn vk w1 hok2 hok3 (fun _ _ => trivial) (hk.blw hb)).mono fun e w' ⟨a, c, he, hr, hb'⟩ => ⟨_, he, ⟨a, c, rfl, hr⟩, hb'⟩)
      (fun u w1 hu hb => by obtain ⟨a, c, rfl, hr⟩ := hu; exact c46 tab f hF _ _ _ a c w1 (hT.blw hb) (h6' w1 hb) (by omega) hgo.2.1 (fun p hp => (hgo.1 p hp).2.1) (fun p hp => (hgo.1 p hp).1) hr)
end Go.Proofs.YtahnhhkbdgaidaaGreatDoor
