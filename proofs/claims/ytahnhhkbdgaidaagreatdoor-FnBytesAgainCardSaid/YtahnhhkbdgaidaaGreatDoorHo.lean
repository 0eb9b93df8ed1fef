/-
  FnBytesAgain: the law's own walk.
-/
import Derived.Test.YtahnhhkbdgaidaaGreatDoorHm
namespace Go.Proofs.YtahnhhkbdgaidaaGreatDoor
open Go.RowKit
set_option maxRecDepth 100000
theorem lines01 : ∀ x : UInt8, (x = 0 ∨ x = 1) → LineOk (x.toNat : Int) (x == 1) := fun x hx => by
  rcases hx with rfl | rfl
  · exact lineOk0
  · exact lineOk1
set_option maxHeartbeats 1000000 in
theorem c5_big (l : List UInt8) (a : Option Addr) (c : Nat) (w : World) (h : 2000 < l.length) :
    Calls Tryz.prog 5 #[.slice a l.length c] w fun e w' => e = .returned (.bool true) ∧ Below w.heap.size w w' := by
  by_cases h2 : 2147483647 < l.length
  · have hb : decide ((2147483647 : Int) < (l.length : Int)) = true := decide_eq_true (by omega)
    go_enter Tryz.func5, Tryz.ntmps5
    go_wp2_with fail
    go_ret
    exact ⟨rfl, Below.refl _ _⟩
  · have hb : decide ((2147483647 : Int) < (l.length : Int)) = false := decide_eq_false (by omega)
    have hb2 : decide ((2000 : Int) < (l.length : Int)) = true := decide_eq_true (by omega)
    go_enter Tryz.func5, Tryz.ntmps5
    go_wp2_with fail
    go_ret
    exact ⟨rfl, Below.refl _ _⟩
set_option maxHeartbeats 4000000 in
theorem c5_main (l : List UInt8) (a : Option Addr) (c : Nat) (w : World) (hl : l.length ≤ 2000)
    (H16 : Calls Tryz.prog 16 #[.slice a l.length c] w fun e w' => ∃ b : Bool, e = .returned (.bool b) ∧ Below w.heap.size w w')
    (H17 : ∀ w', Below w.heap.size w w' → Calls Tryz.prog 17 #[.slice a l.length c] w' (ReadR l w'))
    (H9 : ∀ (g : G) (vn vk : Value) (w : World), Rd (fun _ => True) w (fl g.nums) vn → Rd (fun _ => True) w (.list (G.fsL g.kids)) vk → Calls Tryz.prog 9 #[.agg #[.int .i64 g.kind, .int .i64 g.dim, vn, vk], .func (.func 18) #[] #[]] w fun e w' => e = .returned (.bool (numB g)) ∧ Below w.heap.size w w')
    (H19 : ∀ (m : G) (b r : List UInt8) (w' : World), l = b ++ r → m.ok → Enc (fun x => x = 0 ∨ x = 1) m b → Below w.heap.size w w' → Calls Tryz.prog 19 #[.slice a l.length c, .bool false] w' fun e w'' => ∃ x, e = .returned (.tuple #[x, .bool true]) ∧ NewR (fun _ => True) w' (geoOf m).toG (.returned x) w'')
    (H20 : ∀ (g : G) (vn vk : Value) (w : World), g.ok → (newG g).fit → (wkB (geoOf g)).length ≤ 8000000000000 → Rd (fun _ => True) w (fl g.nums) vn → Rd (fun _ => True) w (.list (G.fsL g.kids)) vk → Calls Tryz.prog 20 #[.agg #[.int .i64 g.kind, .int .i64 g.dim, vn, vk]] w fun e w' => ∃ v', e = .returned v' ∧ Out w v' (wkB (geoOf g)) w')
    (H19b : ∀ (m : G) (B : List UInt8) (v : Value) (w' : World), m.ok → Enc (· = 1) m B → By w' v B → Calls Tryz.prog 19 #[v, .bool false] w' fun e w'' => ∃ x, e = .returned (.tuple #[x, .bool true]) ∧ NewR (fun _ => True) w' (geoOf m).toG (.returned x) w'')
    (H21 : ∀ (g : G) (vn vk un uk : Value) (w : World), Rd (fun _ => True) w (fl g.nums) vn → Rd (fun _ => True) w (.list (G.fsL g.kids)) vk → Rd (fun _ => True) w (fl g.nums) un → Rd (fun _ => True) w (.list (G.fsL g.kids)) uk →
      Calls Tryz.prog 21 #[.agg #[.int .i64 g.kind, .int .i64 g.dim, vn, vk], .agg #[.int .i64 g.kind, .int .i64 g.dim, un, uk]] w fun e w' => e = .returned (.bool true) ∧ Below w.heap.size w w') :
    Calls Tryz.prog 5 #[.slice a l.length c] w fun e w' => e = .returned (.bool true) ∧ Below w.heap.size w w' := by
  have hb1 : decide ((2147483647 : Int) < (l.length : Int)) = false := decide_eq_false (by omega)
  have hb2 : decide ((2000 : Int) < (l.length : Int)) = false := decide_eq_false (by omega)
  replace H16 := Lib.hid H16; replace H17 := Lib.hid H17; replace H9 := Lib.hid H9; replace H19 := Lib.hid H19; replace H20 := Lib.hid H20; replace H19b := Lib.hid H19b; replace H21 := Lib.hid H21
  go_enter Tryz.func5, Tryz.ntmps5
  go_wp2_with fail
  refine H16.out.mono ?_
  rintro _ w1 ⟨asked, rfl, hw1⟩
  have HB1 := Lib.hid hw1
  have H17a := Lib.hid (H17.out w1 hw1)
  clear hw1 H16 H17
  cases asked
  · go_wp2_with fail
    go_ret
    exact ⟨rfl, HB1.out⟩
  go_wp2_with fail
  refine H17a.out.mono ?_
  rintro _ w2 ⟨hw2, hr⟩
  have HB2 := Lib.hid (HB1.out.trans (hw2.mono HB1.out.size))
  clear hw2 HB1 H17a
  rcases hr with rfl | ⟨m, b, r, x, rfl, ⟨a1, c1, a2, c2, hx, hr1, hr2, _⟩, hlb, henc, hev, hwt⟩
  · go_wp2_with fail
    go_ret
    exact ⟨rfl, HB2.out.alloc HB2.out.size _⟩
  obtain rfl := Ending.returned.inj hx
  have bA := bl_a1 w2 (.cells #[.int .i64 (newG m).kind, .int .i64 (newG m).dim, .slice a1 (newG m).nums.length c1, .slice a2 (newG m).kids.length c2] 25)
  have H9a := Lib.hid (H9.out (newG m) _ _ _ (hr1.blw bA) (hr2.blw bA))
  have HBA := Lib.hid (HB2.out.trans (bA.mono HB2.out.size))
  have HM : Hid (l = b ++ r ∧ Enc (fun x => x = 0 ∨ x = 1) m b ∧ m.every eightQ ∧ m.wt ≤ l.length + 1) := Lib.hid ⟨hlb, henc, hev, hwt⟩
  clear hx hr1 hr2 bA hlb henc hev hwt H9
  cases hnum : numB (newG m)
  · rw [hnum] at H9a
    clear hnum
    go_wp2_with fail
    refine H9a.out.mono ?_
    rintro _ w3 ⟨rfl, hw3⟩
    have HB3 := Lib.hid (HBA.out.trans (hw3.mono HBA.out.size))
    clear hw3
    go_wp2_with fail
    go_ret
    exact ⟨rfl, HB3.out⟩
  rw [hnum] at H9a
  have HLAW := Lib.hid (again_law m (by have := HM.out.2.2.2; omega) HM.out.2.2.1 hnum)
  clear hnum
  go_wp2_with fail
  refine H9a.out.mono ?_
  rintro _ w3 ⟨rfl, hw3⟩
  have HB3 := Lib.hid (HBA.out.trans (hw3.mono HBA.out.size))
  have H19a := Lib.hid (H19.out m b r w3 HM.out.1 HLAW.out.1 HM.out.2.1 HB3.out)
  rw [HLAW.out.2.2.2.2.2.2] at H19a
  clear hw3 H9a HBA H19
  go_wp2_with fail
  refine H19a.out.mono ?_
  rintro _ w4 ⟨x, rfl, a3, c3, a4, c4, hx, hr1, hr2, hw4⟩
  obtain rfl := Ending.returned.inj hx
  have bA := bl_a1 w4 (.cells #[.int .i64 (newG m).kind, .int .i64 (newG m).dim, .slice a3 (newG m).nums.length c3, .slice a4 (newG m).kids.length c4] 25)
  have H20a := Lib.hid (H20.out (newG m) _ _ _ HLAW.out.2.1 (by rw [newG_of_good _ (newG_good m)]; exact HLAW.out.2.2.1) (by have := HLAW.out.2.2.2.1; omega) (hr1.blw bA) (hr2.blw bA))
  have HB4 := Lib.hid ((HB3.out.trans (hw4.mono HB3.out.size)).trans (bA.mono (by have := HB3.out.size; have := hw4.size; omega)))
  have HL4 := Lib.hid (Lb.new w4 #[.int .i64 (newG m).kind, .int .i64 (newG m).dim, .slice a3 (newG m).nums.length c3, .slice a4 (newG m).kids.length c4] 25)
  have HR1 := Lib.hid (hr1.blw bA); have HR2 := Lib.hid (hr2.blw bA)
  clear hx hr1 hr2 hw4 bA H19a HB3 H20
  go_wp2_with fail
  refine H20a.out.mono ?_
  rintro _ w5 ⟨v5, rfl, hO⟩
  have hw5 := hO.below
  have Hby := Lib.hid (hO.by HLAW.out.2.2.2.2.1.ne (by have := HLAW.out.2.2.2.1; omega))
  have HB5 := Lib.hid (HB4.out.trans (hw5.mono HB4.out.size))
  have HL5 := Lib.hid (HL4.out.blw hw5)
  have HR1b := Lib.hid (HR1.out.blw hw5); have HR2b := Lib.hid (HR2.out.blw hw5)
  have H19c := Lib.hid (H19b.out (newG m) _ v5 w5 HLAW.out.2.1 HLAW.out.2.2.2.2.1 Hby.out)
  rw [HLAW.out.2.2.2.2.2.1] at H19c
  obtain ⟨bb, ob, cb, hv5, _⟩ := Hby.out
  subst hv5
  clear hO hw5 HB4 HL4 HR1 HR2 H20a H19b
  go_wp2_with fail
  refine H19c.out.mono ?_
  rintro _ w6 ⟨x, rfl, a5, c5, a6, c6, hx, hr1, hr2, hw6⟩
  obtain rfl := Ending.returned.inj hx
  have bA := bl_a1 w6 (.cells #[.int .i64 (newG m).kind, .int .i64 (newG m).dim, .slice a5 (newG m).nums.length c5, .slice a6 (newG m).kids.length c6] 25)
  have H21a := Lib.hid (H21.out (newG m) _ _ _ _ _ ((HR1b.out.blw hw6).blw bA) ((HR2b.out.blw hw6).blw bA) (hr1.blw bA) (hr2.blw bA))
  have HB6 := Lib.hid ((HB5.out.trans (hw6.mono HB5.out.size)).trans (bA.mono (by have := HB5.out.size; have := hw6.size; omega)))
  obtain ⟨k5, _, l5⟩ := (HL5.out.blw hw6).use
  clear hx hr1 hr2 hw6 bA H19c HB5 HL5
  go_wp2_with fail
  refine H21a.out.mono ?_
  rintro _ w7 ⟨rfl, hw7⟩
  have HB7 := Lib.hid (HB6.out.trans (hw7.mono HB6.out.size))
  clear hw7
  go_wp2_with fail
  go_ret
  exact ⟨rfl, HB7.out⟩
/-- What reads without NaN, written anew, reads as the same. -/
theorem c5 (v : Value) (l : List UInt8) (w : World) (h : Bz w v l) : Calls Tryz.prog 5 #[v] w fun e w' => e = .returned (.bool true) ∧ Below w.heap.size w w' := by
  have hz := h
  obtain ⟨a, c, rfl, _, _⟩ := h
  rcases Nat.lt_or_ge 2000 l.length with hl | hl
  · exact c5_big l a c w hl
  · exact c5_main l a c w hl (c16 _ l w (by omega) hz) (fun w' hb => c17 _ l w' (by omega) (hz.blw hb))
      (fun g vn vk w hn hk => d9n (fun _ => True) g.size g vn vk w (Nat.le_refl _) hn hk)
      (fun m b r w' e hok he hb => c19r (fun x => x = 0 ∨ x = 1) (fun _ h => h) lines01 (fun _ => True) m b r l e _ w' hok he (fun _ _ => trivial) ((hz.blw hb).by (by rw [e]; have := he.ne; simp; omega) (by omega)))
      (fun g vn vk w h1 h2 h3 h4 h5 => c20 g vn vk w h1 h2 h3 h4 h5)
      (fun m B v w' hok he hv => c19 (· = 1) (fun x hx => .inr hx) (fun x hx => by subst hx; exact lineOk1) (fun _ => True) m B v w' hok he (fun _ _ => trivial) hv)
      (fun g vn vk un uk w h1 h2 h3 h4 => c21 g.size g (fun _ => True) vn vk un uk w (Nat.le_refl _) h1 h2 h3 h4)
end Go.Proofs.YtahnhhkbdgaidaaGreatDoor
