/-
  A text as data that lasts; the geometry forced to another type, as plain data.
-/
import Derived.Test.YtahnhhkbdgaidaaGreatDoorDt
import Derived.Test.YtahnhhkbdgaidaaGreatDoorDk
namespace Go.Proofs.YtahnhhkbdgaidaaGreatDoor
open Go.RowKit
set_option maxRecDepth 100000
/-- Bytes as data. -/
def bytF (out : List UInt8) : F := .list (out.map fun u => [.atom (.int .u8 (u.toNat : Int))])
theorem Out.rd {w w' : World} {v : Value} {out : List UInt8} (h : Out w v out w') (hl : out.length ≤ 17592186044416) : Rd (fun b => b < w'.heap.size) w' (bytF out) v := by
  obtain ⟨W, _, hb⟩ := h
  rcases hb.own.2 with ⟨rfl, h0⟩ | ⟨g, cap, cur, rfl, hg, hgb, hn, hc, hs, ht⟩
  · obtain rfl : out = [] := List.eq_nil_of_length_eq_zero h0
    exact .nil _ _
  · have hlt : g < w'.heap.size := (Array.getElem?_eq_some_iff.1 hgb).1
    have e : (out.map fun u => [F.atom (.int .u8 (u.toNat : Int))]).length = out.length := by simp
    have key : Rd (fun b => b < w'.heap.size) w' (bytF out) (.slice (some ⟨g, 0, none⟩) (out.map fun u => [F.atom (.int .u8 (u.toNat : Int))]).length cap) := by
      refine .list _ g 0 cap 1 (fun i _ => .int .u8 ((out.getD i 0).toNat : Int)) (by omega) (by rw [e]; exact hl) (by simp) hlt hlt (fun i j hi hj => ?_) (fun i hi j hj => ?_)
      · obtain rfl : j = 0 := by omega
        have hi' : i < out.length := by rw [e] at hi; exact hi
        have := hb.own.cells (g := g) rfl i (.int .u8 ((out[i]).toNat : Int)) (by simp [bcells, hi'])
        rw [Addr.add_lit] at this
        simpa [List.getD, hi'] using this
      · simp only [List.getElem_map, List.length_cons, List.length_nil] at hj
        obtain rfl : j = 0 := by omega
        have hi' : i < out.length := by rw [e] at hi; exact hi
        simp only [List.getElem_map, List.getElem_cons_zero]
        have : out.getD i 0 = out[i] := by simp [List.getD, hi']
        rw [this]
        exact .atom _
    rw [e] at key
    exact key
theorem byt_str {S : Nat → Prop} {w : World} {v : Value} {out : List UInt8} (h : Rd S w (bytF out) v) : (convert 32 9 v).run Tryz.prog w = .ok (.string ⟨out.toArray⟩) w := by
  obtain ⟨a, c, e, _, hat⟩ := list_at h 1 (by simp)
  simp only [List.length_map] at *
  subst e
  rcases a with _ | ad
  · have h0 : out.length = 0 := by
      rcases Nat.eq_zero_or_pos out.length with h0 | h0
      · exact h0
      · obtain ⟨b, off, e, _⟩ := hat 0 h0; cases e
    obtain rfl : out = [] := List.eq_nil_of_length_eq_zero h0
    exact Lib.run_convert_nil_bytes w 32 9 5 c Tryz.underlying32 Tryz.underlying5 Tryz.underlying9
  · refine run_convert_bytes_back w 32 9 5 ad c out Tryz.underlying32 Tryz.underlying5 Tryz.underlying9 (fun j hj => ?_)
    obtain ⟨b, off, e, _, _, x, hx⟩ := hat j hj
    obtain rfl := Option.some.inj e
    obtain ⟨q, r⟩ := hx 0 (by simp)
    simp only [List.getElem_map, List.getElem_cons_zero] at r
    rw [r.atom_inv] at q
    rw [Addr.add_lit]
    simpa using q
set_option maxHeartbeats 1000000 in
theorem c15 (S : Nat → Prop) (g : G) (d : Int) (vn vk : Value) (w : World) (hok : g.ok) (hS : ∀ b, w.heap.size ≤ b → S b) (hn : Rd S w (fl g.nums) vn) (hk : Rd S w (.list (G.fsL g.kids)) vk) :
    Calls Tryz.prog 15 #[.agg #[.int .i64 g.kind, .int .i64 g.dim, vn, vk], .int .i64 d] w (NewR S w ((geoOf g).force (d % 4)).toG) := by
  obtain ⟨an, cn, rfl⟩ := fl_shape hn
  obtain ⟨ak, ck, rfl⟩ := kids_shape hk
  have d0 : 0 ≤ d % 4 := by omega
  have d1 : d % 4 ≤ 3 := by omega
  have hgo := geoOf_ok g hok
  have HB := Lib.hid (bl_a2 w (.cells #[.int .i64 g.kind, .int .i64 g.dim, .slice an g.nums.length cn, .slice ak g.kids.length ck] 25) (.cells #[.int .i64 0, .int .i64 0, .slice none 0 0, .slice none 0 0] 25))
  have l1 := Lib.hid (Lb.new2 w (.cells #[.int .i64 g.kind, .int .i64 g.dim, .slice an g.nums.length cn, .slice ak g.kids.length ck] 25) #[.int .i64 0, .int .i64 0, .slice none 0 0, .slice none 0 0] 25)
  have hup : ∀ w1 : World, w.heap.size + 2 ≤ w1.heap.size → ∀ b, w1.heap.size ≤ b → Ex S (w.heap.size + 1) b := fun w1 h1 b hb => ⟨hS b (by omega), by omega⟩
  have HM := Lib.hid (made g.size g (Nat.le_refl _) hok (Ex S (w.heap.size + 1)) (.slice an g.nums.length cn) (.slice ak g.kids.length ck) ((w.alloc (.cells #[.int .i64 g.kind, .int .i64 g.dim, .slice an g.nums.length cn, .slice ak g.kids.length ck] 25)).alloc (.cells #[.int .i64 0, .int .i64 0, .slice none 0 0, .slice none 0 0] 25)) (hup _ (by simp))
    (((hn.ex (L := w.heap.size + 1) (by omega)).alloc _).alloc _) (((hk.ex (L := w.heap.size + 1) (by omega)).alloc _).alloc _))
  have H48 := Lib.hid fun (w1 : World) (b : Nat) (hs : w.heap.size + 2 ≤ w1.heap.size) hx => c48 (geoOf g).size (geoOf g) (d % 4) (Ex S (w.heap.size + 1)) w1 (.iface (geoOf g).tid (.pointer (some ⟨b, 0, none⟩))) (Nat.le_refl _) hgo d0 d1 (hup w1 hs) hx
  have H47 := fun (w1 : World) (b : Nat) (hs : w.heap.size + 2 ≤ w1.heap.size) hx => c47 ((geoOf g).force (d % 4)).size ((geoOf g).force (d % 4)) (Ex S (w.heap.size + 1)) w1 (.iface (geoOf g).tid (.pointer (some ⟨b, 0, none⟩))) (Nat.le_refl _) (Geo.force_ok _ _ hgo d0 d1) (hup w1 hs) hx
  rw [(Geo.force_kind (geoOf g) (d % 4)).1] at H47
  replace H47 := Lib.hid H47
  clear hn hk
  generalize ((geoOf g).force (d % 4)).toG = q at *
  go_enter Tryz.func15, Tryz.ntmps15
  go_wp2_with fail
  refine HM.out.mono ?_
  rintro _ w1 ⟨b1, rfl, hx1, hb1⟩
  have hsz1 : w.heap.size + 2 ≤ w1.heap.size := by have := hb1.size; simpa using this
  replace HB := Lib.hid (HB.out.trans (hb1.mono (by simp <;> omega)))
  replace l1 := Lib.hid (l1.out.blw hb1)
  have Hx1 := Lib.hid hx1
  clear hx1 hb1 HM
  go_wp2_with fail
  refine (c49 _ _).mono ?_
  rintro _ w2 ⟨rfl, rfl⟩
  go_wp2_with fail
  refine (H48.out w1 b1 hsz1 Hx1.out).mono ?_
  rintro _ w3 ⟨b3, rfl, hx3, hb3⟩
  have hsz3 : w.heap.size + 2 ≤ w3.heap.size := by have := hb3.size; omega
  replace HB := Lib.hid (HB.out.trans (hb3.mono (by omega)))
  replace l1 := Lib.hid (l1.out.blw hb3)
  have Hx3 := Lib.hid hx3
  clear hx3 hb3 Hx1 H48
  go_wp2_with fail
  refine (H47.out w3 b3 hsz3 Hx3.out).mono ?_
  rintro _ w4 ⟨a1, c1, a2, c2, rfl, hr1, hr2, hb4⟩
  obtain ⟨kr, fr, lr⟩ := (l1.out.blw hb4).use
  replace HB := Lib.hid (HB.out.trans (hb4.mono (by omega)))
  have Hr1 := Lib.hid hr1; have Hr2 := Lib.hid hr2
  clear hr1 hr2 hb4 l1 H47
  go_wp2_with fail
  refine bodyPost_ret (v := .agg #[.int .i64 q.kind, .int .i64 q.dim, .slice a1 q.nums.length c1, .slice a2 q.kids.length c2]) (by simp [results, Tryz.results15, go_sem, *]) rfl ⟨a1, c1, a2, c2, rfl, ?_, ?_, ?_⟩
  · refine Rd.unex (L := w.heap.size + 1) ?_
    repeat (with_reducible first | exact Hr1.out | refine Rd.set ?_ _ _)
  · refine Rd.unex (L := w.heap.size + 1) ?_
    repeat (with_reducible first | exact Hr2.out | refine Rd.set ?_ _ _)
  · repeat (with_reducible first | exact HB.out | refine Below.setCell ?_ (by simp <;> omega) _)
end Go.Proofs.YtahnhhkbdgaidaaGreatDoor
