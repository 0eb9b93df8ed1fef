/-
  GeoJSON: several points.
-/
import Derived.Test.YtahnhhkbdgaidaaGreatDoorDh
namespace Go.Proofs.YtahnhhkbdgaidaaGreatDoor
open Go.RowKit
set_option maxRecDepth 100000
theorem Bf.below' {B : Nat} {W w : World} {v : Value} {bs : List UInt8} (h : Bf B W none v bs w) : Below W.heap.size W w := ⟨h.kept.os, h.kept.tape, h.kept.output, h.kept.size, fun i hi => h.kept.block i hi (by simp)⟩
def jhdPt : List UInt8 := [123, 34, 116, 121, 112, 101, 34, 58, 34, 80, 111, 105, 110, 116, 34, 44, 34, 99, 111, 111, 114, 100, 105, 110, 97, 116, 101, 115, 34, 58]
def jhdLn : List UInt8 := [123, 34, 116, 121, 112, 101, 34, 58, 34, 76, 105, 110, 101, 83, 116, 114, 105, 110, 103, 34, 44, 34, 99, 111, 111, 114, 100, 105, 110, 97, 116, 101, 115, 34, 58]
def jhdPg : List UInt8 := [123, 34, 116, 121, 112, 101, 34, 58, 34, 80, 111, 108, 121, 103, 111, 110, 34, 44, 34, 99, 111, 111, 114, 100, 105, 110, 97, 116, 101, 115, 34, 58]
def jhdMp : List UInt8 := [123, 34, 116, 121, 112, 101, 34, 58, 34, 77, 117, 108, 116, 105, 80, 111, 105, 110, 116, 34, 44, 34, 99, 111, 111, 114, 100, 105, 110, 97, 116, 101, 115, 34, 58, 91]
def jhdMl : List UInt8 := [123, 34, 116, 121, 112, 101, 34, 58, 34, 77, 117, 108, 116, 105, 76, 105, 110, 101, 83, 116, 114, 105, 110, 103, 34, 44, 34, 99, 111, 111, 114, 100, 105, 110, 97, 116, 101, 115, 34, 58]
def jhdMg : List UInt8 := [123, 34, 116, 121, 112, 101, 34, 58, 34, 77, 117, 108, 116, 105, 80, 111, 108, 121, 103, 111, 110, 34, 44, 34, 99, 111, 111, 114, 100, 105, 110, 97, 116, 101, 115, 34, 58]
def jptB (f : Nat → List UInt8) (p : Pt) : List UInt8 := if p.full then jcrdC f p.c else [91, 93]
/-- Two bytes more. -/
theorem Bf.byte2 {B : Nat} {W w : World} {r : Option Nat} {v : Value} {bs : List UInt8} (h : Bf B W r v bs w) (c d : UInt8) (hlen : bs.length + 2 ≤ 140737488355328) :
    ∃ v' w', (Builtin.append_ #[32, 32] 32 #[v, .slice (some ⟨w.heap.size, 0, none⟩) 2 2]).run Tryz.prog (w.alloc (.cells #[.int .u8 (c.toNat : Int), .int .u8 (d.toNat : Int)] 5)) = .ok v' w' ∧ Bf B W r v' (bs ++ [c, d]) w' := by
  obtain ⟨i0, hi0, hz0, hz1, hz2⟩ := info_parts info5
  have h1 := h.here
  have h2 := h1.alloc (.cells #[.int .u8 (c.toNat : Int), .int .u8 (d.toNat : Int)] 5)
  obtain ⟨v', w', hrun, ho', hg, _, hat⟩ := run_append_own_at (P := Tryz.prog) (w.alloc (.cells #[.int .u8 (c.toNat : Int), .int .u8 (d.toNat : Int)] 5)) B 32 32 5 i0 (.int .u8 0) 1 1 Tryz.underlying32 hi0 hz0 hz1 hz2 rfl (by decide) v bs.length (bcells bs) h2.own
    ⟨w.heap.size, 0, none⟩ 2 2 [.int .u8 (c.toNat : Int), .int .u8 (d.toNat : Int)] rfl (fun j u hj => by
      rw [Addr.add_lit, World.cell?_alloc_at _ _ _ _ rfl]; simpa using hj) (by simp [Value.oneCell']) (by simp only [maxLen]; omega) (by omega) (Nat.le_trans h1.hB (by simp))
  refine ⟨v', w', hrun, h.then ⟨by simpa [bcells] using ho', h2.kept.andThen hg (fun j hj => h2.lies j hj), fun j hj => ?_, h1.hB⟩⟩
  rcases hat with e | e
  · exact .inr (e ▸ hj)
  · rw [e] at hj; simp at hj; exact .inl (by omega)
set_option maxHeartbeats 1000000 in
theorem c38 (tab : Nat → Int) (f : Nat → List UInt8) (hF : PrintsJ tab f) (S : Nat → Prop) (l : Ln) (a : Option Addr) (c : Nat) (w : World) (hT : Tabs tab w) (h6 : 6 < w.heap.size) (hlen : (jlnB f l).length ≤ 70000000000000) (hok : l.ok) (h : Rd S w (fl l.xs) (.slice a l.xs.length c)) :
    Calls Tryz.prog 38 #[.agg #[.int .u8 l.t, .slice a l.xs.length c]] w fun e w' => ∃ v', e = .returned (.tuple #[v', .nilIface]) ∧ Bf w.heap.size w none v' (jhdLn ++ jlnB f l ++ [125]) w' := by
  have hbW := (Bf.new w).alloc (.cells #[.int .u8 l.t, .slice a l.xs.length c] 69)
  have hTW := hT.blw (bl_a1 w (.cells #[.int .u8 l.t, .slice a l.xs.length c] 69))
  have hLW := Lb.new w #[.int .u8 l.t, .slice a l.xs.length c] 69
  have hrW := h.alloc (.cells #[.int .u8 l.t, .slice a l.xs.length c] 69)
  have hb0 : Bf w.heap.size (w.alloc (.cells #[.int .u8 l.t, .slice a l.xs.length c] 69)) none (.slice none 0 0) [] (w.alloc (.cells #[.int .u8 l.t, .slice a l.xs.length c] 69)) := hbW.here
  obtain ⟨v1, w1, hap1, hb1⟩ := hb0.text ⟨#[123, 34, 116, 121, 112, 101, 34, 58, 34, 76, 105, 110, 101, 83, 116, 114, 105, 110, 103, 34, 44, 34, 99, 111, 111, 114, 100, 105, 110, 97, 116, 101, 115, 34, 58]⟩ (by show 0 + (#[123, 34, 116, 121, 112, 101, 34, 58, 34, 76, 105, 110, 101, 83, 116, 114, 105, 110, 103, 34, 44, 34, 99, 111, 111, 114, 100, 105, 110, 97, 116, 101, 115, 34, 58] : Array UInt8).size ≤ _; simp)
  replace hb1 : Bf w.heap.size (w.alloc (.cells #[.int .u8 l.t, .slice a l.xs.length c] 69)) none v1 jhdLn w1 := hb1
  have kb := ((hb1.lb hLW (by simp)).use).1
  have hlj : jhdLn.length ≤ 100 := by simp [jhdLn]
  have hr1 : Rd (fun b => b < w1.heap.size ∧ some b ≠ v1.ownBlock) w1 (fl l.xs) (.slice a l.xs.length c) := (hb1.rd (S := fun b => S b ∧ b < w.heap.size) (h.mono (fun b hb hS => ⟨hS, hb⟩) |>.alloc _) (by simp)).mono (fun b hb hS => ⟨hb, fun e => by have := (hb1.blk b e.symm).1; have := hS.2; omega⟩)
  have Hc := Lib.hid (c90 tab f hF w.heap.size _ jhdLn v1 l.t l.xs a c w1 (hb1.tabs hTW (by simp)) h6 hb1.here (by have : (jlnB f l).length = (jwrap ((plsOf l.t l.xs).map (jcrdC f))).length := rfl; omega) hok.1 hok.2.1 (fun b hb => hb) hr1)
  have HW := Lib.hid hbW; have Hb1 := Lib.hid hb1; have Hap1 := Lib.hid hap1
  clear hbW hTW hLW hrW hb0 hb1 hap1 h hT hr1
  go_enter Tryz.func38, Tryz.ntmps38
  go_wp2_with (at_builtin; refine wpList_append_eqs rfl _ _ 32 9 rfl rfl rfl rfl Hap1.out ?_)
  refine Hc.out.mono ?_
  rintro _ w2 ⟨v2, rfl, hx2⟩
  obtain ⟨v3, w3, hap3, hx3⟩ := (Hb1.out.then hx2).byte 125 (by have : (jlnB f l).length = (jwrap ((plsOf l.t l.xs).map (jcrdC f))).length := rfl; simp only [List.length_append]; omega)
  have Hap3 := Lib.hid hap3; have Hx3 := Lib.hid hx3
  clear hx2 hap3 hx3 Hb1 Hap1 Hc
  go_wp2_with (at_builtin; refine wpList_append_eq rfl _ _ 32 rfl rfl rfl rfl Hap3.out ?_)
  exact bodyPost_ret (v := .tuple #[v3, .nilIface]) (by simp [results, Tryz.results38, go_sem]) rfl ⟨v3, rfl, HW.out.then Hx3.out⟩
set_option maxHeartbeats 1000000 in
theorem c36_t (tab : Nat → Int) (f : Nat → List UInt8) (hF : PrintsJ tab f) (x y z m : Nat) (t : Int) (w : World) (hT : Tabs tab w) (h6 : 6 < w.heap.size) (h0 : 0 ≤ t) (h1 : t ≤ 3) :
    Calls Tryz.prog 36 #[.agg #[.float .f64 x, .float .f64 y, .float .f64 z, .float .f64 m, .int .u8 t, .bool true]] w fun e w' => ∃ v', e = .returned (.tuple #[v', .nilIface]) ∧ Bf w.heap.size w none v' (jhdPt ++ jcrdB f x y z t ++ [125]) w' := by
  have hsf := st_float
  have hbW := (Bf.new w).alloc (.cells #[.float .f64 x, .float .f64 y, .float .f64 z, .float .f64 m, .int .u8 t, .bool true] 63)
  have hTW := hT.blw (bl_a1 w (.cells #[.float .f64 x, .float .f64 y, .float .f64 z, .float .f64 m, .int .u8 t, .bool true] 63))
  have hLW := Lb.new w #[.float .f64 x, .float .f64 y, .float .f64 z, .float .f64 m, .int .u8 t, .bool true] 63
  have hb0 : Bf w.heap.size (w.alloc (.cells #[.float .f64 x, .float .f64 y, .float .f64 z, .float .f64 m, .int .u8 t, .bool true] 63)) none (.slice none 0 0) [] (w.alloc (.cells #[.float .f64 x, .float .f64 y, .float .f64 z, .float .f64 m, .int .u8 t, .bool true] 63)) := hbW.here
  obtain ⟨v1, w1, hap1, hb1⟩ := hb0.text ⟨#[123, 34, 116, 121, 112, 101, 34, 58, 34, 80, 111, 105, 110, 116, 34, 44, 34, 99, 111, 111, 114, 100, 105, 110, 97, 116, 101, 115, 34, 58]⟩ (by show 0 + (#[123, 34, 116, 121, 112, 101, 34, 58, 34, 80, 111, 105, 110, 116, 34, 44, 34, 99, 111, 111, 114, 100, 105, 110, 97, 116, 101, 115, 34, 58] : Array UInt8).size ≤ _; simp)
  replace hb1 : Bf w.heap.size (w.alloc (.cells #[.float .f64 x, .float .f64 y, .float .f64 z, .float .f64 m, .int .u8 t, .bool true] 63)) none v1 jhdPt w1 := hb1
  have kb := ((hb1.lb hLW (by simp)).use).1
  have hlj : jhdPt.length ≤ 100 := by simp [jhdPt]
  have Hc := Lib.hid (hF.place w.heap.size jhdPt v1 x y z m t w1 (hb1.tabs hTW (by simp)) h6 hb1.here (by omega) h0 h1)
  have HW := Lib.hid hbW; have Hb1 := Lib.hid hb1; have Hap1 := Lib.hid hap1
  clear hbW hTW hLW hb0 hb1 hap1 hT
  go_enter Tryz.func36, Tryz.ntmps36
  go_wp2_with (at_builtin; refine wpList_append_eqs rfl _ _ 32 9 rfl rfl rfl rfl Hap1.out ?_)
  refine Hc.out.mono ?_
  rintro _ w2 ⟨v2, rfl, hx2⟩
  obtain ⟨v3, w3, hap3, hx3⟩ := (Hb1.out.then hx2).byte 125 (by have := jcrdB_len f hF.len x y z t; simp only [List.length_append]; omega)
  have Hap3 := Lib.hid hap3; have Hx3 := Lib.hid hx3
  clear hx2 hap3 hx3 Hb1 Hap1 Hc
  go_wp2_with (at_builtin; refine wpList_append_eq rfl _ _ 32 rfl rfl rfl rfl Hap3.out ?_)
  exact bodyPost_ret (v := .tuple #[v3, .nilIface]) (by simp [results, Tryz.results36, go_sem]) rfl ⟨v3, rfl, HW.out.then Hx3.out⟩
set_option maxHeartbeats 1000000 in
theorem c36_f (tab : Nat → Int) (f : Nat → List UInt8) (hF : PrintsJ tab f) (x y z m : Nat) (t : Int) (w : World) (hT : Tabs tab w) (h6 : 6 < w.heap.size) (h0 : 0 ≤ t) (h1 : t ≤ 3) :
    Calls Tryz.prog 36 #[.agg #[.float .f64 x, .float .f64 y, .float .f64 z, .float .f64 m, .int .u8 t, .bool false]] w fun e w' => ∃ v', e = .returned (.tuple #[v', .nilIface]) ∧ Bf w.heap.size w none v' (jhdPt ++ [91, 93] ++ [125]) w' := by
  have hsf := st_float
  have hbW := (Bf.new w).alloc (.cells #[.float .f64 x, .float .f64 y, .float .f64 z, .float .f64 m, .int .u8 t, .bool false] 63)
  have hTW := hT.blw (bl_a1 w (.cells #[.float .f64 x, .float .f64 y, .float .f64 z, .float .f64 m, .int .u8 t, .bool false] 63))
  have hLW := Lb.new w #[.float .f64 x, .float .f64 y, .float .f64 z, .float .f64 m, .int .u8 t, .bool false] 63
  have hb0 : Bf w.heap.size (w.alloc (.cells #[.float .f64 x, .float .f64 y, .float .f64 z, .float .f64 m, .int .u8 t, .bool false] 63)) none (.slice none 0 0) [] (w.alloc (.cells #[.float .f64 x, .float .f64 y, .float .f64 z, .float .f64 m, .int .u8 t, .bool false] 63)) := hbW.here
  obtain ⟨v1, w1, hap1, hb1⟩ := hb0.text ⟨#[123, 34, 116, 121, 112, 101, 34, 58, 34, 80, 111, 105, 110, 116, 34, 44, 34, 99, 111, 111, 114, 100, 105, 110, 97, 116, 101, 115, 34, 58]⟩ (by show 0 + (#[123, 34, 116, 121, 112, 101, 34, 58, 34, 80, 111, 105, 110, 116, 34, 44, 34, 99, 111, 111, 114, 100, 105, 110, 97, 116, 101, 115, 34, 58] : Array UInt8).size ≤ _; simp)
  replace hb1 : Bf w.heap.size (w.alloc (.cells #[.float .f64 x, .float .f64 y, .float .f64 z, .float .f64 m, .int .u8 t, .bool false] 63)) none v1 jhdPt w1 := hb1
  have kb := ((hb1.lb hLW (by simp)).use).1
  have hlj : jhdPt.length ≤ 100 := by simp [jhdPt]

  have HW := Lib.hid hbW; have Hb1 := Lib.hid hb1; have Hap1 := Lib.hid hap1
  clear hbW hTW hLW hb0 hb1 hap1 hT
  go_enter Tryz.func36, Tryz.ntmps36
  obtain ⟨v2, w2, hap2, hx2⟩ := Hb1.out.byte2 91 93 (by omega)
  have Hap2 := Lib.hid hap2
  obtain ⟨v3, w3, hap3, hx3⟩ := hx2.byte 125 (by simp only [List.length_append, List.length_cons, List.length_nil]; omega)
  have Hap3 := Lib.hid hap3; have Hx3 := Lib.hid hx3
  clear hx2 hap3 hx3 hap2 Hb1
  go_wp2_with (at_builtin; first | refine wpList_append_eqs rfl _ _ 32 9 rfl rfl rfl rfl Hap1.out ?_ | refine wpList_append_eq rfl _ _ 32 rfl rfl rfl rfl Hap2.out ?_ | refine wpList_append_eq rfl _ _ 32 rfl rfl rfl rfl Hap3.out ?_)
  exact bodyPost_ret (v := .tuple #[v3, .nilIface]) (by simp [results, Tryz.results36, go_sem]) rfl ⟨v3, rfl, HW.out.then Hx3.out⟩
theorem c36 (tab : Nat → Int) (f : Nat → List UInt8) (hF : PrintsJ tab f) (p : Pt) (w : World) (hT : Tabs tab w) (h6 : 6 < w.heap.size) (hok : p.ok) :
    Calls Tryz.prog 36 #[.agg p.cells] w fun e w' => ∃ v', e = .returned (.tuple #[v', .nilIface]) ∧ Bf w.heap.size w none v' (jhdPt ++ jptB f p ++ [125]) w' := by
  obtain ⟨⟨x, y, z, m, t⟩, full⟩ := p
  cases full
  · exact c36_f tab f hF x y z m t w hT h6 hok.1 hok.2
  · exact c36_t tab f hF x y z m t w hT h6 hok.1 hok.2
set_option maxHeartbeats 1000000 in
theorem c40 (tab : Nat → Int) (f : Nat → List UInt8) (hF : PrintsJ tab f) (S : Nat → Prop) (ls : List Ln) (t : Int) (a : Option Addr) (c : Nat) (w : World) (hT : Tabs tab w) (h6 : 6 < w.heap.size) (hlen : (jpgB f ls).length ≤ 70000000000000) (hln : ls.length ≤ 1000000) (hok : ∀ l ∈ ls, l.ok) (h : Rd S w (.list (ls.map Ln.fs)) (.slice a ls.length c)) :
    Calls Tryz.prog 40 #[.agg #[.slice a ls.length c, .int .u8 t]] w fun e w' => ∃ v', e = .returned (.tuple #[v', .nilIface]) ∧ Bf w.heap.size w none v' (jhdPg ++ jpgB f ls ++ [125]) w' := by
  have hbW := (Bf.new w).alloc (.cells #[.slice a ls.length c, .int .u8 t] 73)
  have hTW := hT.blw (bl_a1 w (.cells #[.slice a ls.length c, .int .u8 t] 73))
  have hLW := Lb.new w #[.slice a ls.length c, .int .u8 t] 73
  have hb0 : Bf w.heap.size (w.alloc (.cells #[.slice a ls.length c, .int .u8 t] 73)) none (.slice none 0 0) [] (w.alloc (.cells #[.slice a ls.length c, .int .u8 t] 73)) := hbW.here
  obtain ⟨v1, w1, hap1, hb1⟩ := hb0.text ⟨#[123, 34, 116, 121, 112, 101, 34, 58, 34, 80, 111, 108, 121, 103, 111, 110, 34, 44, 34, 99, 111, 111, 114, 100, 105, 110, 97, 116, 101, 115, 34, 58]⟩ (by show 0 + (#[123, 34, 116, 121, 112, 101, 34, 58, 34, 80, 111, 108, 121, 103, 111, 110, 34, 44, 34, 99, 111, 111, 114, 100, 105, 110, 97, 116, 101, 115, 34, 58] : Array UInt8).size ≤ _; simp)
  replace hb1 : Bf w.heap.size (w.alloc (.cells #[.slice a ls.length c, .int .u8 t] 73)) none v1 jhdPg w1 := hb1
  have kb := ((hb1.lb hLW (by simp)).use).1
  have hlj : jhdPg.length ≤ 100 := by simp [jhdPg]
  have hr1 : Rd (fun b => some b ≠ v1.ownBlock) w1 (.list (ls.map Ln.fs)) (.slice a ls.length c) := (hb1.rd (S := fun b => S b ∧ b < w.heap.size) (h.mono (fun b hb hS => ⟨hS, hb⟩) |>.alloc _) (by simp)).mono (fun b hb hS => fun e => by have := (hb1.blk b e.symm).1; have := hS.2; omega)
  have Hg := Lib.hid (c94 (fun b => some b ≠ v1.ownBlock) ls t a c w1 hln (fun b hb e => by have := (hb1.blk b e.symm).2; omega) hr1)
  have hT1 := hb1.tabs hTW (by simp)
  have Hc : Hid (∀ (a' : Option Addr) (c' : Nat) (w2 : World), Below w1.heap.size w1 w2 → Rd (fun b => some b ≠ v1.ownBlock) w2 (.list (ls.map Ln.fs)) (.slice a' ls.length c') → Calls Tryz.prog 93 #[v1, .slice a' ls.length c'] w2 fun e w3 => ∃ v2, e = .returned v2 ∧ Bf w.heap.size (w.alloc (.cells #[.slice a ls.length c, .int .u8 t] 73)) none v2 (jhdPg ++ jpgB f ls) w3) := Lib.hid fun a' c' w2 hb hr => by
    have hx := hb1.step hb
    exact (c93 tab f hF w.heap.size (fun b => b < w2.heap.size ∧ some b ≠ v1.ownBlock) jhdPg v1 ls a' c' w2 (hT1.blw hb) h6 hx.here (by omega) hok (fun b hb => hb) (hr.mono fun b hb hS => ⟨hb, hS⟩)).mono fun e w3 ⟨v2, he, h2⟩ => ⟨v2, he, hx.then h2⟩
  have HW := Lib.hid hbW; have Hap1 := Lib.hid hap1
  clear hbW hTW hLW hb0 hb1 hap1 h hT hr1 hT1
  go_enter Tryz.func40, Tryz.ntmps40
  go_wp2_with (at_builtin; refine wpList_append_eqs rfl _ _ 32 9 rfl rfl rfl rfl Hap1.out ?_)
  refine Hg.out.mono ?_
  rintro _ w2 ⟨a', c', rfl, hr2, hb2⟩
  have Hr2 := Lib.hid hr2; have Hb2 := Lib.hid hb2
  clear hr2 hb2 kb
  go_wp2_with fail
  refine (Hc.out _ _ _ Hb2.out Hr2.out).mono ?_
  rintro _ w3 ⟨v3, rfl, hx3⟩
  obtain ⟨v4, w4, hap4, hx4⟩ := hx3.byte 125 (by simp only [List.length_append]; omega)
  have Hap4 := Lib.hid hap4; have Hx4 := Lib.hid hx4
  clear hx3 hap4 hx4 Hap1 Hc Hg Hr2 Hb2
  go_wp2_with (at_builtin; refine wpList_append_eq rfl _ _ 32 rfl rfl rfl rfl Hap4.out ?_)
  exact bodyPost_ret (v := .tuple #[v4, .nilIface]) (by simp [results, Tryz.results40, go_sem]) rfl ⟨v4, rfl, HW.out.then Hx4.out⟩
set_option maxHeartbeats 1000000 in
theorem c44 (tab : Nat → Int) (f : Nat → List UInt8) (hF : PrintsJ tab f) (S : Nat → Prop) (ls : List Ln) (t : Int) (a : Option Addr) (c : Nat) (w : World) (hT : Tabs tab w) (h6 : 6 < w.heap.size) (hlen : (jpgB f ls).length ≤ 70000000000000) (hln : ls.length ≤ 1000000) (hok : ∀ l ∈ ls, l.ok) (h : Rd S w (.list (ls.map Ln.fs)) (.slice a ls.length c)) :
    Calls Tryz.prog 44 #[.agg #[.slice a ls.length c, .int .u8 t]] w fun e w' => ∃ v', e = .returned (.tuple #[v', .nilIface]) ∧ Bf w.heap.size w none v' (jhdMl ++ jpgB f ls ++ [125]) w' := by
  have hbW := (Bf.new w).alloc (.cells #[.slice a ls.length c, .int .u8 t] 80)
  have hTW := hT.blw (bl_a1 w (.cells #[.slice a ls.length c, .int .u8 t] 80))
  have hLW := Lb.new w #[.slice a ls.length c, .int .u8 t] 80
  have hb0 : Bf w.heap.size (w.alloc (.cells #[.slice a ls.length c, .int .u8 t] 80)) none (.slice none 0 0) [] (w.alloc (.cells #[.slice a ls.length c, .int .u8 t] 80)) := hbW.here
  obtain ⟨v1, w1, hap1, hb1⟩ := hb0.text ⟨#[123, 34, 116, 121, 112, 101, 34, 58, 34, 77, 117, 108, 116, 105, 76, 105, 110, 101, 83, 116, 114, 105, 110, 103, 34, 44, 34, 99, 111, 111, 114, 100, 105, 110, 97, 116, 101, 115, 34, 58]⟩ (by show 0 + (#[123, 34, 116, 121, 112, 101, 34, 58, 34, 77, 117, 108, 116, 105, 76, 105, 110, 101, 83, 116, 114, 105, 110, 103, 34, 44, 34, 99, 111, 111, 114, 100, 105, 110, 97, 116, 101, 115, 34, 58] : Array UInt8).size ≤ _; simp)
  replace hb1 : Bf w.heap.size (w.alloc (.cells #[.slice a ls.length c, .int .u8 t] 80)) none v1 jhdMl w1 := hb1
  have kb := ((hb1.lb hLW (by simp)).use).1
  have hlj : jhdMl.length ≤ 100 := by simp [jhdMl]
  have hr1 : Rd (fun b => some b ≠ v1.ownBlock) w1 (.list (ls.map Ln.fs)) (.slice a ls.length c) := (hb1.rd (S := fun b => S b ∧ b < w.heap.size) (h.mono (fun b hb hS => ⟨hS, hb⟩) |>.alloc _) (by simp)).mono (fun b hb hS => fun e => by have := (hb1.blk b e.symm).1; have := hS.2; omega)
  have Hg := Lib.hid (c100 (fun b => some b ≠ v1.ownBlock) ls t a c w1 hln (fun b hb e => by have := (hb1.blk b e.symm).2; omega) hr1)
  have hT1 := hb1.tabs hTW (by simp)
  have Hc : Hid (∀ (a' : Option Addr) (c' : Nat) (w2 : World), Below w1.heap.size w1 w2 → Rd (fun b => some b ≠ v1.ownBlock) w2 (.list (ls.map Ln.fs)) (.slice a' ls.length c') → Calls Tryz.prog 93 #[v1, .slice a' ls.length c'] w2 fun e w3 => ∃ v2, e = .returned v2 ∧ Bf w.heap.size (w.alloc (.cells #[.slice a ls.length c, .int .u8 t] 80)) none v2 (jhdMl ++ jpgB f ls) w3) := Lib.hid fun a' c' w2 hb hr => by
    have hx := hb1.step hb
    exact (c93 tab f hF w.heap.size (fun b => b < w2.heap.size ∧ some b ≠ v1.ownBlock) jhdMl v1 ls a' c' w2 (hT1.blw hb) h6 hx.here (by omega) hok (fun b hb => hb) (hr.mono fun b hb hS => ⟨hb, hS⟩)).mono fun e w3 ⟨v2, he, h2⟩ => ⟨v2, he, hx.then h2⟩
  have HW := Lib.hid hbW; have Hap1 := Lib.hid hap1
  clear hbW hTW hLW hb0 hb1 hap1 h hT hr1 hT1
  go_enter Tryz.func44, Tryz.ntmps44
  go_wp2_with (at_builtin; refine wpList_append_eqs rfl _ _ 32 9 rfl rfl rfl rfl Hap1.out ?_)
  refine Hg.out.mono ?_
  rintro _ w2 ⟨a', c', rfl, hr2, hb2⟩
  have Hr2 := Lib.hid hr2; have Hb2 := Lib.hid hb2
  clear hr2 hb2 kb
  go_wp2_with fail
  refine (Hc.out _ _ _ Hb2.out Hr2.out).mono ?_
  rintro _ w3 ⟨v3, rfl, hx3⟩
  obtain ⟨v4, w4, hap4, hx4⟩ := hx3.byte 125 (by simp only [List.length_append]; omega)
  have Hap4 := Lib.hid hap4; have Hx4 := Lib.hid hx4
  clear hx3 hap4 hx4 Hap1 Hc Hg Hr2 Hb2
  go_wp2_with (at_builtin; refine wpList_append_eq rfl _ _ 32 rfl rfl rfl rfl Hap4.out ?_)
  exact bodyPost_ret (v := .tuple #[v4, .nilIface]) (by simp [results, Tryz.results44, go_sem]) rfl ⟨v4, rfl, HW.out.then Hx4.out⟩
set_option maxHeartbeats 1000000 in
theorem c46 (tab : Nat → Int) (f : Nat → List UInt8) (hF : PrintsJ tab f) (S : Nat → Prop) (ls : List Pg) (t : Int) (a : Option Addr) (c : Nat) (w : World) (hT : Tabs tab w) (h6 : 6 < w.heap.size) (hlen : (jmpB f (ls.map Pg.rings)).length ≤ 70000000000000) (hln : ls.length ≤ 1000000) (hlr : ∀ p ∈ ls, p.rings.length ≤ 1000000) (hok : ∀ p ∈ ls, ∀ l ∈ p.rings, l.ok) (h : Rd S w (.list (ls.map Pg.fs)) (.slice a ls.length c)) :
    Calls Tryz.prog 46 #[.agg #[.slice a ls.length c, .int .u8 t]] w fun e w' => ∃ v', e = .returned (.tuple #[v', .nilIface]) ∧ Bf w.heap.size w none v' (jhdMg ++ jmpB f (ls.map Pg.rings) ++ [125]) w' := by
  have hbW := (Bf.new w).alloc (.cells #[.slice a ls.length c, .int .u8 t] 84)
  have hTW := hT.blw (bl_a1 w (.cells #[.slice a ls.length c, .int .u8 t] 84))
  have hLW := Lb.new w #[.slice a ls.length c, .int .u8 t] 84
  have hb0 : Bf w.heap.size (w.alloc (.cells #[.slice a ls.length c, .int .u8 t] 84)) none (.slice none 0 0) [] (w.alloc (.cells #[.slice a ls.length c, .int .u8 t] 84)) := hbW.here
  obtain ⟨v1, w1, hap1, hb1⟩ := hb0.text ⟨#[123, 34, 116, 121, 112, 101, 34, 58, 34, 77, 117, 108, 116, 105, 80, 111, 108, 121, 103, 111, 110, 34, 44, 34, 99, 111, 111, 114, 100, 105, 110, 97, 116, 101, 115, 34, 58]⟩ (by show 0 + (#[123, 34, 116, 121, 112, 101, 34, 58, 34, 77, 117, 108, 116, 105, 80, 111, 108, 121, 103, 111, 110, 34, 44, 34, 99, 111, 111, 114, 100, 105, 110, 97, 116, 101, 115, 34, 58] : Array UInt8).size ≤ _; simp)
  replace hb1 : Bf w.heap.size (w.alloc (.cells #[.slice a ls.length c, .int .u8 t] 84)) none v1 jhdMg w1 := hb1
  have kb := ((hb1.lb hLW (by simp)).use).1
  have hlj : jhdMg.length ≤ 100 := by simp [jhdMg]
  have hr1 : Rd (fun b => some b ≠ v1.ownBlock) w1 (.list (ls.map Pg.fs)) (.slice a ls.length c) := (hb1.rd (S := fun b => S b ∧ b < w.heap.size) (h.mono (fun b hb hS => ⟨hS, hb⟩) |>.alloc _) (by simp)).mono (fun b hb hS => fun e => by have := (hb1.blk b e.symm).1; have := hS.2; omega)
  have Hg := Lib.hid (c104 (fun b => some b ≠ v1.ownBlock) ls t a c w1 hln hlr (fun b hb e => by have := (hb1.blk b e.symm).2; omega) hr1)
  have hT1 := hb1.tabs hTW (by simp)
  have Hc : Hid (∀ (a' : Option Addr) (c' : Nat) (w2 : World), Below w1.heap.size w1 w2 → Rd (fun b => some b ≠ v1.ownBlock) w2 (.list (ls.map fun p => Sq.fs p.rings)) (.slice a' ls.length c') → Calls Tryz.prog 103 #[v1, .slice a' ls.length c'] w2 fun e w3 => ∃ v2, e = .returned v2 ∧ Bf w.heap.size (w.alloc (.cells #[.slice a ls.length c, .int .u8 t] 84)) none v2 (jhdMg ++ jmpB f (ls.map Pg.rings)) w3) := Lib.hid fun a' c' w2 hb hr => by
    have hx := hb1.step hb
    have e1 : (ls.map fun p => Sq.fs p.rings) = (ls.map Pg.rings).map Sq.fs := by simp
    rw [e1] at hr
    have := c103 tab f hF w.heap.size (fun b => b < w2.heap.size ∧ some b ≠ v1.ownBlock) jhdMg v1 (ls.map Pg.rings) a' c' w2 (hT1.blw hb) h6 hx.here (by omega) (fun q hq l hl => by obtain ⟨p, hp, rfl⟩ := List.mem_map.1 hq; exact hok p hp l hl) (fun b hb => hb) (by rw [List.length_map]; exact hr.mono fun b hb hS => ⟨hb, hS⟩)
    rw [List.length_map] at this
    exact this.mono fun e w3 ⟨v2, he, h2⟩ => ⟨v2, he, hx.then h2⟩
  have HW := Lib.hid hbW; have Hap1 := Lib.hid hap1
  clear hbW hTW hLW hb0 hb1 hap1 h hT hr1 hT1
  go_enter Tryz.func46, Tryz.ntmps46
  go_wp2_with (at_builtin; refine wpList_append_eqs rfl _ _ 32 9 rfl rfl rfl rfl Hap1.out ?_)
  refine Hg.out.mono ?_
  rintro _ w2 ⟨a', c', rfl, hr2, hb2⟩
  have Hr2 := Lib.hid hr2; have Hb2 := Lib.hid hb2
  clear hr2 hb2 kb
  go_wp2_with fail
  refine (Hc.out _ _ _ Hb2.out Hr2.out).mono ?_
  rintro _ w3 ⟨v3, rfl, hx3⟩
  obtain ⟨v4, w4, hap4, hx4⟩ := hx3.byte 125 (by simp only [List.length_append]; omega)
  have Hap4 := Lib.hid hap4; have Hx4 := Lib.hid hx4
  clear hx3 hap4 hx4 Hap1 Hc Hg Hr2 Hb2
  go_wp2_with (at_builtin; refine wpList_append_eq rfl _ _ 32 rfl rfl rfl rfl Hap4.out ?_)
  exact bodyPost_ret (v := .tuple #[v4, .nilIface]) (by simp [results, Tryz.results46, go_sem]) rfl ⟨v4, rfl, HW.out.then Hx4.out⟩
end Go.Proofs.YtahnhhkbdgaidaaGreatDoor
namespace Go.Proofs.YtahnhhkbdgaidaaGreatDoor
open Go.RowKit
set_option maxRecDepth 100000
/-- The full points so far. -/
def jmid (f : Nat → List UInt8) (ls : List Pt) (j : Nat) : List UInt8 := sepB 44 (((ls.take j).filter (·.full)).map fun p => jcrdC f p.c)
theorem jmid_skip (f : Nat → List UInt8) (ls : List Pt) (j : Nat) (h : j < ls.length) (hf : (ls[j]).full = false) : jmid f ls (j + 1) = jmid f ls j ∧ (ls.take (j + 1)).filter (·.full) = (ls.take j).filter (·.full) := by
  have e : (ls.take (j + 1)).filter (·.full) = (ls.take j).filter (·.full) := by
    rw [List.take_succ_eq_append_getElem h, List.filter_append]; simp [hf]
  exact ⟨by unfold jmid; rw [e], e⟩
theorem jmid_next (f : Nat → List UInt8) (ls : List Pt) (j : Nat) (h : j < ls.length) (hf : (ls[j]).full = true) :
    jmid f ls (j + 1) = jmid f ls j ++ (if ((ls.take j).filter (·.full)).length = 0 then [] else [44]) ++ jcrdC f (ls[j]).c ∧ ((ls.take (j + 1)).filter (·.full)).length = ((ls.take j).filter (·.full)).length + 1 := by
  have e : (ls.take (j + 1)).filter (·.full) = (ls.take j).filter (·.full) ++ [ls[j]] := by
    rw [List.take_succ_eq_append_getElem h, List.filter_append]; simp [hf]
  exact ⟨by unfold jmid; rw [e, List.map_append, List.map_singleton, sepB_snoc, List.length_map], by rw [e]; simp⟩
theorem jmid_len (f : Nat → List UInt8) (ls : List Pt) (j : Nat) : (jmid f ls j).length ≤ (jmid f ls ls.length).length := by
  unfold jmid
  obtain ⟨c, hc⟩ := sepB_pre 44 (((ls.take j).filter (·.full)).map fun p => jcrdC f p.c) (((ls.drop j).filter (·.full)).map fun p => jcrdC f p.c)
  rw [← List.map_append, ← List.filter_append, List.take_append_drop] at hc
  rw [List.take_length, hc, List.length_append]; omega
set_option maxHeartbeats 2000000 in
theorem c42 (tab : Nat → Int) (f : Nat → List UInt8) (hF : PrintsJ tab f) (S : Nat → Prop) (ls : List Pt) (t : Int) (a : Option Addr) (c : Nat) (w : World) (hT : Tabs tab w) (h6 : 6 < w.heap.size) (hlen : (jmid f ls ls.length).length ≤ 70000000000000) (hok : ∀ p ∈ ls, p.ok) (h : Rd S w (.list (ls.map Pt.fs)) (.slice a ls.length c)) :
    Calls Tryz.prog 42 #[.agg #[.slice a ls.length c, .int .u8 t]] w fun e w' => ∃ v', e = .returned (.tuple #[v', .nilIface]) ∧ Bf w.heap.size w none v' (jhdMp ++ jmid f ls ls.length ++ [93, 125]) w' := by
  have hsf := st_float
  have hbW := (Bf.new w).alloc (.cells #[.slice a ls.length c, .int .u8 t] 77)
  have hTW := hT.blw (bl_a1 w (.cells #[.slice a ls.length c, .int .u8 t] 77))
  have hLW := Lb.new w #[.slice a ls.length c, .int .u8 t] 77
  have hrW := h.alloc (.cells #[.slice a ls.length c, .int .u8 t] 77)
  have hmax : ls.length ≤ 17592186044416 := by obtain ⟨_, _, _, hm, _⟩ := pts_at h; exact hm
  have hb0 : Bf w.heap.size (w.alloc (.cells #[.slice a ls.length c, .int .u8 t] 77)) none (.slice none 0 0) [] (w.alloc (.cells #[.slice a ls.length c, .int .u8 t] 77)) := hbW.here
  obtain ⟨v1, w1, hap1, hb1⟩ := hb0.text ⟨#[123, 34, 116, 121, 112, 101, 34, 58, 34, 77, 117, 108, 116, 105, 80, 111, 105, 110, 116, 34, 44, 34, 99, 111, 111, 114, 100, 105, 110, 97, 116, 101, 115, 34, 58, 91]⟩ (by show 0 + (#[123, 34, 116, 121, 112, 101, 34, 58, 34, 77, 117, 108, 116, 105, 80, 111, 105, 110, 116, 34, 44, 34, 99, 111, 111, 114, 100, 105, 110, 97, 116, 101, 115, 34, 58, 91] : Array UInt8).size ≤ _; simp)
  replace hb1 : Bf w.heap.size (w.alloc (.cells #[.slice a ls.length c, .int .u8 t] 77)) none v1 jhdMp w1 := hb1
  have kb := ((hb1.lb hLW (by simp)).use).1
  have hlj : jhdMp.length ≤ 100 := by simp [jhdMp]
  have Hrd : Hid (∀ (X : List UInt8) (v' : Value) (w' : World), Bf w.heap.size (w.alloc (.cells #[.slice a ls.length c, .int .u8 t] 77)) none v' X w' → Rd S w' (.list (ls.map Pt.fs)) (.slice a ls.length c)) := Lib.hid fun X v' w' hx => hx.rd hrW (by simp)
  have Hpl : Hid (∀ (X : List UInt8) (v' : Value) (j : Nat) (hj : j < ls.length) (w' : World), Bf w.heap.size (w.alloc (.cells #[.slice a ls.length c, .int .u8 t] 77)) none v' X w' → X.length ≤ 90000000000000 →
      Calls Tryz.prog 88 #[v', .agg #[.float .f64 (ls[j]).c.x, .float .f64 (ls[j]).c.y, .float .f64 (ls[j]).c.z, .float .f64 (ls[j]).c.m, .int .u8 (ls[j]).c.t]] w' fun e w2 => ∃ v2, e = .returned v2 ∧ Bf w.heap.size (w.alloc (.cells #[.slice a ls.length c, .int .u8 t] 77)) none v2 (X ++ jcrdC f (ls[j]).c) w2) := Lib.hid fun X v' j hj w' hx hl =>
    (hF.place w.heap.size X v' _ _ _ _ _ w' (hx.tabs hTW (by simp)) h6 hx.here hl (hok _ (List.getElem_mem hj)).1 (hok _ (List.getElem_mem hj)).2).mono fun e w2 ⟨v2, he, h2⟩ => ⟨v2, he, hx.then h2⟩
  have HLn : Hid (∀ j, (jmid f ls j).length ≤ 70000000000000) := Lib.hid fun j => Nat.le_trans (jmid_len f ls j) hlen
  have HW := Lib.hid hbW; have Hb1 := Lib.hid hb1; have Hap1 := Lib.hid hap1
  clear hbW hTW hLW hrW hb0 hb1 hap1 h hT hok hlen
  go_enter Tryz.func42, Tryz.ntmps42
  go_wp2_with (at_builtin; refine wpList_append_eqs rfl _ _ 32 9 rfl rfl rfl rfl Hap1.out ?_)
  go_loopw [4, 5, 15] (fun v' fl i wr => ∃ j : Nat, j ≤ ls.length ∧ i = .int .i64 j ∧ ∃ b, fl = .bool b ∧ b = decide (((ls.take j).filter (·.full)).length = 0) ∧ Bf w.heap.size (w.alloc (.cells #[.slice a ls.length c, .int .u8 t] 77)) none v' (jhdMp ++ jmid f ls j) wr) (fun _ _ i _ => ls.length - (intOf i).toNat)
  case atStart => exact ⟨0, Nat.zero_le _, rfl, true, rfl, by simp, by simpa [jmid, sepB] using Hb1.out⟩
  case round =>
    clear Hb1 Hap1 kb
    obtain ⟨j, hj, rfl, b, rfl, hb, hx⟩ := hrel
    have Hb := Lib.hid hb
    clear hb
    have hlx : (jhdMp ++ jmid f ls j).length ≤ 70000000000100 := by have := HLn.out j; simp only [List.length_append]; omega
    by_cases hlt : j < ls.length
    · obtain ⟨a0, c0, e0, hm, hat⟩ := pts_at (Hrd.out _ _ _ hx)
      obtain ⟨rfl, _, rfl⟩ := Value.slice.inj e0
      obtain ⟨bl, off, rfl, hSb, hbl, q0, q1, q2, q3, q4, q5⟩ := hat j hlt
      clear hat e0
      cases hfu : (ls[j]).full
      · have HS := Lib.hid (jmid_skip f ls j hlt hfu)
        rw [hfu] at q5
        have hxA := hx.alloc (.cells #[.float .f64 (ls[j]).c.x, .float .f64 (ls[j]).c.y, .float .f64 (ls[j]).c.z, .float .f64 (ls[j]).c.m, .int .u8 (ls[j]).c.t, .bool false] 63)
        have H97 := Lib.hid (c97 (ls[j]).c.x (ls[j]).c.y (ls[j]).c.z (ls[j]).c.m (ls[j]).c.t false (wr.alloc (.cells #[.float .f64 (ls[j]).c.x, .float .f64 (ls[j]).c.y, .float .f64 (ls[j]).c.z, .float .f64 (ls[j]).c.m, .int .u8 (ls[j]).c.t, .bool false] 63)))
        have HxA := Lib.hid hxA
        clear hx hxA
        go_wp2_with fail
        refine H97.out.mono ?_
        rintro _ w1 ⟨rfl, hb1⟩
        have hx1 := HxA.out.step hb1
        have hx2 := hx1.alloc (.cells #[.float .f64 (ls[j]).c.x, .float .f64 (ls[j]).c.y, .float .f64 (ls[j]).c.z, .float .f64 (ls[j]).c.m, .int .u8 (ls[j]).c.t] 61)
        clear hb1 H97 HxA
        have Hx2 := Lib.hid hx2
        clear hx1 hx2 q0 q1 q2 q3 q4 q5
        go_wp2_with fail
        go_roundw
        case rel => exact ⟨j + 1, by omega, by go_num, b, rfl, by rw [HS.out.2]; exact Hb.out, by rw [HS.out.1]; exact Hx2.out⟩
        case measure => simp [intOf]; omega
      · have HS := Lib.hid (jmid_next f ls j hlt hfu)
        rw [hfu] at q5
        have hxA := hx.alloc (.cells #[.float .f64 (ls[j]).c.x, .float .f64 (ls[j]).c.y, .float .f64 (ls[j]).c.z, .float .f64 (ls[j]).c.m, .int .u8 (ls[j]).c.t, .bool true] 63)
        have H97 := Lib.hid (c97 (ls[j]).c.x (ls[j]).c.y (ls[j]).c.z (ls[j]).c.m (ls[j]).c.t true (wr.alloc (.cells #[.float .f64 (ls[j]).c.x, .float .f64 (ls[j]).c.y, .float .f64 (ls[j]).c.z, .float .f64 (ls[j]).c.m, .int .u8 (ls[j]).c.t, .bool true] 63)))
        have HxA := Lib.hid hxA
        clear hx hxA
        go_wp2_with fail
        refine H97.out.mono ?_
        rintro _ w1 ⟨rfl, hb1⟩
        have hx1 := HxA.out.step hb1
        have hx2 := hx1.alloc (.cells #[.float .f64 (ls[j]).c.x, .float .f64 (ls[j]).c.y, .float .f64 (ls[j]).c.z, .float .f64 (ls[j]).c.m, .int .u8 (ls[j]).c.t] 61)
        clear hb1 H97 HxA
        have hfr := hx1.fresh'
        have hLe := Lb.new w1 #[.float .f64 (ls[j]).c.x, .float .f64 (ls[j]).c.y, .float .f64 (ls[j]).c.z, .float .f64 (ls[j]).c.m, .int .u8 (ls[j]).c.t] 61
        cases b
        · have hnz : ((ls.take j).filter (·.full)).length ≠ 0 := by have := Hb.out; simpa using this.symm
          have HS1 : Hid (jhdMp ++ jmid f ls (j + 1) = jhdMp ++ jmid f ls j ++ [44] ++ jcrdC f (ls[j]).c) := Lib.hid (by rw [HS.out.1, if_neg hnz]; simp)
          obtain ⟨v4, w4, hap4, hx4⟩ := hx2.here.byte 44 (by omega)
          rw [World.size_alloc] at hap4
          obtain ⟨k4, _, _⟩ := (hx4.lb hLe hfr).use
          have Hap4 := Lib.hid hap4
          have Hx4 := Lib.hid (hx2.then hx4)
          clear hx1 hx2 hap4 hx4 hLe hfr hnz q0 q1 q2 q3 q4 q5
          go_wp2_with (at_builtin; refine wpList_append_eq rfl _ _ 32 rfl rfl rfl rfl Hap4.out ?_)
          refine (Hpl.out _ _ j hlt _ Hx4.out (by simp only [List.length_append, List.length_cons, List.length_nil] at hlx ⊢; omega)).mono ?_
          rintro _ w5 ⟨v5, rfl, hx5⟩
          have Hx5 := Lib.hid hx5
          clear hx5 k4
          go_wp2_with fail
          go_roundw
          case rel => exact ⟨j + 1, by omega, by go_num, false, rfl, by rw [HS.out.2]; simp, by rw [HS1.out]; exact Hx5.out⟩
          case measure => simp [intOf]; omega
        · have hz : ((ls.take j).filter (·.full)).length = 0 := by have := Hb.out; simpa using this.symm
          have HS1 : Hid (jhdMp ++ jmid f ls (j + 1) = jhdMp ++ jmid f ls j ++ jcrdC f (ls[j]).c) := Lib.hid (by rw [HS.out.1, if_pos hz]; simp)
          have Hx2 := Lib.hid hx2
          clear hx1 hx2 hLe hfr hz q0 q1 q2 q3 q4 q5
          go_wp2_with fail
          refine (Hpl.out _ _ j hlt _ Hx2.out (by omega)).mono ?_
          rintro _ w5 ⟨v5, rfl, hx5⟩
          have Hx5 := Lib.hid hx5
          clear hx5
          go_wp2_with fail
          go_roundw
          case rel => exact ⟨j + 1, by omega, by go_num, false, rfl, by rw [HS.out.2]; simp, by rw [HS1.out]; exact Hx5.out⟩
          case measure => simp [intOf]; omega
    · obtain rfl : j = ls.length := by omega
      have hdl : decide (((ls.length : Nat) : Int) < ls.length) = false := by simp
      have e93 : (ByteArray.mk #[93, 125]).size = 2 := rfl
      obtain ⟨v6, w6, hap6, hx6⟩ := hx.text ⟨#[93, 125]⟩ (by rw [e93]; omega)
      have Hap6 := Lib.hid hap6; have Hx6 := Lib.hid hx6
      clear hx hap6 hx6 e93
      go_wp2_with (at_builtin; refine wpList_append_eqs rfl _ _ 32 9 rfl rfl rfl rfl Hap6.out ?_)
      exact bodyPost_ret (v := .tuple #[v6, .nilIface]) (by simp [results, Tryz.results42, go_sem]) rfl ⟨v6, rfl, HW.out.then Hx6.out⟩
end Go.Proofs.YtahnhhkbdgaidaaGreatDoor
