/-
  The writer of binary forms: a geometry of any kind.
  The writer of binary forms: WriteWKB.
  All numbers of a geometry are numbers.
  The argument's datum, opened: a geometry as plain data lies in memory as it reads.
-/
import Derived.Test.YtahnhhkbdgaidaaGreatDoorKbh
import Derived.Test.YtahnhhkbdgaidaaGreatDoorKbb
import Derived.ProofKit
import Derived.SizedLaws
import Derived.Test.YtahnhhkbdgaidaaGreatDoorKas
namespace Go.Proofs.YtahnhhkbdgaidaaGreatDoor
open Go.RowKit
set_option maxRecDepth 100000
theorem Apnd.from {B : Nat} {v : Value} {bs X : List UInt8} {w w1 : World} (hb : Below w.heap.size w w1) (hB : B ≤ w.heap.size) {e : Ending} {w' : World} (h : Apnd B v bs X w1 e w') : Apnd B v bs X w e w' := by
  obtain ⟨v', he, h1⟩ := h
  refine ⟨v', he, h1.own, ⟨h1.kept.os.trans hb.os, h1.kept.tape.trans hb.tape, h1.kept.output.trans hb.output, Nat.le_trans hb.size h1.kept.size, fun b hlt hne => (h1.kept.block b (Nat.lt_of_lt_of_le hlt hb.size) hne).trans (hb.block b hlt)⟩, fun j hj => ?_, hB⟩
  rcases h1.lies j hj with k | k
  · exact .inl (Nat.le_trans hb.size k)
  · exact .inr k
set_option maxHeartbeats 1000000 in
theorem c121_1 (B : Nat) (av : Option Addr) (lv cv : Nat) (bs X : List UInt8) (x y z m : Nat) (t : Int) (f : Bool) (b : Nat) (w : World) (hB : B ≤ w.heap.size) (hb : b < w.heap.size) (q0 : w.cell? ⟨b, 0, none⟩ = some (.float .f64 x)) (q1 : w.cell? ⟨b, 1, none⟩ = some (.float .f64 y)) (q2 : w.cell? ⟨b, 2, none⟩ = some (.float .f64 z)) (q3 : w.cell? ⟨b, 3, none⟩ = some (.float .f64 m)) (q4 : w.cell? ⟨b, 4, none⟩ = some (.int .u8 t)) (q5 : w.cell? ⟨b, 5, none⟩ = some (.bool f))
    (HF : ∀ w1, Below w.heap.size w w1 → Calls Tryz.prog 171 #[.agg #[.float .f64 x, .float .f64 y, .float .f64 z, .float .f64 m, .int .u8 t, .bool f], .slice av lv cv] w1 (Apnd B (.slice av lv cv) bs X w1)) :
    Calls Tryz.prog 121 #[.agg #[.int .i64 1, .iface 168 (.pointer (some ⟨b, 0, none⟩))], .slice av lv cv] w (Apnd B (.slice av lv cv) bs X w) := by
  have hsf := st_float
  have hB1 := bl_a1 w (.cells #[.int .i64 1, .iface 168 (.pointer (some ⟨b, 0, none⟩))] 47)
  have Q0 := (hB1.cell (p := ⟨b, 0, none⟩) hb).trans q0
  have Q1 := (hB1.cell (p := ⟨b, 1, none⟩) hb).trans q1
  have Q2 := (hB1.cell (p := ⟨b, 2, none⟩) hb).trans q2
  have Q3 := (hB1.cell (p := ⟨b, 3, none⟩) hb).trans q3
  have Q4 := (hB1.cell (p := ⟨b, 4, none⟩) hb).trans q4
  have Q5 := (hB1.cell (p := ⟨b, 5, none⟩) hb).trans q5
  have HB := Lib.hid hB1
  have HF := Lib.hid HF
  clear q0 q1 q2 q3 q4 q5 hB1
  go_enter Tryz.func121, Tryz.ntmps121
  go_wp2_with fail
  refine (d67 x y z m t f b _ (by simp; omega) Q0 Q1 Q2 Q3 Q4 Q5).mono ?_
  rintro _ w2 ⟨rfl, hb2⟩
  have HB2 := Lib.hid (HB.out.trans (hb2.mono (by simp)))
  have HG := Lib.hid (HF.out w2 HB2.out)
  clear HB HF hb2 Q0 Q1 Q2 Q3 Q4 Q5
  go_wp2_with fail
  refine HG.out.mono ?_
  rintro e3 w3 hm
  obtain ⟨v', rfl, hbf⟩ := Apnd.from HB2.out hB hm
  have Hbf := Lib.hid hbf
  clear hm hbf HG HB2
  go_wp2_with fail
  go_ret
  exact ⟨v', rfl, Hbf.out⟩
set_option maxHeartbeats 1000000 in
theorem c121_2 (B : Nat) (av : Option Addr) (lv cv : Nat) (bs X : List UInt8) (t : Int) (a : Option Addr) (n c : Nat) (b : Nat) (w : World) (hB : B ≤ w.heap.size) (hb : b < w.heap.size) (q0 : w.cell? ⟨b, 0, none⟩ = some (.int .u8 t)) (q1 : w.cell? ⟨b, 1, none⟩ = some (.slice a n c))
    (HF : ∀ w1, Below w.heap.size w w1 → Calls Tryz.prog 172 #[.agg #[.int .u8 t, .slice a n c], .slice av lv cv] w1 (Apnd B (.slice av lv cv) bs X w1)) :
    Calls Tryz.prog 121 #[.agg #[.int .i64 2, .iface 169 (.pointer (some ⟨b, 0, none⟩))], .slice av lv cv] w (Apnd B (.slice av lv cv) bs X w) := by
  have hsf := st_float
  have hB1 := bl_a1 w (.cells #[.int .i64 2, .iface 169 (.pointer (some ⟨b, 0, none⟩))] 47)
  have Q0 := (hB1.cell (p := ⟨b, 0, none⟩) hb).trans q0
  have Q1 := (hB1.cell (p := ⟨b, 1, none⟩) hb).trans q1
  have HB := Lib.hid hB1
  have HF := Lib.hid HF
  clear q0 q1 hB1
  go_enter Tryz.func121, Tryz.ntmps121
  go_wp2_with fail
  refine (d69 t a n c b _ (by simp; omega) Q0 Q1).mono ?_
  rintro _ w2 ⟨rfl, hb2⟩
  have HB2 := Lib.hid (HB.out.trans (hb2.mono (by simp)))
  have HG := Lib.hid (HF.out w2 HB2.out)
  clear HB HF hb2 Q0 Q1
  go_wp2_with fail
  refine HG.out.mono ?_
  rintro e3 w3 hm
  obtain ⟨v', rfl, hbf⟩ := Apnd.from HB2.out hB hm
  have Hbf := Lib.hid hbf
  clear hm hbf HG HB2
  go_wp2_with fail
  go_ret
  exact ⟨v', rfl, Hbf.out⟩
set_option maxHeartbeats 1000000 in
theorem c121_3 (B : Nat) (av : Option Addr) (lv cv : Nat) (bs X : List UInt8) (t : Int) (a : Option Addr) (n c : Nat) (b : Nat) (w : World) (hB : B ≤ w.heap.size) (hb : b < w.heap.size) (q0 : w.cell? ⟨b, 0, none⟩ = some (.slice a n c)) (q1 : w.cell? ⟨b, 1, none⟩ = some (.int .u8 t))
    (HF : ∀ w1, Below w.heap.size w w1 → Calls Tryz.prog 173 #[.agg #[.slice a n c, .int .u8 t], .slice av lv cv] w1 (Apnd B (.slice av lv cv) bs X w1)) :
    Calls Tryz.prog 121 #[.agg #[.int .i64 3, .iface 170 (.pointer (some ⟨b, 0, none⟩))], .slice av lv cv] w (Apnd B (.slice av lv cv) bs X w) := by
  have hsf := st_float
  have hB1 := bl_a1 w (.cells #[.int .i64 3, .iface 170 (.pointer (some ⟨b, 0, none⟩))] 47)
  have Q0 := (hB1.cell (p := ⟨b, 0, none⟩) hb).trans q0
  have Q1 := (hB1.cell (p := ⟨b, 1, none⟩) hb).trans q1
  have HB := Lib.hid hB1
  have HF := Lib.hid HF
  clear q0 q1 hB1
  go_enter Tryz.func121, Tryz.ntmps121
  go_wp2_with fail
  refine (d71 t a n c b _ (by simp; omega) Q0 Q1).mono ?_
  rintro _ w2 ⟨rfl, hb2⟩
  have HB2 := Lib.hid (HB.out.trans (hb2.mono (by simp)))
  have HG := Lib.hid (HF.out w2 HB2.out)
  clear HB HF hb2 Q0 Q1
  go_wp2_with fail
  refine HG.out.mono ?_
  rintro e3 w3 hm
  obtain ⟨v', rfl, hbf⟩ := Apnd.from HB2.out hB hm
  have Hbf := Lib.hid hbf
  clear hm hbf HG HB2
  go_wp2_with fail
  go_ret
  exact ⟨v', rfl, Hbf.out⟩
set_option maxHeartbeats 1000000 in
theorem c121_4 (B : Nat) (av : Option Addr) (lv cv : Nat) (bs X : List UInt8) (t : Int) (a : Option Addr) (n c : Nat) (b : Nat) (w : World) (hB : B ≤ w.heap.size) (hb : b < w.heap.size) (q0 : w.cell? ⟨b, 0, none⟩ = some (.slice a n c)) (q1 : w.cell? ⟨b, 1, none⟩ = some (.int .u8 t))
    (HF : ∀ w1, Below w.heap.size w w1 → Calls Tryz.prog 174 #[.agg #[.slice a n c, .int .u8 t], .slice av lv cv] w1 (Apnd B (.slice av lv cv) bs X w1)) :
    Calls Tryz.prog 121 #[.agg #[.int .i64 4, .iface 171 (.pointer (some ⟨b, 0, none⟩))], .slice av lv cv] w (Apnd B (.slice av lv cv) bs X w) := by
  have hsf := st_float
  have hB1 := bl_a1 w (.cells #[.int .i64 4, .iface 171 (.pointer (some ⟨b, 0, none⟩))] 47)
  have Q0 := (hB1.cell (p := ⟨b, 0, none⟩) hb).trans q0
  have Q1 := (hB1.cell (p := ⟨b, 1, none⟩) hb).trans q1
  have HB := Lib.hid hB1
  have HF := Lib.hid HF
  clear q0 q1 hB1
  go_enter Tryz.func121, Tryz.ntmps121
  go_wp2_with fail
  refine (d73 t a n c b _ (by simp; omega) Q0 Q1).mono ?_
  rintro _ w2 ⟨rfl, hb2⟩
  have HB2 := Lib.hid (HB.out.trans (hb2.mono (by simp)))
  have HG := Lib.hid (HF.out w2 HB2.out)
  clear HB HF hb2 Q0 Q1
  go_wp2_with fail
  refine HG.out.mono ?_
  rintro e3 w3 hm
  obtain ⟨v', rfl, hbf⟩ := Apnd.from HB2.out hB hm
  have Hbf := Lib.hid hbf
  clear hm hbf HG HB2
  go_wp2_with fail
  go_ret
  exact ⟨v', rfl, Hbf.out⟩
set_option maxHeartbeats 1000000 in
theorem c121_5 (B : Nat) (av : Option Addr) (lv cv : Nat) (bs X : List UInt8) (t : Int) (a : Option Addr) (n c : Nat) (b : Nat) (w : World) (hB : B ≤ w.heap.size) (hb : b < w.heap.size) (q0 : w.cell? ⟨b, 0, none⟩ = some (.slice a n c)) (q1 : w.cell? ⟨b, 1, none⟩ = some (.int .u8 t))
    (HF : ∀ w1, Below w.heap.size w w1 → Calls Tryz.prog 175 #[.agg #[.slice a n c, .int .u8 t], .slice av lv cv] w1 (Apnd B (.slice av lv cv) bs X w1)) :
    Calls Tryz.prog 121 #[.agg #[.int .i64 5, .iface 172 (.pointer (some ⟨b, 0, none⟩))], .slice av lv cv] w (Apnd B (.slice av lv cv) bs X w) := by
  have hsf := st_float
  have hB1 := bl_a1 w (.cells #[.int .i64 5, .iface 172 (.pointer (some ⟨b, 0, none⟩))] 47)
  have Q0 := (hB1.cell (p := ⟨b, 0, none⟩) hb).trans q0
  have Q1 := (hB1.cell (p := ⟨b, 1, none⟩) hb).trans q1
  have HB := Lib.hid hB1
  have HF := Lib.hid HF
  clear q0 q1 hB1
  go_enter Tryz.func121, Tryz.ntmps121
  go_wp2_with fail
  refine (d75 t a n c b _ (by simp; omega) Q0 Q1).mono ?_
  rintro _ w2 ⟨rfl, hb2⟩
  have HB2 := Lib.hid (HB.out.trans (hb2.mono (by simp)))
  have HG := Lib.hid (HF.out w2 HB2.out)
  clear HB HF hb2 Q0 Q1
  go_wp2_with fail
  refine HG.out.mono ?_
  rintro e3 w3 hm
  obtain ⟨v', rfl, hbf⟩ := Apnd.from HB2.out hB hm
  have Hbf := Lib.hid hbf
  clear hm hbf HG HB2
  go_wp2_with fail
  go_ret
  exact ⟨v', rfl, Hbf.out⟩
set_option maxHeartbeats 1000000 in
theorem c121_6 (B : Nat) (av : Option Addr) (lv cv : Nat) (bs X : List UInt8) (t : Int) (a : Option Addr) (n c : Nat) (b : Nat) (w : World) (hB : B ≤ w.heap.size) (hb : b < w.heap.size) (q0 : w.cell? ⟨b, 0, none⟩ = some (.slice a n c)) (q1 : w.cell? ⟨b, 1, none⟩ = some (.int .u8 t))
    (HF : ∀ w1, Below w.heap.size w w1 → Calls Tryz.prog 176 #[.agg #[.slice a n c, .int .u8 t], .slice av lv cv] w1 (Apnd B (.slice av lv cv) bs X w1)) :
    Calls Tryz.prog 121 #[.agg #[.int .i64 6, .iface 173 (.pointer (some ⟨b, 0, none⟩))], .slice av lv cv] w (Apnd B (.slice av lv cv) bs X w) := by
  have hsf := st_float
  have hB1 := bl_a1 w (.cells #[.int .i64 6, .iface 173 (.pointer (some ⟨b, 0, none⟩))] 47)
  have Q0 := (hB1.cell (p := ⟨b, 0, none⟩) hb).trans q0
  have Q1 := (hB1.cell (p := ⟨b, 1, none⟩) hb).trans q1
  have HB := Lib.hid hB1
  have HF := Lib.hid HF
  clear q0 q1 hB1
  go_enter Tryz.func121, Tryz.ntmps121
  go_wp2_with fail
  refine (d77 t a n c b _ (by simp; omega) Q0 Q1).mono ?_
  rintro _ w2 ⟨rfl, hb2⟩
  have HB2 := Lib.hid (HB.out.trans (hb2.mono (by simp)))
  have HG := Lib.hid (HF.out w2 HB2.out)
  clear HB HF hb2 Q0 Q1
  go_wp2_with fail
  refine HG.out.mono ?_
  rintro e3 w3 hm
  obtain ⟨v', rfl, hbf⟩ := Apnd.from HB2.out hB hm
  have Hbf := Lib.hid hbf
  clear hm hbf HG HB2
  go_wp2_with fail
  go_ret
  exact ⟨v', rfl, Hbf.out⟩
set_option maxHeartbeats 1000000 in
theorem c121_0 (B : Nat) (av : Option Addr) (lv cv : Nat) (bs X : List UInt8) (t : Int) (a : Option Addr) (n c : Nat) (b : Nat) (w : World) (hB : B ≤ w.heap.size) (hb : b < w.heap.size) (q0 : w.cell? ⟨b, 0, none⟩ = some (.slice a n c)) (q1 : w.cell? ⟨b, 1, none⟩ = some (.int .u8 t))
    (HF : ∀ w1, Below w.heap.size w w1 → Calls Tryz.prog 170 #[.agg #[.slice a n c, .int .u8 t], .slice av lv cv] w1 (Apnd B (.slice av lv cv) bs X w1)) :
    Calls Tryz.prog 121 #[.agg #[.int .i64 0, .iface 176 (.pointer (some ⟨b, 0, none⟩))], .slice av lv cv] w (Apnd B (.slice av lv cv) bs X w) := by
  have hsf := st_float
  have hB1 := bl_a1 w (.cells #[.int .i64 0, .iface 176 (.pointer (some ⟨b, 0, none⟩))] 47)
  have Q0 := (hB1.cell (p := ⟨b, 0, none⟩) hb).trans q0
  have Q1 := (hB1.cell (p := ⟨b, 1, none⟩) hb).trans q1
  have HB := Lib.hid hB1
  have HF := Lib.hid HF
  clear q0 q1 hB1
  go_enter Tryz.func121, Tryz.ntmps121
  go_wp2_with fail
  refine (d65 t a n c b _ (by simp; omega) Q0 Q1).mono ?_
  rintro _ w2 ⟨rfl, hb2⟩
  have HB2 := Lib.hid (HB.out.trans (hb2.mono (by simp)))
  have HG := Lib.hid (HF.out w2 HB2.out)
  clear HB HF hb2 Q0 Q1
  go_wp2_with fail
  refine HG.out.mono ?_
  rintro e3 w3 hm
  obtain ⟨v', rfl, hbf⟩ := Apnd.from HB2.out hB hm
  have Hbf := Lib.hid hbf
  clear hm hbf HG HB2
  go_wp2_with fail
  go_ret
  exact ⟨v', rfl, Hbf.out⟩
def wkPg (p : Pg) : List UInt8 := wkH 3 p.t ++ Lib.leBytes 4 p.rings.length ++ p.rings.flatMap fun l => wkSeq l.t l.xs
mutual
def wkB : Geo → List UInt8
  | .pt p => wkPt p
  | .ln l => wkLn l
  | .pg p => wkPg p
  | .mp ps t => wkH 4 t ++ Lib.leBytes 4 ps.length ++ ps.flatMap wkPt
  | .ml ls t => wkH 5 t ++ Lib.leBytes 4 ls.length ++ ls.flatMap wkLn
  | .mg ps t => wkH 6 t ++ Lib.leBytes 4 ps.length ++ ps.flatMap wkPg
  | .gc gs t => wkH 0 t ++ Lib.leBytes 4 gs.length ++ wkBL gs
def wkBL : List Geo → List UInt8
  | [] => []
  | g :: r => wkB g ++ wkBL r
end
theorem wkBL_map : ∀ l : List Geo, wkBL l = l.flatMap wkB
  | [] => by simp [wkBL]
  | g :: r => by simp [wkBL, wkBL_map r]
mutual
/-- All numbers are of eight bytes, no list is too long. -/
def G.fit : G → Prop
  | .mk _ _ ns ks => ns.length ≤ 100000000 ∧ (∀ n ∈ ns, n < 18446744073709551616) ∧ G.fitL ks
def G.fitL : List G → Prop
  | [] => True
  | g :: r => g.fit ∧ G.fitL r
end
theorem G.fitL_iff : ∀ (l : List G), G.fitL l ↔ ∀ g ∈ l, g.fit
  | [] => by simp [G.fitL]
  | g :: r => by simp only [G.fitL, G.fitL_iff r, List.forall_mem_cons]
theorem ptG_fit {p : Pt} (h : (ptG p).fit) : p.full = true → ∀ n ∈ crdNums p.c.t p.c, n < 18446744073709551616 := fun hf => by
  simp only [ptG, hf, if_true, G.fit] at h; exact h.2.1
theorem lnG_fit {l : Ln} (h : (lnG l).fit) : l.xs.length ≤ 100000000 ∧ ∀ n ∈ l.xs, n < 18446744073709551616 := by
  simp only [lnG, G.fit] at h; exact ⟨h.1, h.2.1⟩
theorem pgG_fit {p : Pg} (h : (pgG p).fit) : ∀ l ∈ p.rings, (lnG l).fit := fun l hl => by
  simp only [pgG, G.fit, G.fitL_iff] at h; exact h.2.2 _ (List.mem_map.2 ⟨l, hl, rfl⟩)
/-- The bytes of a list's parts, one behind another. -/
def XL {α : Type} (f : α → List UInt8) (l : List α) (j : Nat) : List UInt8 := (l[j]?.map f).getD []
theorem XL_at {α : Type} (f : α → List UInt8) (l : List α) (j : Nat) (h : j < l.length) : XL f l j = f l[j] := by simp [XL, h]
theorem YX_take {α : Type} (f : α → List UInt8) (l : List α) : ∀ j, j ≤ l.length → YX (XL f l) j = (l.take j).flatMap f
  | 0, _ => by simp [YX_zero]
  | j + 1, h => by
    rw [YX_succ, YX_take f l j (by omega), XL_at f l j (by omega), List.take_succ_eq_append_getElem (by omega), List.flatMap_append]; simp
theorem YX_all {α : Type} (f : α → List UInt8) (l : List α) : YX (XL f l) l.length = l.flatMap f := by rw [YX_take f l _ (Nat.le_refl _), List.take_length]
theorem YX_le {α : Type} (f : α → List UInt8) (l : List α) (j : Nat) (h : j ≤ l.length) : (YX (XL f l) j).length ≤ (l.flatMap f).length := by
  rw [YX_take f l j h]
  conv => rhs; rw [← List.take_append_drop j l, List.flatMap_append, List.length_append]
  omega
theorem part_len {α : Type} (f : α → List UInt8) (l : List α) (x : α) (h : x ∈ l) : (f x).length ≤ (l.flatMap f).length := by
  obtain ⟨s, t, rfl⟩ := List.append_of_mem h
  simp only [List.flatMap_append, List.flatMap_cons, List.length_append]; omega
theorem c173' (S : Nat → Prop) (B : Nat) (v : Value) (bs : List UInt8) (p : Pg) (a : Option Addr) (c : Nat) (w : World) (hok : p.ok) (hf : (pgG p).fit) (hlen : bs.length + (wkPg p).length ≤ 9000000000000) (hb : Bf B w v.ownBlock v bs w) (hS : Off S v w) (h : Rd S w (.list (p.rings.map Ln.fs)) (.slice a p.rings.length c)) :
    Calls Tryz.prog 173 #[.agg #[.slice a p.rings.length c, .int .u8 p.t], v] w (Apnd B v bs (wkPg p) w) := by
  have hl : (wkPg p).length = 9 + (p.rings.flatMap fun l => wkSeq l.t l.xs).length := by
    unfold wkPg; rw [List.length_append, List.length_append, wkH_len, Lib.leBytes_length]
  have := c173 S B v bs p.rings (XL (fun l => wkSeq l.t l.xs) p.rings) p.t a c w hok.2.1 hok.1 (fun l hl => (lnG_fit (pgG_fit hf l hl)).1) (fun l hl => (lnG_fit (pgG_fit hf l hl)).2) hok.2.2.1 hok.2.2.2 (fun j hj => XL_at _ _ j hj) (fun j hj => by have := YX_le (fun l : Ln => wkSeq l.t l.xs) p.rings j hj; omega) hb hS h
  rw [YX_all] at this
  exact this
theorem Off.blw {S : Nat → Prop} {v : Value} {w w1 : World} (h : Off S v w) (hb : Below w.heap.size w w1) : Off S v w1 := fun b hS => ⟨Nat.lt_of_lt_of_le (h b hS).1 hb.size, (h b hS).2⟩
theorem Bf.blw {B : Nat} {v : Value} {bs : List UInt8} {w w1 : World} (h : Bf B w v.ownBlock v bs w) (hb : Below w.heap.size w w1) : Bf B w1 v.ownBlock v bs w1 := (h.step hb).here
theorem c121 : ∀ (m : Nat) (g : Geo) (S : Nat → Prop) (B : Nat) (v : Value) (bs : List UInt8) (w : World) (u : Value), g.size ≤ m → g.ok → g.toG.fit → bs.length + (wkB g).length ≤ 8000000000000 → Bf B w v.ownBlock v bs w → Off S v w → GeoV S w g u →
    Calls Tryz.prog 121 #[.agg #[.int .i64 g.kind, u], v] w (Apnd B v bs (wkB g) w) := by
  intro m
  induction m with
  | zero => intro g _ _ _ _ _ _ h; cases g <;> simp [Geo.size] at h
  | succ m ih =>
    intro g S B v bs w u hm hok hf hlen hbf hS h
    obtain ⟨b, rfl⟩ := h.shape
    obtain ⟨av, cv, rfl⟩ := hbf.shape
    have hB := hbf.hB
    cases g with
    | pt p =>
      obtain ⟨hb, q0, q1, q2, q3, q4, q5⟩ := box_pt h
      exact c121_1 B av _ cv bs (wkPt p) _ _ _ _ _ _ b w hB hb q0 q1 q2 q3 q4 q5 (fun w1 hB1 => c171 B _ bs p w1 hok (ptG_fit hf) (hbf.blw hB1) (by simp only [wkB] at hlen; omega))
    | ln l =>
      obtain ⟨hb, a, c, q0, q1, hr⟩ := box_ln h
      exact c121_2 B av _ cv bs (wkLn l) _ _ _ _ b w hB hb q0 q1 (fun w1 hB1 => c172 S B _ bs l a c w1 hok (lnG_fit hf).1 (lnG_fit hf).2 (hbf.blw hB1) (by simp only [wkB] at hlen; omega) (hS.blw hB1) (hr.blw hB1))
    | pg p =>
      obtain ⟨hb, a, c, q0, q1, hr⟩ := box_list h
      have hl : (p.rings.map Ln.fs).length = p.rings.length := by simp
      rw [hl] at q0 hr
      exact c121_3 B av _ cv bs (wkPg p) _ _ _ _ b w hB hb q0 q1 (fun w1 hB1 => c173' S B _ bs p a c w1 hok hf (by simp only [wkB] at hlen; omega) (hbf.blw hB1) (hS.blw hB1) (hr.blw hB1))
    | mp ps t =>
      obtain ⟨hb, a, c, q0, q1, hr⟩ := box_list (h : Rd S w (.box 171 [.list (ps.map Pt.fs), .atom (.int .u8 t)]) _)
      have hl : (ps.map Pt.fs).length = ps.length := by simp
      rw [hl] at q0 hr
      simp only [Geo.ok] at hok
      simp only [Geo.toG, G.fit, G.fitL_iff] at hf
      simp only [wkB, List.length_append, wkH_len, Lib.leBytes_length] at hlen
      refine c121_4 B av _ cv bs (wkB (.mp ps t)) _ _ _ _ b w hB hb q0 q1 (fun w1 hB1 => ?_)
      have := c174_g S B (fun j u _ => ∃ h : j < ps.length, u = .agg (ps[j]).cells) (XL wkPt ps) (.list (ps.map Pt.fs)) ps.length (.slice av bs.length cv) bs t a c w1 hok.2.1 hok.2.2.1 hok.2.2.2 (fun j hj => by have := YX_le wkPt ps j hj; omega) (hbf.blw hB1) (hS.blw hB1) (fun j u w1 w2 h _ => h)
        (fun j hj w' hr' _ => (c153 S ps j hj t a c w' hr').mono fun e w'' ⟨he, hb'⟩ => ⟨_, _, _, _, _, _, he, ⟨hj, rfl⟩, hb'⟩)
        (fun j hj u v' bs' w' hq hbf' hl' hS' => by
          obtain ⟨_, rfl⟩ := hq
          have hyl := YX_le wkPt ps j (by omega)
          rw [XL_at wkPt ps j hj]
          exact c171 B v' bs' ps[j] w' (hok.1 _ (List.getElem_mem hj)) (ptG_fit (hf.2.2 _ (List.mem_map.2 ⟨_, List.getElem_mem hj, rfl⟩))) hbf' (by omega)) (hr.blw hB1)
      rw [YX_all] at this
      exact this
    | ml ls t =>
      obtain ⟨hb, a, c, q0, q1, hr⟩ := box_list (h : Rd S w (.box 172 [.list (ls.map Ln.fs), .atom (.int .u8 t)]) _)
      have hl : (ls.map Ln.fs).length = ls.length := by simp
      rw [hl] at q0 hr
      simp only [Geo.ok] at hok
      simp only [Geo.toG, G.fit, G.fitL_iff] at hf
      simp only [wkB, List.length_append, wkH_len, Lib.leBytes_length] at hlen
      refine c121_5 B av _ cv bs (wkB (.ml ls t)) _ _ _ _ b w hB hb q0 q1 (fun w1 hB1 => ?_)
      have := c175_g S B (fun j u w' => ∃ h : j < ls.length, ∃ a' c', u = .agg #[.int .u8 (ls[j]).t, .slice a' (ls[j]).xs.length c'] ∧ Rd S w' (fl (ls[j]).xs) (.slice a' (ls[j]).xs.length c')) (XL wkLn ls) (.list (ls.map Ln.fs)) ls.length (.slice av bs.length cv) bs t a c w1 hok.2.1 hok.2.2.1 hok.2.2.2 (fun j hj => by have := YX_le wkLn ls j hj; omega) (hbf.blw hB1) (hS.blw hB1) (fun j u w1 w2 ⟨h, a', c', hu, hr⟩ hb' => ⟨h, a', c', hu, hr.blw hb'⟩)
        (fun j hj w' hr' _ => (c144 S ls j hj t a c w' hr').mono fun e w'' ⟨a', c', he, hr2, hb'⟩ => ⟨_, _, _, _, he, ⟨hj, a', c', rfl, hr2⟩, hb'⟩)
        (fun j hj u v' bs' w' hq hbf' hl' hS' => by
          obtain ⟨_, a', c', rfl, hr2⟩ := hq
          have hyl := YX_le wkLn ls j (by omega)
          rw [XL_at wkLn ls j hj]
          have hff := lnG_fit (hf.2.2 _ (List.mem_map.2 ⟨_, List.getElem_mem hj, rfl⟩))
          exact c172 S B v' bs' ls[j] a' c' w' (hok.1 _ (List.getElem_mem hj)) hff.1 hff.2 hbf' (by omega) hS' hr2) (hr.blw hB1)
      rw [YX_all] at this
      exact this
    | mg ps t =>
      obtain ⟨hb, a, c, q0, q1, hr⟩ := box_list (h : Rd S w (.box 173 [.list (ps.map Pg.fs), .atom (.int .u8 t)]) _)
      have hl : (ps.map Pg.fs).length = ps.length := by simp
      rw [hl] at q0 hr
      simp only [Geo.ok] at hok
      simp only [Geo.toG, G.fit, G.fitL_iff] at hf
      simp only [wkB, List.length_append, wkH_len, Lib.leBytes_length] at hlen
      refine c121_6 B av _ cv bs (wkB (.mg ps t)) _ _ _ _ b w hB hb q0 q1 (fun w1 hB1 => ?_)
      have := c176_g S B (fun j u w' => ∃ h : j < ps.length, ∃ a' c', u = .agg #[.slice a' (ps[j]).rings.length c', .int .u8 (ps[j]).t] ∧ Rd S w' (.list ((ps[j]).rings.map Ln.fs)) (.slice a' (ps[j]).rings.length c')) (XL wkPg ps) (.list (ps.map Pg.fs)) ps.length (.slice av bs.length cv) bs t a c w1 hok.2.1 hok.2.2.1 hok.2.2.2 (fun j hj => by have := YX_le wkPg ps j hj; omega) (hbf.blw hB1) (hS.blw hB1) (fun j u w1 w2 ⟨h, a', c', hu, hr⟩ hb' => ⟨h, a', c', hu, hr.blw hb'⟩)
        (fun j hj w' hr' _ => (c147 S ps j hj t a c w' hr').mono fun e w'' ⟨a', c', he, hr2, hb'⟩ => ⟨_, _, _, _, he, ⟨hj, a', c', rfl, hr2⟩, hb'⟩)
        (fun j hj u v' bs' w' hq hbf' hl' hS' => by
          obtain ⟨_, a', c', rfl, hr2⟩ := hq
          rw [XL_at wkPg ps j hj]
          have hpl := part_len wkPg ps ps[j] (List.getElem_mem hj)
          exact c173' S B v' bs' ps[j] a' c' w' (hok.1 _ (List.getElem_mem hj)) (hf.2.2 _ (List.mem_map.2 ⟨_, List.getElem_mem hj, rfl⟩)) (by have := YX_le wkPg ps (j + 1) hj; rw [YX_succ, List.length_append, XL_at wkPg ps j hj] at this; omega) hbf' hS' hr2) (hr.blw hB1)
      rw [YX_all] at this
      exact this
    | gc gs t =>
      obtain ⟨hb, a, c, q0, q1, hr⟩ := box_list (h : Rd S w (.box 176 [.list (Geo.fsL gs), .atom (.int .u8 t)]) _)
      have hl : (Geo.fsL gs).length = gs.length := by rw [Geo.fsL_map, List.length_map]
      rw [hl] at q0 hr
      rw [Geo.fsL_map] at hr
      simp only [Geo.ok] at hok
      simp only [Geo.size] at hm
      simp only [Geo.toG, Geo.toGL_map, G.fit, G.fitL_iff] at hf
      simp only [wkB, wkBL_map, List.length_append, wkH_len, Lib.leBytes_length] at hlen
      refine c121_0 B av _ cv bs (wkB (.gc gs t)) _ _ _ _ b w hB hb q0 q1 (fun w1 hB1 => ?_)
      have := c170_g S B (fun j u w' => ∃ h : j < gs.length, ∃ b', u = .agg #[.int .i64 (gs[j]).kind, .iface (gs[j]).tid (.pointer (some ⟨b', 0, none⟩))] ∧ GeoV S w' gs[j] (.iface (gs[j]).tid (.pointer (some ⟨b', 0, none⟩)))) (XL wkB gs) (.list (gs.map Geo.fs)) gs.length (.slice av bs.length cv) bs t a c w1 hok.2.1 hok.2.2.1 hok.2.2.2 (fun j hj => by have := YX_le wkB gs j hj; omega) (hbf.blw hB1) (hS.blw hB1) (fun j u w1 w2 ⟨h, b', hu, hr⟩ hb' => ⟨h, b', hu, Rd.blw hr hb'⟩)
        (fun j hj w' hr' _ => (c158 S gs j hj t a c w' hr').mono fun e w'' ⟨b', he, hr2, hb'⟩ => ⟨_, _, _, he, ⟨hj, b', rfl, hr2⟩, hb'⟩)
        (fun j hj u v' bs' w' hq hbf' hl' hS' => by
          obtain ⟨_, b', rfl, hr2⟩ := hq
          rw [XL_at wkB gs j hj]
          exact ih gs[j] S B v' bs' w' _ (by have := Geo.size_kid gs j hj; omega) (Geo.okL_mem hok.1 _ (List.getElem_mem hj)) (hf.2.2 _ (List.mem_map.2 ⟨_, List.getElem_mem hj, rfl⟩)) (by have := YX_le wkB gs (j + 1) hj; rw [YX_succ, List.length_append, XL_at wkB gs j hj] at this; omega) hbf' hS' hr2) (hr.blw hB1)
      rw [YX_all] at this
      rw [wkB, wkBL_map]
      exact this
end Go.Proofs.YtahnhhkbdgaidaaGreatDoor
namespace Go.Proofs.YtahnhhkbdgaidaaGreatDoor
open Go.RowKit
set_option maxRecDepth 100000
set_option maxHeartbeats 1000000 in
theorem c53 (S : Nat → Prop) (g : Geo) (b : Nat) (w : World) (hok : g.ok) (hf : g.toG.fit) (hlen : (wkB g).length ≤ 8000000000000) (h : GeoV S w g (.iface g.tid (.pointer (some ⟨b, 0, none⟩)))) :
    Calls Tryz.prog 53 #[.agg #[.int .i64 g.kind, .iface g.tid (.pointer (some ⟨b, 0, none⟩))]] w fun e w' => ∃ v', e = .returned v' ∧ Out w v' (wkB g) w' := by
  have hb := bl_a1 w (.cells #[.int .i64 g.kind, .iface g.tid (.pointer (some ⟨b, 0, none⟩))] 47)
  have hx : GeoV (fun b => b < w.heap.size) w g (.iface g.tid (.pointer (some ⟨b, 0, none⟩))) := Rd.mono h fun _ hb _ => hb
  have hx1 : GeoV (fun b => b < w.heap.size) _ g _ := Rd.blw hx hb
  have H := Lib.hid (c121 g.size g (fun b => b < w.heap.size) (w.heap.size + 1) (.slice none 0 0) [] (w.alloc (.cells #[.int .i64 g.kind, .iface g.tid (.pointer (some ⟨b, 0, none⟩))] 47)) _ (Nat.le_refl _) hok hf (by simpa using hlen) (by have := Bf.new (w.alloc (.cells #[.int .i64 g.kind, .iface g.tid (.pointer (some ⟨b, 0, none⟩))] 47)); rw [World.size_alloc] at this; exact this) (fun b hb => ⟨by simp; omega, by simp [Value.ownBlock]⟩) hx1)
  have HB := Lib.hid hb
  clear hx hx1 h hb
  go_enter Tryz.func53, Tryz.ntmps53
  go_wp2_with fail
  refine H.out.mono ?_
  rintro _ w1 ⟨v', rfl, hbf⟩
  have HO : Hid (Out w v' (wkB g) w1) := Lib.hid ⟨_, HB.out, by rw [World.size_alloc]; have h2 := hbf; simp only [List.nil_append] at h2; exact h2⟩
  obtain ⟨a, c, rfl⟩ := hbf.shape
  clear hbf
  go_wp2_with fail
  go_ret
  exact ⟨_, rfl, HO.out⟩
set_option maxHeartbeats 1000000 in
theorem c20 (g : G) (vn vk : Value) (w : World) (hok : g.ok) (hf : (newG g).fit) (hlen : (wkB (geoOf g)).length ≤ 8000000000000) (hn : Rd (fun _ => True) w (fl g.nums) vn) (hk : Rd (fun _ => True) w (.list (G.fsL g.kids)) vk) :
    Calls Tryz.prog 20 #[.agg #[.int .i64 g.kind, .int .i64 g.dim, vn, vk]] w fun e w' => ∃ v', e = .returned v' ∧ Out w v' (wkB (geoOf g)) w' := by
  obtain ⟨an, cn, rfl⟩ := fl_shape hn
  obtain ⟨ak, ck, rfl⟩ := kids_shape hk
  rw [newG_geo g hok] at hf
  have HB := Lib.hid (bl_a1 w (.cells #[.int .i64 g.kind, .int .i64 g.dim, .slice an g.nums.length cn, .slice ak g.kids.length ck] 25))
  have HM := Lib.hid (made g.size g (Nat.le_refl _) hok (fun _ => True) (.slice an g.nums.length cn) (.slice ak g.kids.length ck) (w.alloc (.cells #[.int .i64 g.kind, .int .i64 g.dim, .slice an g.nums.length cn, .slice ak g.kids.length ck] 25)) (fun _ _ => trivial) (hn.alloc _) (hk.alloc _))
  have H53 := Lib.hid fun b w1 hx => c53 (fun _ => True) (geoOf g) b w1 (geoOf_ok g hok) hf hlen hx
  clear hn hk
  go_enter Tryz.func20, Tryz.ntmps20
  go_wp2_with fail
  refine HM.out.mono ?_
  rintro _ w1 ⟨b', rfl, hx, hb1⟩
  have HB1 := Lib.hid (HB.out.trans (hb1.mono (by simp)))
  have Hx := Lib.hid hx
  clear hx hb1
  go_wp2_with fail
  refine (H53.out _ _ Hx.out).mono ?_
  rintro _ w2 ⟨v', rfl, hO⟩
  have HO := Lib.hid (hO.from HB1.out)
  obtain ⟨W, _, hbf⟩ := hO
  obtain ⟨a, c, rfl⟩ := hbf.shape
  clear hbf
  go_wp2_with fail
  go_ret
  exact ⟨_, rfl, HO.out⟩
end Go.Proofs.YtahnhhkbdgaidaaGreatDoor
namespace Go.Proofs.YtahnhhkbdgaidaaGreatDoor
open Go.RowKit
set_option maxRecDepth 100000
/-- Whether a float is a number. -/
def okB (x : Nat) : Bool := !nanB x
theorem d18 (x : Nat) (w : World) : Calls Tryz.prog 18 #[.float .f64 x] w fun e w' => e = .returned (.bool (okB x)) ∧ w = w' := by
  have H := d23 x
  unfold okB
  generalize nanB x = b at *
  go_enter Tryz.func18, Tryz.ntmps18
  go_wp2_with (go_at_call 23; refine (H _).mono ?_; rintro e w' ⟨rfl, rfl⟩)
  go_ret
  exact ⟨rfl, rfl⟩
mutual
def numB : G → Bool
  | .mk _ _ ns ks => ns.all okB && numBL ks
def numBL : List G → Bool
  | [] => true
  | g :: r => numB g && numBL r
end
theorem numBL_map : ∀ l : List G, numBL l = l.all numB
  | [] => by simp [numBL]
  | g :: r => by simp [numBL, numBL_map r]
theorem numB_num (k d : Int) (ns : List Nat) (ks : List G) (j : Nat) (h : j < ns.length) (hf : okB ns[j] = false) : numB (.mk k d ns ks) = false := by
  have : ns.all okB = false := by rw [List.all_eq_false]; exact ⟨ns[j], List.getElem_mem h, by simp [hf]⟩
  simp [numB, this]
theorem numB_kid (k d : Int) (ns : List Nat) (ks : List G) (j : Nat) (h : j < ks.length) (hf : numB ks[j] = false) : numB (.mk k d ns ks) = false := by
  have : ks.all numB = false := by rw [List.all_eq_false]; exact ⟨ks[j], List.getElem_mem h, by simp [hf]⟩
  simp [numB, numBL_map, this]
theorem numB_all (k d : Int) (ns : List Nat) (ks : List G) (hn : ∀ j (h : j < ns.length), okB ns[j] = true) (hk : ∀ j (h : j < ks.length), numB ks[j] = true) : numB (.mk k d ns ks) = true := by
  simp only [numB, numBL_map, Bool.and_eq_true, List.all_eq_true]
  exact ⟨fun x hx => by obtain ⟨j, h, rfl⟩ := List.getElem_of_mem hx; exact hn j h, fun x hx => by obtain ⟨j, h, rfl⟩ := List.getElem_of_mem hx; exact hk j h⟩
theorem d9n (S : Nat → Prop) : ∀ (m : Nat) (g : G) (vn vk : Value) (w : World), g.size ≤ m →
    Rd S w (fl g.nums) vn → Rd S w (.list (G.fsL g.kids)) vk →
    Calls Tryz.prog 9 #[.agg #[.int .i64 g.kind, .int .i64 g.dim, vn, vk], .func (.func 18) #[] #[]] w fun e w' => e = .returned (.bool (numB g)) ∧ Below w.heap.size w w' := by
  intro m
  induction m with
  | zero => intro g _ _ _ h; rw [G.size_eq] at h; omega
  | succ m ih =>
    intro g vn vk w hm hn hk
    cases g with
    | mk k d ns ks =>
    simp only [G.kind, G.dim, G.nums, G.kids] at *
    obtain ⟨an, cn, rfl, hnm, hnum⟩ := fl_inv hn
    obtain ⟨ak, ck, rfl, hkm, hkid⟩ := kids_inv hk
    have HN := Lib.hid (numB_num k d ns ks); have HK := Lib.hid (numB_kid k d ns ks); have HA := Lib.hid (numB_all k d ns ks)
    generalize numB (.mk k d ns ks) = ans at *
    go_enter Tryz.func9, Tryz.ntmps9
    go_wp2_with fail
    go_loopw [12] (fun i wr => ∃ j : Nat, j ≤ ns.length ∧ i = .int .i64 j ∧ Hid (∀ p (h : p < ns.length), p < j → okB ns[p] = true) ∧ Below (w.heap.size + 1) (w.alloc (.cells #[.int .i64 k, .int .i64 d, .slice an ns.length cn, .slice ak ks.length ck] 25)) wr) (fun i _ => ns.length - (intOf i).toNat)
    case atStart => exact ⟨0, Nat.zero_le _, rfl, Lib.hid (fun p _ h => absurd h (by omega)), by simpa using Below.refl _ _⟩
    case round =>
      obtain ⟨j, hj, rfl, hpre, hB⟩ := hrel
      have hBw : Below w.heap.size w wr := bl_box1 hB
      have hB1 := (bl_cells hB).1
      by_cases hlt : j < ns.length
      · obtain ⟨b, off, rfl, _, hb, k0⟩ := hnum j hlt
        have H18 := Lib.hid (d18 ns[j])
        have HNj := Lib.hid (HN.out j hlt)
        have Hnx : Hid (okB ns[j] = true → ∀ p (h : p < ns.length), p < j + 1 → okB ns[p] = true) := Lib.hid fun h p hp hpj => by
          by_cases e : p < j
          · exact hpre.out p hp e
          · obtain rfl : p = j := by omega
            exact h
        generalize okB ns[j] = fb at *
        cases fb
        · have HE := Lib.hid (HNj.out rfl)
          go_wp2_with (go_at_call 18; refine (H18.out _).mono ?_; rintro e w' ⟨rfl, rfl⟩)
          go_ret
          exact ⟨by rw [HE.out]; rfl, hBw⟩
        · go_wp2_with (go_at_call 18; refine (H18.out _).mono ?_; rintro e w' ⟨rfl, rfl⟩)
          go_roundw
          case rel => exact ⟨j + 1, by omega, by go_num, Lib.hid (Hnx.out trivial), hB⟩
          case measure => simp [intOf]; omega
      · have hdl : decide ((j : Int) < ns.length) = false := by simp; omega
        have Hall : Hid (∀ p (h : p < ns.length), okB ns[p] = true) := Lib.hid fun p hp => hpre.out p hp (by omega)
        clear hpre
        go_wp2_with fail
        go_loopw [24] (fun i wr => ∃ j : Nat, j ≤ ks.length ∧ i = .int .i64 j ∧ Hid (∀ p (h : p < ks.length), p < j → numB ks[p] = true) ∧ Below (w.heap.size + 1) (w.alloc (.cells #[.int .i64 k, .int .i64 d, .slice an ns.length cn, .slice ak ks.length ck] 25)) wr) (fun i _ => ks.length - (intOf i).toNat)
        case atStart => exact ⟨0, Nat.zero_le _, rfl, Lib.hid (fun p _ h => absurd h (by omega)), hB⟩
        case round =>
          clear hB hBw hB1
          obtain ⟨i, hi, rfl, hpre, hB⟩ := hrel
          by_cases hlt : i < ks.length
          · obtain ⟨b, off, vn, vk, rfl, _, hb, k0, k1, k2, k3, r2, r3⟩ := hkid i hlt
            have hsm : (ks[i]).size ≤ m := by have := G.size_kid ks i hlt; simp only [G.size] at hm; omega
            have hBw : Below w.heap.size w wr := (bl_box1 hB)
            have hc := (bl_cells hBw).1
            have q2 := r2.blw hBw
            have q3 := r3.blw hBw
            obtain ⟨an', cn', rfl⟩ := fl_shape r2
            obtain ⟨ak', ck', rfl⟩ := kids_shape r3
            have HKj := Lib.hid (HK.out i hlt)
            have Hnx : Hid (numB ks[i] = true → ∀ p (h : p < ks.length), p < i + 1 → numB ks[p] = true) := Lib.hid fun h p hp hpj => by
              by_cases e : p < i
              · exact hpre.out p hp e
              · obtain rfl : p = i := by omega
                exact h
            go_wp2_with fail
            refine (ih (ks[i]) _ _ _ hsm (q2.alloc _) (q3.alloc _)).mono ?_
            rintro e w1 ⟨rfl, hb1⟩
            generalize numB ks[i] = fb at *
            cases fb
            · have HE := Lib.hid (HKj.out rfl)
              go_wp2_with fail
              go_ret
              exact ⟨by rw [HE.out]; rfl, hBw.trans (((Below.refl _ _).alloc hBw.size _).trans (hb1.mono (by have := hBw.size; simp; omega)))⟩
            · go_wp2_with fail
              go_roundw
              case rel => exact ⟨i + 1, by omega, by go_num, Lib.hid (Hnx.out trivial), hB.trans (((Below.refl _ _).alloc (by simpa using hB.size) _).trans (hb1.mono (by have := hB.size; simp at this ⊢; omega)))⟩
              case measure => simp [intOf]; omega
          · have hdl : decide ((i : Int) < ks.length) = false := by simp; omega
            have HE : Hid (ans = true) := Lib.hid (HA.out Hall.out (fun p hp => hpre.out p hp (by omega)))
            go_wp2_with fail
            go_ret
            exact ⟨by rw [HE.out]; rfl, (bl_box1 hB)⟩
end Go.Proofs.YtahnhhkbdgaidaaGreatDoor
namespace Go.Proofs.YtahnhhkbdgaidaaGreatDoor
open Go.RowKit
set_option maxRecDepth 100000
theorem cells43 : Tryz.prog.cellsOf 43 = 1 := by kernel_rfl
theorem cells25 : Tryz.prog.cellsOf 25 = 4 := by kernel_rfl
theorem cells3 : Tryz.prog.cellsOf 3 = 1 := by kernel_rfl
theorem cells22 : Tryz.prog.cellsOf 22 = 1 := by kernel_rfl
theorem cells23 : Tryz.prog.cellsOf 23 = 1 := by kernel_rfl
theorem bytes43 : Tryz.prog.bytesOf 43 = 8 := by kernel_rfl
theorem bytes25 : Tryz.prog.bytesOf 25 = 64 := by kernel_rfl
theorem four_list {α : Type} {l : List α} (h : l.length = 4) : ∃ a b c d, l = [a, b, c, d] := by
  match l, h with
  | [a, b, c, d], _ => exact ⟨a, b, c, d, rfl⟩
theorem CapL.of {w : World} : ∀ (l : List G) (b off : Nat), (∀ i (hi : i < l.length), ∃ vn vk, w.cell? ⟨b, off + i * 4 + 2, none⟩ = some vn ∧ w.cell? ⟨b, off + i * 4 + 3, none⟩ = some vk ∧ CapG w l[i] vn vk) → CapL w l b off
  | [], _, _, _ => by simp [CapL]
  | g :: r, b, off, h => by
    simp only [CapL]
    refine ⟨by obtain ⟨vn, vk, a, b', c⟩ := h 0 (by simp); exact ⟨vn, vk, by simpa using a, by simpa using b', c⟩, CapL.of r b (off + 4) fun i hi => ?_⟩
    have := h (i + 1) (by simpa using hi)
    rw [show off + (i + 1) * 4 = off + 4 + i * 4 by omega] at this
    exact this
theorem cells_one {w : World} {a : Addr} {l : List Value} (h : w.cells? 0 a 1 = some l) : ∃ v, l = [v] ∧ w.cell? a = some v := by
  unfold World.cells? at h
  rw [if_pos (Nat.zero_le _)] at h
  simp only [List.range, List.range.loop, List.mapM_cons, List.mapM_nil] at h
  simp only [Option.bind_eq_bind, Option.bind_eq_some_iff] at h
  obtain ⟨x0, h0, l1, h4, e0⟩ := h
  simp only [pure, Option.some.injEq] at *
  subst h4; subst e0
  exact ⟨x0, rfl, by simpa [Addr.add] using h0⟩
theorem cells_four {w : World} {a : Addr} {l : List Value} (h : w.cells? 0 a 4 = some l) : ∃ x0 x1 x2 x3, l = [x0, x1, x2, x3] ∧ w.cell? a = some x0 ∧ w.cell? (a.add 1) = some x1 ∧ w.cell? (a.add 2) = some x2 ∧ w.cell? (a.add 3) = some x3 := by
  unfold World.cells? at h
  rw [if_pos (Nat.zero_le _)] at h
  simp only [List.range, List.range.loop, List.mapM_cons, List.mapM_nil] at h
  simp only [Option.bind_eq_bind, Option.bind_eq_some_iff] at h
  obtain ⟨x0, h0, l1, ⟨x1, h1, l2, ⟨x2, h2, l3, ⟨x3, h3, l4, h4, e3⟩, e2⟩, e1⟩, e0⟩ := h
  simp only [pure, Option.some.injEq] at *
  subst h4; subst e3; subst e2; subst e1; subst e0
  exact ⟨x0, x1, x2, x3, rfl, by simpa [Addr.add] using h0, h1, h2, h3⟩
theorem spot_none {w : World} {a : Addr} {v : Value} (h : w.cell? a = some v) : a = ⟨a.block, a.off, none⟩ ∧ a.block < w.heap.size := by
  obtain ⟨b, o, s⟩ := a
  cases s with
  | none => exact ⟨rfl, cell_lt h⟩
  | some s =>
    unfold World.cell? at h
    split at h <;> simp at h
theorem add_none (b o n : Nat) : (⟨b, o, none⟩ : Addr).add n = ⟨b, o + n, none⟩ := by
  unfold Addr.add
  split
  · next h => subst h; rfl
  · rfl
instance : Inhabited G := ⟨.mk 0 0 [] []⟩
end Go.Proofs.YtahnhhkbdgaidaaGreatDoor
