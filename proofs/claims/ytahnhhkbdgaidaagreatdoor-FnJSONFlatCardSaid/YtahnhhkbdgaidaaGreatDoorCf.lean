/-
  Numbers in decimal: as the library's own functions append and write them.
-/
import Derived.Test.YtahnhhkbdgaidaaGreatDoorCe
import Derived.Lib.BufferRead
namespace Go.Proofs.YtahnhhkbdgaidaaGreatDoor
open Go.RowKit
set_option maxRecDepth 100000
theorem c229 (tab : Nat → Int) (B : Nat) (bs : List UInt8) (v : Value) (x : Nat) (w : World) (hT : Tabs tab w) (hB6 : 6 < B) (hb : Bf B w v.ownBlock v bs w) (hlen : bs.length ≤ 100000000000000) :
    Calls Tryz.prog 229 #[v, .float .f64 x, .int .u8 102, .int .i64 (-1), .int .i64 64] w fun e w' => ∃ v', e = .returned v' ∧ Bf B w v.ownBlock v' (bs ++ ftxt tab x) w' := by
  have H := Lib.hid (c269 tab B bs v x w hT hB6 hb hlen)
  go_enter Tryz.func229, Tryz.ntmps229
  go_wp2_with fail
  refine H.out.mono ?_
  rintro _ w1 ⟨v', rfl, h⟩
  go_wp2_with fail
  go_ret
  exact ⟨_, rfl, h⟩
theorem c185 (tab : Nat → Int) (B : Nat) (bs : List UInt8) (v : Value) (x : Nat) (w : World) (hT : Tabs tab w) (hB6 : 6 < B) (hb : Bf B w v.ownBlock v bs w) (hlen : bs.length ≤ 100000000000000) :
    Calls Tryz.prog 185 #[v, .float .f64 x, .int .u8 102, .int .i64 (-1), .int .i64 64] w fun e w' => ∃ v', e = .returned v' ∧ Bf B w v.ownBlock v' (bs ++ ftxt tab x) w' := by
  have H := Lib.hid (c229 tab B bs v x w hT hB6 hb hlen)
  go_enter Tryz.func185, Tryz.ntmps185
  go_wp2_with fail
  refine H.out.mono ?_
  rintro _ w1 ⟨v', rfl, h⟩
  go_wp2_with fail
  go_ret
  exact ⟨_, rfl, h⟩
theorem c137 (tab : Nat → Int) (B : Nat) (bs : List UInt8) (v : Value) (x : Nat) (w : World) (hT : Tabs tab w) (hB6 : 6 < B) (hb : Bf B w v.ownBlock v bs w) (hlen : bs.length ≤ 100000000000000) :
    Calls Tryz.prog 137 #[v, .float .f64 x] w fun e w' => ∃ v', e = .returned v' ∧ Bf B w v.ownBlock v' (bs ++ ftxt tab x) w' := by
  have H := Lib.hid (c185 tab B bs v x w hT hB6 hb hlen)
  go_enter Tryz.func137, Tryz.ntmps137
  go_wp2_with fail
  refine H.out.mono ?_
  rintro _ w1 ⟨v', rfl, h⟩
  go_wp2_with fail
  go_ret
  exact ⟨_, rfl, h⟩
theorem fmtF_len (neg : Bool) (ds : List UInt8) (dp : Int) (nd : Nat) (pr : Int) (h : dp ≤ 1000) (hq : pr ≤ 2000) : (fmtF neg ds dp nd pr).length ≤ 7100 := by
  unfold fmtF signB wholeB restB
  have a : (if neg then ([45] : List UInt8) else []).length ≤ 1 := by cases neg <;> simp
  simp only [List.length_append]
  have b : (if 0 < dp then ds.take (min nd dp.toNat) ++ List.replicate (dp.toNat - min nd dp.toNat) 48 else ([48] : List UInt8)).length ≤ 1000 := by
    split
    · simp only [List.length_append, List.length_take, List.length_replicate]; omega
    · simp
  have c : (if 0 < pr then ([46] : List UInt8) ++ List.replicate (min pr (max 0 (-dp))).toNat 48 ++
    (ds.drop (dp + min pr (max 0 (-dp))).toNat).take (min (pr - min pr (max 0 (-dp))) (max 0 (nd - (dp + min pr (max 0 (-dp)))))).toNat ++
    List.replicate (max 0 (pr - min pr (max 0 (-dp)) - min (pr - min pr (max 0 (-dp))) (max 0 (nd - (dp + min pr (max 0 (-dp))))))).toNat 48
  else []).length ≤ 6001 := by
    split
    · simp only [List.length_append, List.length_take, List.length_replicate, List.length_cons, List.length_nil]
      omega
    · simp
  omega
theorem ftxt_len (tab : Nat → Int) (x : Nat) : (ftxt tab x).length ≤ 7100 := by
  have key : ∀ (neg : Bool) (k : Nat) (ex : Int), 0 < k → k < 9007199254740992 → -1022 ≤ ex → ex ≤ 1023 → (tailX tab neg k ex).length ≤ 7100 := fun neg k ex hk0 hk1 e0 e1 => by
    obtain ⟨l0, l1, l2, l3⟩ := top_bd k hk0 hk1
    have hs := sfIn_bd tab ((k * 2 ^ (64 - Lib.bitLen k) : Nat) : Int) (ex - (64 - (Lib.bitLen k : Int)) - 52) (by omega) (by omega)
    unfold tailX
    simp only
    generalize sfIn tab ((k * 2 ^ (64 - Lib.bitLen k) : Nat) : Int) (ex - (64 - (Lib.bitLen k : Int)) - 52) = r at *
    have hn := ndg_20 r.1.toNat (by omega)
    have ht := trimZ_le (digs r.1.toNat) (ndg r.1.toNat)
    exact fmtF_len _ _ _ _ _ (by omega) (by omega)
  have hm := and_u64_52 (x : Int)
  unfold ftxt
  simp only
  split
  · split
    · split <;> simp
    · simp
  · next h1 =>
    split
    · split
      · have : ∀ neg, (signB neg).length ≤ 1 := fun neg => by cases neg <;> simp [signB]
        have := this ((x : Int) / 9223372036854775808 != 0)
        simp only [List.length_append, List.length_cons, List.length_nil]
        omega
      · exact key _ _ _ (by omega) (by omega) (by omega) (by omega)
    · next h2 =>
      obtain ⟨k, hk⟩ : ∃ k : Nat, bits .and .u64 (x : Int) 4503599627370495 = (k : Int) := ⟨(bits .and .u64 (x : Int) 4503599627370495).toNat, by omega⟩
      obtain ⟨m, hm1, hm2, hm3⟩ := or_u64_52 k (by omega)
      rw [hk, hm1]
      exact key _ _ _ (by omega) (by omega) (by omega) (by omega)
/-- The bytes as a text. -/
theorem Bf.str {B : Nat} {W w : World} {r : Option Nat} {v : Value} {bs : List UInt8} (h : Bf B W r v bs w) : (convert 32 9 v).run Tryz.prog w = .ok (.string ⟨bs.toArray⟩) w := by
  rcases h.own.2 with ⟨rfl, h0⟩ | ⟨g, cap, cur, rfl, hg, hb, hn, hc, hs, ht⟩
  · have hbs : bs = [] := List.eq_nil_of_length_eq_zero h0
    subst hbs
    exact Lib.run_convert_nil_bytes w 32 9 5 0 Tryz.underlying32 Tryz.underlying5 Tryz.underlying9
  · refine run_convert_bytes_back w 32 9 5 ⟨g, 0, none⟩ cap bs Tryz.underlying32 Tryz.underlying5 Tryz.underlying9 (fun j hj => ?_)
    have := h.own.cells (g := g) rfl j (.int .u8 ((bs[j]).toNat : Int)) (by simp [bcells, hj])
    exact this
theorem mk24 (w : World) : (Instr.makeSlice 32 (.int .i64 0) (.int .i64 (max 3 24))).run Tryz.prog w = .ok (.slice (some ⟨w.heap.size, 0, none⟩) 0 24) (w.alloc (.cells (Array.replicate 24 (.int .u8 0)) 5)) := by kernel_rfl
theorem Bf.room (w : World) : Bf w.heap.size (w.alloc (.cells (Array.replicate 24 (.int .u8 0)) 5)) (some w.heap.size) (.slice (some ⟨w.heap.size, 0, none⟩) 0 24) [] (w.alloc (.cells (Array.replicate 24 (.int .u8 0)) 5)) :=
  ⟨⟨rfl, .inr ⟨w.heap.size, 24, _, rfl, Nat.le_refl _, heap_alloc_new w _, by simp, by simp [maxLen], by simp, by simp [bcells]⟩⟩, grownBy_refl _ _, fun j hj => .inr hj, by simp⟩
set_option maxHeartbeats 1000000 in
theorem c228 (tab : Nat → Int) (x : Nat) (w : World) (hT : Tabs tab w) :
    Calls Tryz.prog 228 #[.float .f64 x, .int .u8 102, .int .i64 (-1), .int .i64 64] w fun e w' => e = .returned (.string ⟨(ftxt tab x).toArray⟩) ∧ Below w.heap.size w w' := by
  have hmk := mk24 w
  have HT := hT.blw (bl_a1 w (.cells (Array.replicate 24 (.int .u8 0)) 5))
  have H := Lib.hid (c269 tab w.heap.size [] (.slice (some ⟨w.heap.size, 0, none⟩) 0 24) x _ HT hT.lt (Bf.room w).here (by simp))
  have HB := Lib.hid (bl_a1 w (.cells (Array.replicate 24 (.int .u8 0)) 5))
  go_enter Tryz.func228, Tryz.ntmps228
  go_wp2_with fail
  refine H.out.mono ?_
  rintro _ w1 ⟨v', rfl, h⟩
  have hs := h.str
  rw [List.nil_append] at hs
  have HB2 := Lib.hid (HB.out.grown h.kept (by simp) (fun j hj => by simp [Value.ownBlock] at hj; omega))
  clear h HT hT
  go_wp2_with fail
  go_ret
  exact ⟨rfl, HB2.out⟩
theorem c184 (tab : Nat → Int) (x : Nat) (w : World) (hT : Tabs tab w) :
    Calls Tryz.prog 184 #[.float .f64 x, .int .u8 102, .int .i64 (-1), .int .i64 64] w fun e w' => e = .returned (.string ⟨(ftxt tab x).toArray⟩) ∧ Below w.heap.size w w' := by
  have H := Lib.hid (c228 tab x w hT)
  go_enter Tryz.func184, Tryz.ntmps184
  go_wp2_with fail
  refine H.out.mono ?_
  rintro _ w1 ⟨rfl, h⟩
  go_wp2_with fail
  go_ret
  exact ⟨rfl, h⟩
theorem c134 (tab : Nat → Int) (x : Nat) (w : World) (hT : Tabs tab w) :
    Calls Tryz.prog 134 #[.float .f64 x] w fun e w' => e = .returned (.string ⟨(ftxt tab x).toArray⟩) ∧ Below w.heap.size w w' := by
  have H := Lib.hid (c184 tab x w hT)
  go_enter Tryz.func134, Tryz.ntmps134
  go_wp2_with fail
  refine H.out.mono ?_
  rintro _ w1 ⟨rfl, h⟩
  go_wp2_with fail
  go_ret
  exact ⟨rfl, h⟩
end Go.Proofs.YtahnhhkbdgaidaaGreatDoor
