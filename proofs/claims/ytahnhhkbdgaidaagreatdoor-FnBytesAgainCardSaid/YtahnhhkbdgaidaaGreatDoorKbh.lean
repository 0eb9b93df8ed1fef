/-
  The writer of binary forms: several points, lines, polygons; collections.
-/
import Derived.Test.YtahnhhkbdgaidaaGreatDoorKbg
import Derived.Test.YtahnhhkbdgaidaaGreatDoorKau
namespace Go.Proofs.YtahnhhkbdgaidaaGreatDoor
open Go.RowKit
set_option maxRecDepth 100000
set_option maxHeartbeats 4000000 in
theorem c174_g (S : Nat → Prop) (B : Nat) (Q : Nat → Value → World → Prop) (X : Nat → List UInt8) (f : F) (n : Nat) (v : Value) (bs : List UInt8) (t : Int) (a : Option Addr) (c : Nat) (w : World) (hn : n ≤ 1000000) (t0 : 0 ≤ t) (t1 : t ≤ 3)
    (hY : ∀ j, j ≤ n → bs.length + (YX X j).length ≤ 8000000000000) (hb : Bf B w v.ownBlock v bs w) (hS : Off S v w)
    (hQ : ∀ j u w1 w2, Q j u w1 → Below w1.heap.size w1 w2 → Q j u w2)
    (H1 : ∀ j, j < n → ∀ (w' : World), Rd S w' f (.slice a n c) → (∀ b, S b → b < w'.heap.size) → Calls Tryz.prog 153 #[.agg #[.slice a n c, .int .u8 t], .int .i64 j] w' fun e w'' => ∃ x y z m tt ff, e = .returned (.agg #[.float .f64 x, .float .f64 y, .float .f64 z, .float .f64 m, .int .u8 tt, .bool ff]) ∧ Q j (.agg #[.float .f64 x, .float .f64 y, .float .f64 z, .float .f64 m, .int .u8 tt, .bool ff]) w'' ∧ Below w'.heap.size w' w'')
    (H2 : ∀ j, j < n → ∀ (u : Value) (v' : Value) (bs' : List UInt8) (w' : World), Q j u w' → Bf B w' v'.ownBlock v' bs' w' → bs'.length ≤ bs.length + 9 + (YX X j).length → Off S v' w' → Calls Tryz.prog 171 #[u, v'] w' (Apnd B v' bs' (X j) w'))
    (h : Rd S w f (.slice a n c)) :
    Calls Tryz.prog 174 #[.agg #[.slice a n c, .int .u8 t], v] w (Apnd B v bs (wkH 4 t ++ Lib.leBytes 4 n ++ YX X n) w) := by
  have hsf := st_float
  obtain ⟨av, cv, rfl⟩ := hb.shape
  have HS := Lib.hid (Ws.start (A := #[.slice a n c, .int .u8 t]) (TA := 77) hb hS h)
  have hL : (Lib.leBytes 4 (wcode 4 t)).length = 4 := Lib.leBytes_length _ _
  have HL := Lib.hid hL
  have hbl : bs.length ≤ 8000000000000 := by have := hY 0 (Nat.zero_le _); omega
  have HY := Lib.hid hY; have HQ := Lib.hid hQ; have H1 := Lib.hid H1; have H2 := Lib.hid H2
  clear hb hS h hL hY hQ
  go_enter Tryz.func174, Tryz.ntmps174
  go_wp2_with fail
  refine (c217 _ _ _ _).mono ?_
  rintro _ w0 ⟨rfl, rfl⟩
  have HC1 := Lib.hid (c218 B (w.heap.size + 1) (.slice av bs.length cv) bs _ HS.out.bu (by omega))
  go_wp2_with fail
  refine HC1.out.mono ?_
  rintro _ w1 hm
  obtain ⟨v1, rfl, hs1⟩ := HS.out.more hm
  obtain ⟨k1, _, _⟩ := hs1.lb.use
  have HS1 := Lib.hid hs1
  clear hm hs1 HS HC1
  go_wp2_with fail
  refine (c151 _ _ _ _ _).mono ?_
  rintro _ w1' ⟨rfl, hb1⟩
  have hs1 := HS1.out.step hb1
  replace HS1 := Lib.hid hs1
  clear hb1 hs1 k1
  have HC2 := Lib.hid (c219 B (w.heap.size + 1) v1 (bs ++ [1]) 4 t w1' HS1.out.bu (by omega) (by omega) t0 t1 (by simp; omega))
  go_wp2_with fail
  refine HC2.out.mono ?_
  rintro _ w2 hm
  obtain ⟨v2, rfl, hs2⟩ := HS1.out.more hm
  obtain ⟨k2, _, _⟩ := hs2.lb.use
  have HS2 := Lib.hid hs2
  clear hm hs2 HS1 HC2
  go_wp2_with fail
  refine (c152 _ _ _ _ _).mono ?_
  rintro _ w2' ⟨rfl, hb2⟩
  have hs2 := HS2.out.step hb2
  have HC3 := Lib.hid (c220 B (w.heap.size + 1) v2 _ n w2' hs2.bu (by omega) (by have := HL.out; simp only [List.length_append, List.length_cons, List.length_nil]; omega))
  replace HS2 := Lib.hid hs2
  clear hb2 hs2 k2
  go_wp2_with fail
  refine HC3.out.mono ?_
  rintro _ w3 hm
  obtain ⟨v3, rfl, hs3⟩ := HS2.out.more hm
  have hs3' : Ws w B S #[.slice a n c, .int .u8 t] 77 f (.slice a n c) (.slice av bs.length cv) v3 (bs ++ (wkH 4 t ++ Lib.leBytes 4 n) ++ YX X 0) w3 := by
    have e : bs ++ [1] ++ Lib.leBytes 4 (wcode 4 t) ++ Lib.leBytes 4 n = bs ++ (wkH 4 t ++ Lib.leBytes 4 n) ++ YX X 0 := by simp [wkH, YX_zero]
    rw [e] at hs3; exact hs3
  have HS3 := Lib.hid hs3'
  clear hm hs3 hs3' HS2 HC3
  go_wp2_with fail
  go_loopw [7] (fun i wr => ∃ j : Nat, ∃ vj, j ≤ n ∧ i = .int .i64 j ∧ Ws w B S #[.slice a n c, .int .u8 t] 77 f (.slice a n c) (.slice av bs.length cv) vj (bs ++ (wkH 4 t ++ Lib.leBytes 4 n) ++ YX X j) wr) (fun i _ => n - (intOf i).toNat)
  case atStart => exact ⟨0, _, Nat.zero_le _, rfl, HS3.out⟩
  case round =>
    clear HS3
    obtain ⟨j, vj, hj, rfl, hs⟩ := hrel
    by_cases hlt : j < n
    · have hlY := HY.out j (by omega)
      have hlt' : decide ((j : Int) < (n : Int)) = true := by simpa using hlt
      have hHD : (bs ++ (wkH 4 t ++ Lib.leBytes 4 n) ++ YX X j).length ≤ bs.length + 9 + (YX X j).length := by
        have := HL.out; simp only [wkH, List.length_append, List.length_cons, List.length_nil, Lib.leBytes_length]; omega
      generalize hHB : bs ++ (wkH 4 t ++ Lib.leBytes 4 n) ++ YX X j = hb at *
      have HHB := Lib.hid hHB
      obtain ⟨kp, _, _⟩ := hs.lb.use
      have HC := Lib.hid (H1.out j hlt wr hs.rd (fun b hSb => by have := (hs.off b hSb).1; have := hs.size; omega))
      have HSr := Lib.hid hs
      clear hs hHB
      go_wp2_with fail
      refine HC.out.mono ?_
      rintro _ w5 ⟨x, y, z, m, tt, ff, rfl, hq5, hb5⟩
      have hb6 : Below w5.heap.size w5 ((w5.alloc (.cells #[.float .f64 x, .float .f64 y, .float .f64 z, .float .f64 m, .int .u8 tt, .bool ff] 63)).drew) := (bl_a1 w5 _).drew
      have hs6 := (HSr.out.step hb5).step hb6
      have hq6 := HQ.out j _ _ _ hq5 hb6
      have hle := (Lb.new w5 #[.float .f64 x, .float .f64 y, .float .f64 z, .float .f64 m, .int .u8 tt, .bool ff] 63).drewN 1
      have HA := Lib.hid (H2.out j hlt _ vj hb ((w5.alloc (.cells #[.float .f64 x, .float .f64 y, .float .f64 z, .float .f64 m, .int .u8 tt, .bool ff] 63)).drew) hq6 hs6.bu.here hHD (fun b hSb => ⟨by have := (hs6.off b hSb).1; have := hs6.size; omega, (hs6.offM b hSb).2⟩))
      obtain ⟨av2, nv2, cv2, rfl⟩ := hs6.bu.shape'
      obtain ⟨ke, _, _⟩ := hle.use
      obtain ⟨kM, _, _⟩ := hs6.bu.lb.use
      have HS6 := Lib.hid hs6
      clear hb5 hb6 hs6 hq5 hq6 hle HSr HC kp
      go_wp2_with fail
      go_region_law (first
        | (go_simp; go_at_call 171; refine HA.out.mono ?_; rintro _ w7 ⟨v7, rfl, hB7⟩
           obtain ⟨lM, hbu7, hW7⟩ := HS6.out.bu.put hB7
           obtain ⟨a7, n7, c7, rfl⟩ := hbu7.shape'
           obtain ⟨k7, f7, l7⟩ := lM.use
           have HS7 := Lib.hid (HS6.out.more' hbu7 hW7)
           clear hB7 lM hbu7 hW7))
      all_goals go_wp2_with fail
      all_goals go_roundw
      all_goals first
        | (simp [intOf]; omega; done)
        | (refine ⟨j + 1, .slice a7 n7 c7, by omega, by go_num, ?_⟩
           rw [YX_succ, ← List.append_assoc, HHB.out]
           exact HS7.out)
    · obtain rfl : n = j := by omega
      have hdl : decide (((n : Nat) : Int) < n) = false := by simp
      obtain ⟨k5, _, _⟩ := hs.bu.lb.use
      have HS4 := Lib.hid hs
      clear hs
      go_wp2_with fail
      go_ret
      exact ⟨vj, rfl, by have := HS4.out.done; simpa using this⟩
set_option maxHeartbeats 4000000 in
theorem c175_g (S : Nat → Prop) (B : Nat) (Q : Nat → Value → World → Prop) (X : Nat → List UInt8) (f : F) (n : Nat) (v : Value) (bs : List UInt8) (t : Int) (a : Option Addr) (c : Nat) (w : World) (hn : n ≤ 1000000) (t0 : 0 ≤ t) (t1 : t ≤ 3)
    (hY : ∀ j, j ≤ n → bs.length + (YX X j).length ≤ 8000000000000) (hb : Bf B w v.ownBlock v bs w) (hS : Off S v w)
    (hQ : ∀ j u w1 w2, Q j u w1 → Below w1.heap.size w1 w2 → Q j u w2)
    (H1 : ∀ j, j < n → ∀ (w' : World), Rd S w' f (.slice a n c) → (∀ b, S b → b < w'.heap.size) → Calls Tryz.prog 144 #[.agg #[.slice a n c, .int .u8 t], .int .i64 j] w' fun e w'' => ∃ tt aa nn cc, e = .returned (.agg #[.int .u8 tt, .slice aa nn cc]) ∧ Q j (.agg #[.int .u8 tt, .slice aa nn cc]) w'' ∧ Below w'.heap.size w' w'')
    (H2 : ∀ j, j < n → ∀ (u : Value) (v' : Value) (bs' : List UInt8) (w' : World), Q j u w' → Bf B w' v'.ownBlock v' bs' w' → bs'.length ≤ bs.length + 9 + (YX X j).length → Off S v' w' → Calls Tryz.prog 172 #[u, v'] w' (Apnd B v' bs' (X j) w'))
    (h : Rd S w f (.slice a n c)) :
    Calls Tryz.prog 175 #[.agg #[.slice a n c, .int .u8 t], v] w (Apnd B v bs (wkH 5 t ++ Lib.leBytes 4 n ++ YX X n) w) := by
  have hsf := st_float
  obtain ⟨av, cv, rfl⟩ := hb.shape
  have HS := Lib.hid (Ws.start (A := #[.slice a n c, .int .u8 t]) (TA := 80) hb hS h)
  have hL : (Lib.leBytes 4 (wcode 5 t)).length = 4 := Lib.leBytes_length _ _
  have HL := Lib.hid hL
  have hbl : bs.length ≤ 8000000000000 := by have := hY 0 (Nat.zero_le _); omega
  have HY := Lib.hid hY; have HQ := Lib.hid hQ; have H1 := Lib.hid H1; have H2 := Lib.hid H2
  clear hb hS h hL hY hQ
  go_enter Tryz.func175, Tryz.ntmps175
  go_wp2_with fail
  refine (c217 _ _ _ _).mono ?_
  rintro _ w0 ⟨rfl, rfl⟩
  have HC1 := Lib.hid (c218 B (w.heap.size + 1) (.slice av bs.length cv) bs _ HS.out.bu (by omega))
  go_wp2_with fail
  refine HC1.out.mono ?_
  rintro _ w1 hm
  obtain ⟨v1, rfl, hs1⟩ := HS.out.more hm
  obtain ⟨k1, _, _⟩ := hs1.lb.use
  have HS1 := Lib.hid hs1
  clear hm hs1 HS HC1
  have HC2 := Lib.hid (c219 B (w.heap.size + 1) v1 (bs ++ [1]) 5 t w1 HS1.out.bu (by omega) (by omega) t0 t1 (by simp; omega))
  go_wp2_with fail
  refine HC2.out.mono ?_
  rintro _ w2 hm
  obtain ⟨v2, rfl, hs2⟩ := HS1.out.more hm
  obtain ⟨k2, _, _⟩ := hs2.lb.use
  have HS2 := Lib.hid hs2
  clear hm hs2 HS1 HC2 k1
  go_wp2_with fail
  refine (c143 _ _ _ _ _).mono ?_
  rintro _ w2' ⟨rfl, hb2⟩
  have hs2 := HS2.out.step hb2
  have HC3 := Lib.hid (c220 B (w.heap.size + 1) v2 _ n w2' hs2.bu (by omega) (by have := HL.out; simp only [List.length_append, List.length_cons, List.length_nil]; omega))
  replace HS2 := Lib.hid hs2
  clear hb2 hs2 k2
  go_wp2_with fail
  refine HC3.out.mono ?_
  rintro _ w3 hm
  obtain ⟨v3, rfl, hs3⟩ := HS2.out.more hm
  have hs3' : Ws w B S #[.slice a n c, .int .u8 t] 80 f (.slice a n c) (.slice av bs.length cv) v3 (bs ++ (wkH 5 t ++ Lib.leBytes 4 n) ++ YX X 0) w3 := by
    have e : bs ++ [1] ++ Lib.leBytes 4 (wcode 5 t) ++ Lib.leBytes 4 n = bs ++ (wkH 5 t ++ Lib.leBytes 4 n) ++ YX X 0 := by simp [wkH, YX_zero]
    rw [e] at hs3; exact hs3
  have HS3 := Lib.hid hs3'
  clear hm hs3 hs3' HS2 HC3
  go_wp2_with fail
  go_loopw [7] (fun i wr => ∃ j : Nat, ∃ vj, j ≤ n ∧ i = .int .i64 j ∧ Ws w B S #[.slice a n c, .int .u8 t] 80 f (.slice a n c) (.slice av bs.length cv) vj (bs ++ (wkH 5 t ++ Lib.leBytes 4 n) ++ YX X j) wr) (fun i _ => n - (intOf i).toNat)
  case atStart => exact ⟨0, _, Nat.zero_le _, rfl, HS3.out⟩
  case round =>
    clear HS3
    obtain ⟨j, vj, hj, rfl, hs⟩ := hrel
    by_cases hlt : j < n
    · have hlY := HY.out j (by omega)
      have hlt' : decide ((j : Int) < (n : Int)) = true := by simpa using hlt
      have hHD : (bs ++ (wkH 5 t ++ Lib.leBytes 4 n) ++ YX X j).length ≤ bs.length + 9 + (YX X j).length := by
        have := HL.out; simp only [wkH, List.length_append, List.length_cons, List.length_nil, Lib.leBytes_length]; omega
      generalize hHB : bs ++ (wkH 5 t ++ Lib.leBytes 4 n) ++ YX X j = hb at *
      have HHB := Lib.hid hHB
      obtain ⟨kp, _, _⟩ := hs.lb.use
      have HC := Lib.hid (H1.out j hlt wr hs.rd (fun b hSb => by have := (hs.off b hSb).1; have := hs.size; omega))
      have HSr := Lib.hid hs
      clear hs hHB
      go_wp2_with fail
      refine HC.out.mono ?_
      rintro _ w5 ⟨tt, aa, nn, cc, rfl, hq5, hb5⟩
      have hb6 : Below w5.heap.size w5 ((w5.alloc (.cells #[.int .u8 tt, .slice aa nn cc] 69)).drew) := (bl_a1 w5 _).drew
      have hs6 := (HSr.out.step hb5).step hb6
      have hq6 := HQ.out j _ _ _ hq5 hb6
      have hle := (Lb.new w5 #[.int .u8 tt, .slice aa nn cc] 69).drewN 1
      have HA := Lib.hid (H2.out j hlt _ vj hb ((w5.alloc (.cells #[.int .u8 tt, .slice aa nn cc] 69)).drew) hq6 hs6.bu.here hHD (fun b hSb => ⟨by have := (hs6.off b hSb).1; have := hs6.size; omega, (hs6.offM b hSb).2⟩))
      obtain ⟨av2, nv2, cv2, rfl⟩ := hs6.bu.shape'
      obtain ⟨ke, _, _⟩ := hle.use
      obtain ⟨kM, _, _⟩ := hs6.bu.lb.use
      have HS6 := Lib.hid hs6
      clear hb5 hb6 hs6 hq5 hq6 hle HSr HC kp
      go_wp2_with fail
      go_region_law (first
        | (go_simp; go_at_call 172; refine HA.out.mono ?_; rintro _ w7 ⟨v7, rfl, hB7⟩
           obtain ⟨lM, hbu7, hW7⟩ := HS6.out.bu.put hB7
           obtain ⟨a7, n7, c7, rfl⟩ := hbu7.shape'
           obtain ⟨k7, f7, l7⟩ := lM.use
           have HS7 := Lib.hid (HS6.out.more' hbu7 hW7)
           clear hB7 lM hbu7 hW7))
      all_goals go_wp2_with fail
      all_goals go_roundw
      all_goals first
        | (simp [intOf]; omega; done)
        | (refine ⟨j + 1, .slice a7 n7 c7, by omega, by go_num, ?_⟩
           rw [YX_succ, ← List.append_assoc, HHB.out]
           exact HS7.out)
    · obtain rfl : n = j := by omega
      have hdl : decide (((n : Nat) : Int) < n) = false := by simp
      obtain ⟨k5, _, _⟩ := hs.bu.lb.use
      have HS4 := Lib.hid hs
      clear hs
      go_wp2_with fail
      go_ret
      exact ⟨vj, rfl, by have := HS4.out.done; simpa using this⟩
set_option maxHeartbeats 4000000 in
theorem c176_g (S : Nat → Prop) (B : Nat) (Q : Nat → Value → World → Prop) (X : Nat → List UInt8) (f : F) (n : Nat) (v : Value) (bs : List UInt8) (t : Int) (a : Option Addr) (c : Nat) (w : World) (hn : n ≤ 1000000) (t0 : 0 ≤ t) (t1 : t ≤ 3)
    (hY : ∀ j, j ≤ n → bs.length + (YX X j).length ≤ 8000000000000) (hb : Bf B w v.ownBlock v bs w) (hS : Off S v w)
    (hQ : ∀ j u w1 w2, Q j u w1 → Below w1.heap.size w1 w2 → Q j u w2)
    (H1 : ∀ j, j < n → ∀ (w' : World), Rd S w' f (.slice a n c) → (∀ b, S b → b < w'.heap.size) → Calls Tryz.prog 147 #[.agg #[.slice a n c, .int .u8 t], .int .i64 j] w' fun e w'' => ∃ tt aa nn cc, e = .returned (.agg #[.slice aa nn cc, .int .u8 tt]) ∧ Q j (.agg #[.slice aa nn cc, .int .u8 tt]) w'' ∧ Below w'.heap.size w' w'')
    (H2 : ∀ j, j < n → ∀ (u : Value) (v' : Value) (bs' : List UInt8) (w' : World), Q j u w' → Bf B w' v'.ownBlock v' bs' w' → bs'.length ≤ bs.length + 9 + (YX X j).length → Off S v' w' → Calls Tryz.prog 173 #[u, v'] w' (Apnd B v' bs' (X j) w'))
    (h : Rd S w f (.slice a n c)) :
    Calls Tryz.prog 176 #[.agg #[.slice a n c, .int .u8 t], v] w (Apnd B v bs (wkH 6 t ++ Lib.leBytes 4 n ++ YX X n) w) := by
  have hsf := st_float
  obtain ⟨av, cv, rfl⟩ := hb.shape
  have HS := Lib.hid (Ws.start (A := #[.slice a n c, .int .u8 t]) (TA := 84) hb hS h)
  have hL : (Lib.leBytes 4 (wcode 6 t)).length = 4 := Lib.leBytes_length _ _
  have HL := Lib.hid hL
  have hbl : bs.length ≤ 8000000000000 := by have := hY 0 (Nat.zero_le _); omega
  have HY := Lib.hid hY; have HQ := Lib.hid hQ; have H1 := Lib.hid H1; have H2 := Lib.hid H2
  clear hb hS h hL hY hQ
  go_enter Tryz.func176, Tryz.ntmps176
  go_wp2_with fail
  refine (c217 _ _ _ _).mono ?_
  rintro _ w0 ⟨rfl, rfl⟩
  have HC1 := Lib.hid (c218 B (w.heap.size + 1) (.slice av bs.length cv) bs _ HS.out.bu (by omega))
  go_wp2_with fail
  refine HC1.out.mono ?_
  rintro _ w1 hm
  obtain ⟨v1, rfl, hs1⟩ := HS.out.more hm
  obtain ⟨k1, _, _⟩ := hs1.lb.use
  have HS1 := Lib.hid hs1
  clear hm hs1 HS HC1
  have HC2 := Lib.hid (c219 B (w.heap.size + 1) v1 (bs ++ [1]) 6 t w1 HS1.out.bu (by omega) (by omega) t0 t1 (by simp; omega))
  go_wp2_with fail
  refine HC2.out.mono ?_
  rintro _ w2 hm
  obtain ⟨v2, rfl, hs2⟩ := HS1.out.more hm
  obtain ⟨k2, _, _⟩ := hs2.lb.use
  have HS2 := Lib.hid hs2
  clear hm hs2 HS1 HC2 k1
  go_wp2_with fail
  refine (c146 _ _ _ _ _).mono ?_
  rintro _ w2' ⟨rfl, hb2⟩
  have hs2 := HS2.out.step hb2
  have HC3 := Lib.hid (c220 B (w.heap.size + 1) v2 _ n w2' hs2.bu (by omega) (by have := HL.out; simp only [List.length_append, List.length_cons, List.length_nil]; omega))
  replace HS2 := Lib.hid hs2
  clear hb2 hs2 k2
  go_wp2_with fail
  refine HC3.out.mono ?_
  rintro _ w3 hm
  obtain ⟨v3, rfl, hs3⟩ := HS2.out.more hm
  have hs3' : Ws w B S #[.slice a n c, .int .u8 t] 84 f (.slice a n c) (.slice av bs.length cv) v3 (bs ++ (wkH 6 t ++ Lib.leBytes 4 n) ++ YX X 0) w3 := by
    have e : bs ++ [1] ++ Lib.leBytes 4 (wcode 6 t) ++ Lib.leBytes 4 n = bs ++ (wkH 6 t ++ Lib.leBytes 4 n) ++ YX X 0 := by simp [wkH, YX_zero]
    rw [e] at hs3; exact hs3
  have HS3 := Lib.hid hs3'
  clear hm hs3 hs3' HS2 HC3
  go_wp2_with fail
  go_loopw [7] (fun i wr => ∃ j : Nat, ∃ vj, j ≤ n ∧ i = .int .i64 j ∧ Ws w B S #[.slice a n c, .int .u8 t] 84 f (.slice a n c) (.slice av bs.length cv) vj (bs ++ (wkH 6 t ++ Lib.leBytes 4 n) ++ YX X j) wr) (fun i _ => n - (intOf i).toNat)
  case atStart => exact ⟨0, _, Nat.zero_le _, rfl, HS3.out⟩
  case round =>
    clear HS3
    obtain ⟨j, vj, hj, rfl, hs⟩ := hrel
    by_cases hlt : j < n
    · have hlY := HY.out j (by omega)
      have hlt' : decide ((j : Int) < (n : Int)) = true := by simpa using hlt
      have hHD : (bs ++ (wkH 6 t ++ Lib.leBytes 4 n) ++ YX X j).length ≤ bs.length + 9 + (YX X j).length := by
        have := HL.out; simp only [wkH, List.length_append, List.length_cons, List.length_nil, Lib.leBytes_length]; omega
      generalize hHB : bs ++ (wkH 6 t ++ Lib.leBytes 4 n) ++ YX X j = hb at *
      have HHB := Lib.hid hHB
      obtain ⟨kp, _, _⟩ := hs.lb.use
      have HC := Lib.hid (H1.out j hlt wr hs.rd (fun b hSb => by have := (hs.off b hSb).1; have := hs.size; omega))
      have HSr := Lib.hid hs
      clear hs hHB
      go_wp2_with fail
      refine HC.out.mono ?_
      rintro _ w5 ⟨tt, aa, nn, cc, rfl, hq5, hb5⟩
      have hb6 : Below w5.heap.size w5 ((w5.alloc (.cells #[.slice aa nn cc, .int .u8 tt] 73)).drew) := (bl_a1 w5 _).drew
      have hs6 := (HSr.out.step hb5).step hb6
      have hq6 := HQ.out j _ _ _ hq5 hb6
      have hle := (Lb.new w5 #[.slice aa nn cc, .int .u8 tt] 73).drewN 1
      have HA := Lib.hid (H2.out j hlt _ vj hb ((w5.alloc (.cells #[.slice aa nn cc, .int .u8 tt] 73)).drew) hq6 hs6.bu.here hHD (fun b hSb => ⟨by have := (hs6.off b hSb).1; have := hs6.size; omega, (hs6.offM b hSb).2⟩))
      obtain ⟨av2, nv2, cv2, rfl⟩ := hs6.bu.shape'
      obtain ⟨ke, _, _⟩ := hle.use
      obtain ⟨kM, _, _⟩ := hs6.bu.lb.use
      have HS6 := Lib.hid hs6
      clear hb5 hb6 hs6 hq5 hq6 hle HSr HC kp
      go_wp2_with fail
      go_region_law (first
        | (go_simp; go_at_call 173; refine HA.out.mono ?_; rintro _ w7 ⟨v7, rfl, hB7⟩
           obtain ⟨lM, hbu7, hW7⟩ := HS6.out.bu.put hB7
           obtain ⟨a7, n7, c7, rfl⟩ := hbu7.shape'
           obtain ⟨k7, f7, l7⟩ := lM.use
           have HS7 := Lib.hid (HS6.out.more' hbu7 hW7)
           clear hB7 lM hbu7 hW7))
      all_goals go_wp2_with fail
      all_goals go_roundw
      all_goals first
        | (simp [intOf]; omega; done)
        | (refine ⟨j + 1, .slice a7 n7 c7, by omega, by go_num, ?_⟩
           rw [YX_succ, ← List.append_assoc, HHB.out]
           exact HS7.out)
    · obtain rfl : n = j := by omega
      have hdl : decide (((n : Nat) : Int) < n) = false := by simp
      obtain ⟨k5, _, _⟩ := hs.bu.lb.use
      have HS4 := Lib.hid hs
      clear hs
      go_wp2_with fail
      go_ret
      exact ⟨vj, rfl, by have := HS4.out.done; simpa using this⟩
set_option maxHeartbeats 4000000 in
theorem c170_g (S : Nat → Prop) (B : Nat) (Q : Nat → Value → World → Prop) (X : Nat → List UInt8) (f : F) (n : Nat) (v : Value) (bs : List UInt8) (t : Int) (a : Option Addr) (c : Nat) (w : World) (hn : n ≤ 1000000) (t0 : 0 ≤ t) (t1 : t ≤ 3)
    (hY : ∀ j, j ≤ n → bs.length + (YX X j).length ≤ 8000000000000) (hb : Bf B w v.ownBlock v bs w) (hS : Off S v w)
    (hQ : ∀ j u w1 w2, Q j u w1 → Below w1.heap.size w1 w2 → Q j u w2)
    (H1 : ∀ j, j < n → ∀ (w' : World), Rd S w' f (.slice a n c) → (∀ b, S b → b < w'.heap.size) → Calls Tryz.prog 158 #[.agg #[.slice a n c, .int .u8 t], .int .i64 j] w' fun e w'' => ∃ kk ti bb, e = .returned (.agg #[.int .i64 kk, .iface ti (.pointer (some ⟨bb, 0, none⟩))]) ∧ Q j (.agg #[.int .i64 kk, .iface ti (.pointer (some ⟨bb, 0, none⟩))]) w'' ∧ Below w'.heap.size w' w'')
    (H2 : ∀ j, j < n → ∀ (u : Value) (v' : Value) (bs' : List UInt8) (w' : World), Q j u w' → Bf B w' v'.ownBlock v' bs' w' → bs'.length ≤ bs.length + 9 + (YX X j).length → Off S v' w' → Calls Tryz.prog 121 #[u, v'] w' (Apnd B v' bs' (X j) w'))
    (h : Rd S w f (.slice a n c)) :
    Calls Tryz.prog 170 #[.agg #[.slice a n c, .int .u8 t], v] w (Apnd B v bs (wkH 0 t ++ Lib.leBytes 4 n ++ YX X n) w) := by
  have hsf := st_float
  obtain ⟨av, cv, rfl⟩ := hb.shape
  have HS := Lib.hid (Ws.start (A := #[.slice a n c, .int .u8 t]) (TA := 104) hb hS h)
  have hL : (Lib.leBytes 4 (wcode 0 t)).length = 4 := Lib.leBytes_length _ _
  have HL := Lib.hid hL
  have hbl : bs.length ≤ 8000000000000 := by have := hY 0 (Nat.zero_le _); omega
  have HY := Lib.hid hY; have HQ := Lib.hid hQ; have H1 := Lib.hid H1; have H2 := Lib.hid H2
  clear hb hS h hL hY hQ
  go_enter Tryz.func170, Tryz.ntmps170
  go_wp2_with fail
  refine (c217 _ _ _ _).mono ?_
  rintro _ w0 ⟨rfl, rfl⟩
  have HC1 := Lib.hid (c218 B (w.heap.size + 1) (.slice av bs.length cv) bs _ HS.out.bu (by omega))
  go_wp2_with fail
  refine HC1.out.mono ?_
  rintro _ w1 hm
  obtain ⟨v1, rfl, hs1⟩ := HS.out.more hm
  obtain ⟨k1, _, _⟩ := hs1.lb.use
  have HS1 := Lib.hid hs1
  clear hm hs1 HS HC1
  have HC2 := Lib.hid (c219 B (w.heap.size + 1) v1 (bs ++ [1]) 0 t w1 HS1.out.bu (by omega) (by omega) t0 t1 (by simp; omega))
  go_wp2_with fail
  refine HC2.out.mono ?_
  rintro _ w2 hm
  obtain ⟨v2, rfl, hs2⟩ := HS1.out.more hm
  obtain ⟨k2, _, _⟩ := hs2.lb.use
  have HS2 := Lib.hid hs2
  clear hm hs2 HS1 HC2 k1
  go_wp2_with fail
  refine (c157 _ _ _ _ _).mono ?_
  rintro _ w2' ⟨rfl, hb2⟩
  have hs2 := HS2.out.step hb2
  have HC3 := Lib.hid (c220 B (w.heap.size + 1) v2 _ n w2' hs2.bu (by omega) (by have := HL.out; simp only [List.length_append, List.length_cons, List.length_nil]; omega))
  replace HS2 := Lib.hid hs2
  clear hb2 hs2 k2
  go_wp2_with fail
  refine HC3.out.mono ?_
  rintro _ w3 hm
  obtain ⟨v3, rfl, hs3⟩ := HS2.out.more hm
  have hs3' : Ws w B S #[.slice a n c, .int .u8 t] 104 f (.slice a n c) (.slice av bs.length cv) v3 (bs ++ (wkH 0 t ++ Lib.leBytes 4 n) ++ YX X 0) w3 := by
    have e : bs ++ [1] ++ Lib.leBytes 4 (wcode 0 t) ++ Lib.leBytes 4 n = bs ++ (wkH 0 t ++ Lib.leBytes 4 n) ++ YX X 0 := by simp [wkH, YX_zero]
    rw [e] at hs3; exact hs3
  have HS3 := Lib.hid hs3'
  clear hm hs3 hs3' HS2 HC3
  go_wp2_with fail
  go_loopw [7] (fun i wr => ∃ j : Nat, ∃ vj, j ≤ n ∧ i = .int .i64 j ∧ Ws w B S #[.slice a n c, .int .u8 t] 104 f (.slice a n c) (.slice av bs.length cv) vj (bs ++ (wkH 0 t ++ Lib.leBytes 4 n) ++ YX X j) wr) (fun i _ => n - (intOf i).toNat)
  case atStart => exact ⟨0, _, Nat.zero_le _, rfl, HS3.out⟩
  case round =>
    clear HS3
    obtain ⟨j, vj, hj, rfl, hs⟩ := hrel
    by_cases hlt : j < n
    · have hlY := HY.out j (by omega)
      have hlt' : decide ((j : Int) < (n : Int)) = true := by simpa using hlt
      have hHD : (bs ++ (wkH 0 t ++ Lib.leBytes 4 n) ++ YX X j).length ≤ bs.length + 9 + (YX X j).length := by
        have := HL.out; simp only [wkH, List.length_append, List.length_cons, List.length_nil, Lib.leBytes_length]; omega
      generalize hHB : bs ++ (wkH 0 t ++ Lib.leBytes 4 n) ++ YX X j = hb at *
      have HHB := Lib.hid hHB
      obtain ⟨kp, _, _⟩ := hs.lb.use
      have HC := Lib.hid (H1.out j hlt wr hs.rd (fun b hSb => by have := (hs.off b hSb).1; have := hs.size; omega))
      have HSr := Lib.hid hs
      clear hs hHB
      go_wp2_with fail
      refine HC.out.mono ?_
      rintro _ w5 ⟨kk, ti, bb, rfl, hq5, hb5⟩
      have hb6 : Below w5.heap.size w5 ((w5.alloc (.cells #[.int .i64 kk, .iface ti (.pointer (some ⟨bb, 0, none⟩))] 47)).drew) := (bl_a1 w5 _).drew
      have hs6 := (HSr.out.step hb5).step hb6
      have hq6 := HQ.out j _ _ _ hq5 hb6
      have hle := (Lb.new w5 #[.int .i64 kk, .iface ti (.pointer (some ⟨bb, 0, none⟩))] 47).drewN 1
      have HA := Lib.hid (H2.out j hlt _ vj hb ((w5.alloc (.cells #[.int .i64 kk, .iface ti (.pointer (some ⟨bb, 0, none⟩))] 47)).drew) hq6 hs6.bu.here hHD (fun b hSb => ⟨by have := (hs6.off b hSb).1; have := hs6.size; omega, (hs6.offM b hSb).2⟩))
      obtain ⟨av2, nv2, cv2, rfl⟩ := hs6.bu.shape'
      obtain ⟨ke, _, _⟩ := hle.use
      obtain ⟨kM, _, _⟩ := hs6.bu.lb.use
      have HS6 := Lib.hid hs6
      clear hb5 hb6 hs6 hq5 hq6 hle HSr HC kp
      go_wp2_with fail
      go_region_law (first
        | (go_simp; go_at_call 121; refine HA.out.mono ?_; rintro _ w7 ⟨v7, rfl, hB7⟩
           obtain ⟨lM, hbu7, hW7⟩ := HS6.out.bu.put hB7
           obtain ⟨a7, n7, c7, rfl⟩ := hbu7.shape'
           obtain ⟨k7, f7, l7⟩ := lM.use
           have HS7 := Lib.hid (HS6.out.more' hbu7 hW7)
           clear hB7 lM hbu7 hW7))
      all_goals go_wp2_with fail
      all_goals go_roundw
      all_goals first
        | (simp [intOf]; omega; done)
        | (refine ⟨j + 1, .slice a7 n7 c7, by omega, by go_num, ?_⟩
           rw [YX_succ, ← List.append_assoc, HHB.out]
           exact HS7.out)
    · obtain rfl : n = j := by omega
      have hdl : decide (((n : Nat) : Int) < n) = false := by simp
      obtain ⟨k5, _, _⟩ := hs.bu.lb.use
      have HS4 := Lib.hid hs
      clear hs
      go_wp2_with fail
      go_ret
      exact ⟨vj, rfl, by have := HS4.out.done; simpa using this⟩
end Go.Proofs.YtahnhhkbdgaidaaGreatDoor
