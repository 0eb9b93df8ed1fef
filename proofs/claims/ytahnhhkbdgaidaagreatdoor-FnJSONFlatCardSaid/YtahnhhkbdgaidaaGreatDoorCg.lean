/-
  Text of geometries: its head; the word for what is empty; a place.
-/
import Derived.Test.YtahnhhkbdgaidaaGreatDoorCf
namespace Go.Proofs.YtahnhhkbdgaidaaGreatDoor
open Go.RowKit
set_option maxRecDepth 100000
def hdrB (t : Int) : List UInt8 := if t = 0 then [] else if t = 1 then [32, 90, 32] else if t = 2 then [32, 77, 32] else [32, 90, 77, 32]
theorem hdrB_len (t : Int) : (hdrB t).length ≤ 4 := by unfold hdrB; split <;> (try split) <;> (try split) <;> simp
set_option maxHeartbeats 1000000 in
theorem c178 (B : Nat) (bs : List UInt8) (v : Value) (s : ByteArray) (t : Int) (w : World) (hb : Bf B w v.ownBlock v bs w) (hlen : bs.length ≤ 100000000000000) (hs : s.size ≤ 1000) (h0 : 0 ≤ t) (h1 : t ≤ 3) :
    Calls Tryz.prog 178 #[v, .string s, .int .u8 t] w fun e w' => ∃ v', e = .returned v' ∧ Bf B w v.ownBlock v' (bs ++ s.data.toList ++ hdrB t) w' := by
  have i0 : ∀ w, (Instr.index 265 (.agg #[.string ⟨#[]⟩, .string ⟨#[32, 90, 32]⟩, .string ⟨#[32, 77, 32]⟩, .string ⟨#[32, 90, 77, 32]⟩]) (.int .u8 0)).run Tryz.prog w = .ok (.string ⟨#[]⟩) w := fun _ => by kernel_rfl
  have i1 : ∀ w, (Instr.index 265 (.agg #[.string ⟨#[]⟩, .string ⟨#[32, 90, 32]⟩, .string ⟨#[32, 77, 32]⟩, .string ⟨#[32, 90, 77, 32]⟩]) (.int .u8 1)).run Tryz.prog w = .ok (.string ⟨#[32, 90, 32]⟩) w := fun _ => by kernel_rfl
  have i2 : ∀ w, (Instr.index 265 (.agg #[.string ⟨#[]⟩, .string ⟨#[32, 90, 32]⟩, .string ⟨#[32, 77, 32]⟩, .string ⟨#[32, 90, 77, 32]⟩]) (.int .u8 2)).run Tryz.prog w = .ok (.string ⟨#[32, 77, 32]⟩) w := fun _ => by kernel_rfl
  have i3 : ∀ w, (Instr.index 265 (.agg #[.string ⟨#[]⟩, .string ⟨#[32, 90, 32]⟩, .string ⟨#[32, 77, 32]⟩, .string ⟨#[32, 90, 77, 32]⟩]) (.int .u8 3)).run Tryz.prog w = .ok (.string ⟨#[32, 90, 77, 32]⟩) w := fun _ => by kernel_rfl
  obtain ⟨v1, w1, hap0, hb1⟩ := hb.text s (by omega)
  have hl1 : (bs ++ s.data.toList).length ≤ 100000000001000 := by
    have e : s.data.toList.length = s.data.size := Array.length_toList
    have : s.data.size ≤ 1000 := hs
    rw [List.length_append, e]; omega
  have key : ∀ q : List UInt8, q.length ≤ 4 → ∃ v' w', (Builtin.append_ #[32, 9] 32 #[v1, .string ⟨q.toArray⟩]).run Tryz.prog w1 = .ok v' w' ∧ Bf B w v.ownBlock v' (bs ++ s.data.toList ++ q) w' := fun q hq => by
    have := hb1.text ⟨q.toArray⟩ (by have : (ByteArray.mk q.toArray).size = q.length := by show q.toArray.size = _; simp
                                     omega)
    simpa using this
  replace hap0 := Lib.hid hap0
  clear hb hb1
  rcases four t h0 h1 with rfl | rfl | rfl | rfl
  · obtain ⟨v2, w2, hap1, hb2⟩ := key [] (by simp)
    replace hap1 := Lib.hid hap1; replace hb2 := Lib.hid hb2; clear key
    go_enter Tryz.func178, Tryz.ntmps178
    go_wp2_with (at_builtin; first | refine wpList_append_eqs rfl _ _ 32 9 rfl rfl rfl rfl hap0.out ?_ | refine wpList_append_eqs rfl _ _ 32 9 rfl rfl rfl rfl hap1.out ?_)
    go_ret
    exact ⟨_, rfl, hb2.out⟩
  · obtain ⟨v2, w2, hap1, hb2⟩ := key [32, 90, 32] (by simp)
    replace hap1 := Lib.hid hap1; replace hb2 := Lib.hid hb2; clear key
    go_enter Tryz.func178, Tryz.ntmps178
    go_wp2_with (at_builtin; first | refine wpList_append_eqs rfl _ _ 32 9 rfl rfl rfl rfl hap0.out ?_ | refine wpList_append_eqs rfl _ _ 32 9 rfl rfl rfl rfl hap1.out ?_)
    go_ret
    exact ⟨_, rfl, hb2.out⟩
  · obtain ⟨v2, w2, hap1, hb2⟩ := key [32, 77, 32] (by simp)
    replace hap1 := Lib.hid hap1; replace hb2 := Lib.hid hb2; clear key
    go_enter Tryz.func178, Tryz.ntmps178
    go_wp2_with (at_builtin; first | refine wpList_append_eqs rfl _ _ 32 9 rfl rfl rfl rfl hap0.out ?_ | refine wpList_append_eqs rfl _ _ 32 9 rfl rfl rfl rfl hap1.out ?_)
    go_ret
    exact ⟨_, rfl, hb2.out⟩
  · obtain ⟨v2, w2, hap1, hb2⟩ := key [32, 90, 77, 32] (by simp)
    replace hap1 := Lib.hid hap1; replace hb2 := Lib.hid hb2; clear key
    go_enter Tryz.func178, Tryz.ntmps178
    go_wp2_with (at_builtin; first | refine wpList_append_eqs rfl _ _ 32 9 rfl rfl rfl rfl hap0.out ?_ | refine wpList_append_eqs rfl _ _ 32 9 rfl rfl rfl rfl hap1.out ?_)
    go_ret
    exact ⟨_, rfl, hb2.out⟩
/-- The word for what is empty, apart from what stands ahead. -/
def emptyB (bs : List UInt8) : List UInt8 :=
  (if bs = [] ∨ bs.getLast? = some 40 ∨ bs.getLast? = some 44 ∨ bs.getLast? = some 32 then [] else [32]) ++ [69, 77, 80, 84, 89]
theorem emptyB_len (bs : List UInt8) : (emptyB bs).length ≤ 6 := by unfold emptyB; split <;> simp
set_option maxHeartbeats 1000000 in
theorem c179 (B : Nat) (bs : List UInt8) (v : Value) (w : World) (hb : Bf B w v.ownBlock v bs w) (hlen : bs.length ≤ 100000000000000) :
    Calls Tryz.prog 179 #[v] w fun e w' => ∃ v', e = .returned v' ∧ Bf B w v.ownBlock v' (bs ++ emptyB bs) w' := by
  by_cases h0 : bs = []
  · obtain ⟨a, c, hv⟩ := hb.shape
    obtain ⟨v1, w1, hap0, hb1⟩ := hb.text ⟨#[69, 77, 80, 84, 89]⟩ (by show bs.length + 5 ≤ _; omega)
    replace hap0 := Lib.hid hap0; replace hb1 := Lib.hid hb1
    have hE : Hid (emptyB bs = [69, 77, 80, 84, 89]) := Lib.hid (by unfold emptyB; rw [if_pos (.inl h0)]; simp)
    subst h0
    clear hb
    rw [hv] at hap0
    have hv' := Lib.hid hv
    rw [hv]
    clear hv
    go_enter Tryz.func179, Tryz.ntmps179
    go_wp2_with (at_builtin; refine wpList_append_eqs rfl _ _ 32 9 rfl rfl rfl rfl hap0.out ?_)
    go_ret
    exact ⟨_, rfl, by have e := hb1.out; rw [hv'.out] at e; rw [hE.out]; simpa using e⟩
  · obtain ⟨l, x, rfl⟩ : ∃ l x, bs = l ++ [x] := ⟨bs.dropLast, bs.getLast h0, (List.dropLast_concat_getLast h0).symm⟩
    have hpos : decide ((0 : Int) < ((l ++ [x]).length : Int)) = true := by simp <;> omega
    have hL : ((l ++ [x]).length : Int) - 1 = (l.length : Int) := by simp
    obtain ⟨a, c, hv⟩ := hb.shape
    rcases hb.own.2 with ⟨_, hz⟩ | ⟨g, cap, cur, hv2, hg, hbk, hn, hc, hsz, ht⟩
    · simp at hz
    have hcell : w.cell? ⟨g, l.length, none⟩ = some (.int .u8 (x.toNat : Int)) := by
      have := hb.own.cells (g := g) (by rw [hv2]; rfl) l.length (.int .u8 (x.toNat : Int)) (by simp [bcells])
      simpa [Addr.add_lit] using this
    have hblt : g < w.heap.size := (Array.getElem?_eq_some_iff.1 hbk).1
    have ha : a = some ⟨g, 0, none⟩ := by rw [hv] at hv2; exact (Value.slice.inj hv2).1
    subst ha
    have hln : ((l ++ [x]).length : Nat) = l.length + 1 := by simp
    have hgl : (l ++ [x]).getLast? = some x := by simp
    have hll : l.length ≤ 100000000000000 := by rw [hln] at hlen; omega
    have hbx : ∀ k : UInt8, x ≠ k → (((x.toNat : Nat) : Int) == ((k.toNat : Nat) : Int)) = false := fun k hk => by
      rw [beq_eq_false_iff_ne]
      intro e
      exact hk (UInt8.toNat_inj.1 (Int.ofNat.inj e))
    by_cases hsep : x = 40 ∨ x = 44 ∨ x = 32
    · have hE : Hid (emptyB (l ++ [x]) = [69, 77, 80, 84, 89]) := Lib.hid (by unfold emptyB; rw [hgl, if_pos (by rcases hsep with rfl | rfl | rfl <;> simp)]; simp)
      obtain ⟨v1, w1, hap0, hb1⟩ := hb.text ⟨#[69, 77, 80, 84, 89]⟩ (by show (l ++ [x]).length + 5 ≤ _; omega)
      replace hap0 := Lib.hid hap0; replace hb1 := Lib.hid hb1
      clear hb hgl hbk hv2 hc hsz ht hn
      rw [hln] at hv
      rw [hv] at hap0
      have hv' := Lib.hid hv
      rw [hv]
      clear hv hpos hL hln hlen
      rcases hsep with rfl | rfl | rfl
      all_goals
        go_enter Tryz.func179, Tryz.ntmps179
        go_wp2_with (at_builtin; refine wpList_append_eqs rfl _ _ 32 9 rfl rfl rfl rfl hap0.out ?_)
        go_ret
        exact ⟨_, rfl, by have e := hb1.out; rw [hv'.out] at e; rw [hE.out]; simpa using e⟩
    · have hE : Hid (emptyB (l ++ [x]) = [32, 69, 77, 80, 84, 89]) := Lib.hid (by
        unfold emptyB; rw [hgl, if_neg (by
          rintro (h | h | h | h)
          · simp at h
          · exact hsep (.inl (Option.some.inj h))
          · exact hsep (.inr (.inl (Option.some.inj h)))
          · exact hsep (.inr (.inr (Option.some.inj h))))]; simp)
      have b1 : (((x.toNat : Nat) : Int) == 40) = false := hbx 40 (fun e => hsep (.inl e))
      have b2 : (((x.toNat : Nat) : Int) == 44) = false := hbx 44 (fun e => hsep (.inr (.inl e)))
      have b3 : (((x.toNat : Nat) : Int) == 32) = false := hbx 32 (fun e => hsep (.inr (.inr e)))
      obtain ⟨v1, w1, hap0, hb1⟩ := hb.byte 32 (by omega)
      obtain ⟨v2, w2, hap1, hb2⟩ := hb1.text ⟨#[69, 77, 80, 84, 89]⟩ (by show ((l ++ [x]) ++ [32]).length + 5 ≤ _; rw [List.length_append]; simp at *; omega)
      replace hap0 := Lib.hid hap0; replace hap1 := Lib.hid hap1; replace hb2 := Lib.hid hb2
      clear hb hgl hbk hv2 hc hsz ht hn hb1 hbx hsep
      rw [hln] at hv
      rw [hv] at hap0
      have hv' := Lib.hid hv
      rw [hv]
      clear hv hpos hL hln hlen
      go_enter Tryz.func179, Tryz.ntmps179
      go_wp2_with (at_builtin; first | refine wpList_append_eq rfl _ _ 32 rfl rfl rfl rfl hap0.out ?_ | refine wpList_append_eqs rfl _ _ 32 9 rfl rfl rfl rfl hap1.out ?_)
      go_ret
      exact ⟨_, rfl, by have e := hb2.out; rw [hv'.out] at e; rw [hE.out]; simpa using e⟩
end Go.Proofs.YtahnhhkbdgaidaaGreatDoor
