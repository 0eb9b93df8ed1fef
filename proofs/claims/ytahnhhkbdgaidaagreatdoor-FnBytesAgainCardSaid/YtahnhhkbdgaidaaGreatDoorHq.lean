/-
  FnBytesAgain answers true for every slice of bytes: what the reference reads of it without NaN is read, and what was read is written as bytes that are read as the same. The row and its tied card. The listed variable of rtree is not read on this road.
-/
import Derived.Test.YtahnhhkbdgaidaaGreatDoorRows
import Derived.Lay
import Derived.Lib.SmallJoins
import Derived.OpenShut
import Derived.Deep.Slices
import Derived.Test.YtahnhhkbdgaidaaGreatDoorHo
import Derived.Test.YtahnhhkbdgaidaaGreatDoorHp
import Derived.Test.YtahnhhkbdgaidaaGreatDoorKbm
import Derived.Test.YtahnhhkbdgaidaaGreatDoorTie
import Derived.Test.YtahnhhkbdgaidaaGreatDoorCards
import Derived.SevenTiedAt
namespace Go.Proofs.YtahnhhkbdgaidaaGreatDoor
open Go.RowKit Go.ChangeShapes Go.WideShapes Go.ChangeAt
set_option maxRecDepth 100000
theorem own : ownKnob Tryz.prog.godebug = none := by kernel_rfl
theorem laidOut : laidOutB Tryz.prog = true := by kernel_rfl
theorem readable32 : Tryz.prog.readableRec 32 = true := by kernel_rfl
theorem row32 : 32 < Tryz.prog.types.size := of_decide_eq_true (by kernel_rfl)
theorem ucells5 : Tryz.prog.cellsOf 5 = 1 := by kernel_rfl
/-- A slice of bytes that came in. -/
theorem bytes_open {H : Type} {enc : TypeId × Value → H} {W : World} {base : Nat} {v : Value} {d : DataW H} {p : List MemPlace} (hval : Value.okWide Tryz.prog W .any base 32 v) (h : DataW.Trod enc Tryz.prog W 0 (fun _ => true) true 32 v d p) : ∃ l : List UInt8, Bz W v l := by
  obtain ⟨a1, len, cap, rfl⟩ := okWide_slice Tryz.underlying32 hval
  obtain ⟨fuel, hf⟩ := h
  rcases open_ints Tryz.underlying32 Tryz.underlying5 ucells5 hf with ⟨hcs, hx⟩ | ⟨a, len', cap', zs, hcs, _, hl, hm, hz, hx, hcell, hwz⟩
  · simp [Value.cells] at hcs
    obtain ⟨rfl, rfl, rfl⟩ := hcs
    exact ⟨[], none, 0, rfl, by simp, fun j h => by simp at h⟩
  · simp [Value.cells] at hcs
    obtain ⟨rfl, rfl, rfl⟩ := hcs
    simp only [if_true] at hz
    have hlen : ((zs.take len).map fun n => UInt8.ofNat n.toNat).length = len := by simp; omega
    refine ⟨(zs.take len).map fun n => UInt8.ofNat n.toNat, some a, cap, by rw [hlen], by rw [hlen]; omega, fun j hj => ?_⟩
    rw [hlen] at hj
    obtain ⟨ab, ao, spot⟩ := a
    have hspot : spot = none := by simpa [Addr.add] using World.cell?_spot (hcell 0 (by omega))
    subst hspot
    have hcj := hcell j (by omega)
    rw [Addr.add_lit] at hcj
    refine ⟨ab, ao, rfl, cell_lt hcj, ?_⟩
    rw [hcj]
    have hb := range_u8 hwz j
    simp only [List.getElem_map, List.getElem_take]
    have e : zs.getD j 0 = zs[j]'(by omega) := by simp [List.getD, List.getElem?_eq_getElem (show j < zs.length by omega)]
    rw [List.getD_eq_getElem?_getD] at e
    rw [e] at hb
    rw [List.getD_eq_getElem?_getD, e]
    congr 2
    simp only [UInt8.toNat_ofNat']
    omega
/-- The witness: no bytes, in the world that the listed tables have been laid in. -/
def noArgs : Array Value := #[.slice none 0 0]
theorem again_step (H : Type) (enc : TypeId × Value → H) (W : World) (base : Nat) (args : Array Value) (ds gs : List (DataW H)) (before : List MemPlace)
    (hval : ∀ (j : Nat) t v, Tryz.f5.params[j]? = some t → args[j]? = some v → Value.okWide Tryz.prog W .any base t v)
    (hW : DataW.Whole enc Tryz.prog Tryz.f5.params.toList Rows.fnBytesAgainSpec.vars false W args.toList ds gs before) :
    Calls Tryz.prog 5 args W fun e W' => ∃ v, e = .returned v ∧ Rows.fnBytesAgainSpec.post enc Tryz.prog Tryz.f5 false true false false W args v W' := by
  have hW' := hW
  obtain ⟨p, q, hA0, hV, rfl, _, _⟩ := hW
  have hA : DataW.TrodAll enc Tryz.prog W 0 (fun _ => true) true Tryz.f5.params.toList args.toList ds p := hA0
  rw [Tryz.params5] at hA hval
  obtain ⟨v0, d0, rfl, rfl, h0⟩ := trodAll_one hA
  obtain ⟨rfl, rfl⟩ := trodVars_none hV
  obtain ⟨l, hz⟩ := bytes_open (hval 0 32 v0 rfl rfl) h0
  simp only [List.append_nil] at hW'
  have hlt : ∀ x ∈ p, x.block < W.heap.size := fun x hx => by simpa using hW'.lt x hx
  refine (c5 v0 l W hz).mono fun e W' ⟨he, hb⟩ => ?_
  subst he
  exact ⟨_, rfl, _, _, _, [], p, [], hW', trodAll_mk1 (shut_bool Tryz.underlying4 _), trodAll_mk1 (Below.trod laidOut readable32 row32 h0 hb hlt), rfl, hb.frame _, fun h => by cases h⟩
theorem laid_met (os : Os) : laidMetH Tryz.prog Rows.fnBytesAgainRow.laid ((World.laidAll Tryz.prog os Rows.fnBytesAgainRow.laid).forCall (fun _ _ => 0) ⟨#[], noArgs, []⟩).memory := by
  rw [MakeChecks.laidMetH_plain _ _ _ (by kernel_rfl)]
  exact laidMet_laidAll _ (by kernel_rfl) (by kernel_rfl)
theorem lifted (os : Os) (started : os.Started) (H : Type) (enc : TypeId × Value → H) :
    ReturnsInHanded {} Tryz.checked os 5 .any (fun w args => (Rows.fnBytesAgainSpec.pre enc Tryz.prog Tryz.f5 [] false w args ∧ laidMetH Tryz.prog Rows.fnBytesAgainRow.laid w) ∧ sizedMet enc Tryz.prog Tryz.f5 (OpenSpec.ofChange Rows.fnBytesAgainSpec) false w args)
      (Rows.fnBytesAgainSpec.post enc Tryz.prog Tryz.f5 false true false false) := by
  refine returnsInHanded_of_change_and (C := Tryz.checked) (X := fun w _ => laidMetH Tryz.prog Rows.fnBytesAgainRow.laid w) (fun _ _ _ hh h => h.of_heap hh) own started (by kernel_rfl) Tryz.func5
    (ChangeSpec.witness_shaped (enc := enc) (C := Tryz.checked) (os := os) (X := fun w _ => laidMetH Tryz.prog Rows.fnBytesAgainRow.laid w) false (World.laidAll Tryz.prog os Rows.fnBytesAgainRow.laid) noArgs 8 (World.laidAll_os _ _ _)
      (World.shaped_of_ZipB (by kernel_rfl) (by kernel_rfl)) (by kernel_rfl) (by kernel_rfl) (by kernel_rfl) (laid_met os)) ?_
  intro W base args ds gs before hval0 hW _ _ _ _
  exact again_step H enc W base args ds gs before hval0 hW
theorem said : Rows.FnBytesAgainSaid :=
  OpenClaim.holds_of_wide 5 Tryz.f5 rfl rfl rfl rfl rfl rfl rfl ⟨rfl, rfl, rfl, rfl, rfl⟩ rfl rfl rfl rfl rfl named5 Tryz.func5 facts inst5 wrap5
    (fun os started H enc _ => lifted os started H enc)
theorem plain (f : FuncId) (fn : Func) (hf : Tryz.pinned.checked.prog.funcNamed "pub-alidade/laws.FnBytesAgain" = some f) (hfn : Tryz.pinned.checked.prog.funcs[f]? = some fn) :
    true = Tryz.pinned.checked.prog.looks [] ∧ ∀ (j : Nat) t, fn.params[j]? = some t → Tryz.pinned.checked.prog.wantsStandIn t = false := by
  obtain rfl : f = 5 := Option.some.inj ((show Tryz.prog.funcNamed "pub-alidade/laws.FnBytesAgain" = some 5 by kernel_rfl).symm.trans hf) |>.symm
  obtain rfl : fn = Tryz.f5 := (Option.some.inj (Tryz.func5.symm.trans hfn)).symm
  refine ⟨by kernel_rfl, fun j t ht => ?_⟩
  rw [Tryz.params5] at ht
  obtain rfl : t = 32 := by simpa using Array.mem_of_getElem? ht
  exact (show Tryz.prog.wantsStandIn 32 = false by kernel_rfl)
theorem goes_again : false = Rows.fnBytesAgainRow.goesBy Tryz.pinned.checked.prog := goes_by _ _ no_goes rfl
/-- The tied card. -/
theorem fnBytesAgain_holds : Rows.FnBytesAgainCardSaid :=
  Claim7.holds_tied_plain_at .later [] _ _ _ _ said (fun _ h => by cases h) (by kernel_rfl) (fun _ h => by cases h) fnBytesAgain_row_tie rfl ⟨rfl, rfl⟩ (by kernel_rfl) rfl plain goes_again
#print axioms fnBytesAgain_holds
end Go.Proofs.YtahnhhkbdgaidaaGreatDoor
