/-
  FnBytesBack answers true for every geometry that can be read: the WKB that the program writes is read back as the same geometry. The row and its tied card. The listed variable of rtree is not read on this road.
-/
import Derived.Test.YtahnhhkbdgaidaaGreatDoorRows
import Derived.Lay
import Derived.Lib.SmallJoins
import Derived.OpenShut
import Derived.Test.YtahnhhkbdgaidaaGreatDoorTie
import Derived.Test.YtahnhhkbdgaidaaGreatDoorCards
import Derived.SevenTiedAt
import Derived.Test.YtahnhhkbdgaidaaGreatDoorKbj
import Derived.Test.YtahnhhkbdgaidaaGreatDoorKbk
import Derived.Test.YtahnhhkbdgaidaaGreatDoorKbl
import Derived.Test.YtahnhhkbdgaidaaGreatDoorKbm
namespace Go.Proofs.YtahnhhkbdgaidaaGreatDoor
open Go.RowKit Go.ChangeShapes Go.WideShapes Go.ChangeAt
set_option maxRecDepth 100000
theorem own : ownKnob Tryz.prog.godebug = none := by kernel_rfl
theorem laidOut : laidOutB Tryz.prog = true := by kernel_rfl
theorem readable25 : Tryz.prog.readableRec 25 = true := by kernel_rfl
theorem row25 : 25 < Tryz.prog.types.size := of_decide_eq_true (by kernel_rfl)
end Go.Proofs.YtahnhhkbdgaidaaGreatDoor
namespace Go.Proofs.YtahnhhkbdgaidaaGreatDoor
open Go.RowKit Go.ChangeShapes Go.WideShapes Go.ChangeAt
set_option maxRecDepth 100000
/-- The witness: the zero geometry, in the world that the listed tables have been laid in. -/
def zeroArgs : Array Value := #[.agg #[.int .i64 0, .int .i64 0, .slice none 0 0, .slice none 0 0]]
theorem back_step (H : Type) (enc : TypeId × Value → H) (W : World) (base : Nat) (args : Array Value) (ds gs : List (DataW H)) (before : List MemPlace)
    (hval : ∀ (j : Nat) t v, Tryz.f6.params[j]? = some t → args[j]? = some v → Value.okWide Tryz.prog W .any base t v)
    (hW : DataW.Whole enc Tryz.prog Tryz.f6.params.toList Rows.fnBytesBackSpec.vars false W args.toList ds gs before)
    (hsz : (DataW.weightsEach Tryz.prog (Tryz.f6.params.toList ++ Rows.fnBytesBackSpec.plain.varTypes Tryz.prog) (ds ++ gs)).all (· ≤ reachBytes) = true)
    (_ : laidMetH Tryz.prog Rows.fnBytesBackRow.laid W) :
    Calls Tryz.prog 6 args W fun e W' => ∃ v, e = .returned v ∧ Rows.fnBytesBackSpec.post enc Tryz.prog Tryz.f6 false true false false W args v W' := by
  have hW' := hW
  obtain ⟨p, q, hA0, hV, rfl, _, _⟩ := hW
  have hA : DataW.TrodAll enc Tryz.prog W 0 (fun _ => true) true Tryz.f6.params.toList args.toList ds p := hA0
  rw [Tryz.params6] at hA hval
  obtain ⟨v0, d0, rfl, rfl, h0⟩ := trodAll_one hA
  obtain ⟨rfl, rfl⟩ := trodVars_none hV
  obtain ⟨x0, x1, x2, x3, y0, y1, y2, y3, m, rfl, _⟩ := Joins.open_agg4 Tryz.underlying25 (by kernel_rfl) cells25 (hval 0 25 v0 rfl rfl) h0
  have h0k := h0
  obtain ⟨fuel, hf⟩ := h0
  have hw : (DataW.weights Tryz.prog 25 d0).all (· ≤ reachBytes) = true := by
    rw [Tryz.params6] at hsz
    refine List.all_eq_true.2 fun n hn => ?_
    exact List.all_eq_true.1 hsz n (DataW.weights_mem_each (j := 0) (t := 25) (d := d0) rfl rfl n hn)
  obtain ⟨g, vn, vk, hcs, hn, hk, hcap, hsl⟩ := geo_open2 W fuel _ (d0, p) hf hw
  have hval0 : #[x0, x1, x2, x3] = #[Value.int .i64 g.kind, .int .i64 g.dim, vn, vk] := by
    have := congrArg List.toArray hcs
    simpa [Value.cells] using this
  rw [hval0] at h0k ⊢
  simp only [List.append_nil] at hW'
  have hlt : ∀ x ∈ p, x.block < W.heap.size := fun x hx => by simpa using hW'.lt x hx
  refine (c6 g vn vk W hsl hn hk hcap).mono fun e W' ⟨he, hb⟩ => ?_
  subst he
  rw [hval0] at hW'
  exact ⟨_, rfl, _, _, _, [], p, [], hW', trodAll_mk1 (shut_bool Tryz.underlying4 _), trodAll_mk1 (Below.trod laidOut readable25 row25 h0k hb hlt), rfl, hb.frame _, fun h => by cases h⟩
theorem laid_met (os : Os) : laidMetH Tryz.prog Rows.fnBytesBackRow.laid ((World.laidAll Tryz.prog os Rows.fnBytesBackRow.laid).forCall (fun _ _ => 0) ⟨#[], zeroArgs, []⟩).memory := by
  rw [MakeChecks.laidMetH_plain _ _ _ (by kernel_rfl)]
  exact laidMet_laidAll _ (by kernel_rfl) (by kernel_rfl)
theorem lifted (os : Os) (started : os.Started) (H : Type) (enc : TypeId × Value → H) :
    ReturnsInHanded {} Tryz.checked os 6 .any (fun w args => (Rows.fnBytesBackSpec.pre enc Tryz.prog Tryz.f6 [] false w args ∧ laidMetH Tryz.prog Rows.fnBytesBackRow.laid w) ∧ sizedMet enc Tryz.prog Tryz.f6 (OpenSpec.ofChange Rows.fnBytesBackSpec) false w args)
      (Rows.fnBytesBackSpec.post enc Tryz.prog Tryz.f6 false true false false) := by
  refine returnsInHanded_of_change_and (C := Tryz.checked) (X := fun w _ => laidMetH Tryz.prog Rows.fnBytesBackRow.laid w) (fun _ _ _ hh h => h.of_heap hh) own started (by kernel_rfl) Tryz.func6
    (ChangeSpec.witness_shaped (enc := enc) (C := Tryz.checked) (os := os) (X := fun w _ => laidMetH Tryz.prog Rows.fnBytesBackRow.laid w) false (World.laidAll Tryz.prog os Rows.fnBytesBackRow.laid) zeroArgs 8 (World.laidAll_os _ _ _)
      (World.shaped_of_ZipB (by kernel_rfl) (by kernel_rfl)) (by kernel_rfl) (by kernel_rfl) (by kernel_rfl) (laid_met os)) ?_
  intro W base args ds gs before hval0 hW _ hsz hL _
  exact back_step H enc W base args ds gs before hval0 hW hsz hL
theorem said : Rows.FnBytesBackSaid :=
  OpenClaim.holds_of_wide 6 Tryz.f6 rfl rfl rfl rfl rfl rfl rfl ⟨rfl, rfl, rfl, rfl, rfl⟩ rfl rfl rfl rfl rfl named6 Tryz.func6 facts inst6 wrap6
    (fun os started H enc _ => lifted os started H enc)
theorem plain (f : FuncId) (fn : Func) (hf : Tryz.pinned.checked.prog.funcNamed "pub-alidade/laws.FnBytesBack" = some f) (hfn : Tryz.pinned.checked.prog.funcs[f]? = some fn) :
    true = Tryz.pinned.checked.prog.looks [] ∧ ∀ (j : Nat) t, fn.params[j]? = some t → Tryz.pinned.checked.prog.wantsStandIn t = false := by
  obtain rfl : f = 6 := Option.some.inj ((show Tryz.prog.funcNamed "pub-alidade/laws.FnBytesBack" = some 6 by kernel_rfl).symm.trans hf) |>.symm
  obtain rfl : fn = Tryz.f6 := (Option.some.inj (Tryz.func6.symm.trans hfn)).symm
  refine ⟨by kernel_rfl, fun j t ht => ?_⟩
  rw [Tryz.params6] at ht
  obtain rfl : t = 25 := by simpa using Array.mem_of_getElem? ht
  exact (show Tryz.prog.wantsStandIn 25 = false by kernel_rfl)
/-- The tied card. -/
theorem fnBytesBack_holds : Rows.FnBytesBackCardSaid :=
  Claim7.holds_tied_plain_at .later [] _ _ _ _ said (fun _ h => by cases h) (by kernel_rfl) (fun _ h => by cases h) fnBytesBack_row_tie rfl ⟨rfl, rfl⟩ (by kernel_rfl) rfl plain goes_free
end Go.Proofs.YtahnhhkbdgaidaaGreatDoor
