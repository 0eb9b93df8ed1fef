/-
  FnJSONFlat answers true for every geometry that can be read (without M, and without empty points in a multi, the GeoJSON that the program writes is the same): the row and its tied card. Conditions: the listed tables of internal/strconv and math/bits hold what the program's text lays, which the card ties; the form's own reach.
-/
import Derived.Test.YtahnhhkbdgaidaaGreatDoorCa
import Derived.Test.YtahnhhkbdgaidaaGreatDoorDa
import Derived.Test.YtahnhhkbdgaidaaGreatDoorRows
import Derived.Lay
import Derived.Lib.LaidU8
import Derived.Lib.SmallJoins
import Derived.OpenShut
import Derived.Test.YtahnhhkbdgaidaaGreatDoorDw
import Derived.Test.YtahnhhkbdgaidaaGreatDoorEa
import Derived.Test.YtahnhhkbdgaidaaGreatDoorTie
import Derived.Test.YtahnhhkbdgaidaaGreatDoorCards
import Derived.SevenTiedAt
namespace Go.Proofs.YtahnhhkbdgaidaaGreatDoor
open Go.RowKit Go.ChangeShapes Go.WideShapes Go.ChangeAt
set_option maxRecDepth 100000
theorem t5 : (Tryz.prog.globals[5]?).map (·.type) = some 409 := by kernel_rfl
theorem t6 : (Tryz.prog.globals[6]?).map (·.type) = some 429 := by kernel_rfl
theorem big_named : Tryz.prog.globalNamed "internal/strconv.pow10Tab" = some 6 := by kernel_rfl
theorem cells155 : Tryz.prog.cellsOf 155 = 1 := by kernel_rfl
theorem cells409 : Tryz.prog.cellsOf 409 = 20 := by kernel_rfl
theorem cells428 : Tryz.prog.cellsOf 428 = 2 := by kernel_rfl
theorem pow_data : (Rows.laid_internal_strconv_uint64pow10 : DataW Unit) = Lib.tabData .u64 Lib.pow10Tab := by kernel_rfl
/-- The listed tables, as the walks ask for them. -/
theorem tabs_of {W : World} (hp : Lib.VarReads Tryz.prog W "internal/strconv.uint64pow10" Rows.laid_internal_strconv_uint64pow10) (hb : ∃ d, Lib.VarReads Tryz.prog W "internal/strconv.pow10Tab" d) : ∃ tab, Tabs tab W := by
  obtain ⟨g, t, cs, fuel, p, hg, ht, hv, hd⟩ := hp
  obtain rfl := Option.some.inj (pow_named.symm.trans hg)
  obtain rfl := Option.some.inj (t5.symm.trans ht)
  rw [pow_data] at hd
  have hcs := Lib.cells_of_tab Tryz.underlying409 Tryz.underlying155 cells155 cells409 hd
  obtain ⟨d, g, t, cs2, fuel2, p2, hg2, ht2, hv2, hd2⟩ := hb
  obtain rfl := Option.some.inj (big_named.symm.trans hg2)
  obtain rfl := Option.some.inj (t6.symm.trans ht2)
  obtain ⟨xs, m, _, _, _, hxl, hel⟩ := DataW.trod_array Tryz.underlying429 hd2
  rw [cells428] at hel
  have key : ∀ i, i < 1392 → ∃ z : Int, W.cell? ⟨6, i, none⟩ = some (.int .u64 z) ∧ 0 ≤ z ∧ z < 18446744073709551616 := fun i hi => by
    have h1 := hel (i / 2) (by omega)
    rw [List.getElem?_eq_getElem (by omega)] at h1
    obtain ⟨ys, n, _, _, hl, _, hf⟩ := DataW.trod_struct Tryz.underlying428 h1
    rw [cells428] at hl
    have hc : ∀ j, j < 2 → cs2.toList[i / 2 * 2 + j]? = ((cs2.toList.drop (i / 2 * 2)).take 2)[j]? := fun j hj => by
      rw [List.getElem?_take, if_pos hj, List.getElem?_drop]
    have hj : i % 2 = 0 ∨ i % 2 = 1 := by omega
    have hcell : W.cell? ⟨6, i, none⟩ = cs2.toList[i / 2 * 2 + i % 2]? := by
      rw [World.var?_cell hg2 hv2 i, show i / 2 * 2 + i % 2 = i by omega]; simp
    have two : ∃ a b, (cs2.toList.drop (i / 2 * 2)).take 2 = [a, b] := by
      match hl2 : (cs2.toList.drop (i / 2 * 2)).take 2, hl with
      | [a, b], _ => exact ⟨a, b, rfl⟩
    obtain ⟨a, b, hab⟩ := two
    rw [hab] at hf hc
    have f0 : DataW.trod (fun _ => ()) Tryz.prog W 0 (fun _ => true) false n 155 [a] = ys[0]? := by
      have h : DataW.trod (fun _ => ()) Tryz.prog W 0 (fun _ => true) false n 155 (List.take (Tryz.prog.cellsOf 155) (List.drop 0 [a, b])) = ys[0]? := hf 0 _ rfl
      rw [cells155] at h; exact h
    have f1 : DataW.trod (fun _ => ()) Tryz.prog W 0 (fun _ => true) false n 155 [b] = ys[1]? := by
      have h : DataW.trod (fun _ => ()) Tryz.prog W 0 (fun _ => true) false n 155 (List.take (Tryz.prog.cellsOf 155) (List.drop 1 [a, b])) = ys[1]? := hf 1 _ rfl
      rw [cells155] at h; exact h
    have hyl : ys.length = 2 := by assumption
    rcases hj with hj | hj
    · rw [List.getElem?_eq_getElem (by omega)] at f0
      obtain ⟨z, e, _, wz⟩ := DataW.trod_int Tryz.underlying155 f0
      have ez : a = .int .u64 z := by simpa using e
      refine ⟨z, ?_, ?_⟩
      · rw [hcell, hc _ (by omega), hj, ez]; rfl
      · simp [Lit.wf, IntKind.min, IntKind.max, IntKind.signed, IntKind.bits] at wz; omega
    · rw [List.getElem?_eq_getElem (by omega)] at f1
      obtain ⟨z, e, _, wz⟩ := DataW.trod_int Tryz.underlying155 f1
      have ez : b = .int .u64 z := by simpa using e
      refine ⟨z, ?_, ?_⟩
      · rw [hcell, hc _ (by omega), hj, ez]; rfl
      · simp [Lit.wf, IntKind.min, IntKind.max, IntKind.signed, IntKind.bits] at wz; omega
  obtain ⟨tab, htab⟩ := Go.Deep.choose_lt key
  refine ⟨tab, fun i hi => (htab i hi).1, fun i hi => (htab i hi).2, ?_, cell_lt (htab 0 (by omega)).1⟩
  unfold Lib.TabIs
  rw [hv, ← hcs]
theorem own : ownKnob Tryz.prog.godebug = none := by kernel_rfl
theorem laidOut : laidOutB Tryz.prog = true := by kernel_rfl
theorem readable25 : Tryz.prog.readableRec 25 = true := by kernel_rfl
theorem row25 : 25 < Tryz.prog.types.size := of_decide_eq_true (by kernel_rfl)
end Go.Proofs.YtahnhhkbdgaidaaGreatDoor
namespace Go.Proofs.YtahnhhkbdgaidaaGreatDoor
open Go.RowKit Go.ChangeShapes Go.WideShapes Go.ChangeAt
set_option maxRecDepth 100000
/-- The witness: the zero geometry, in the world that the listed tables have been laid in. -/
def zeroArgs : Array Value := #[.agg #[.int .i64 0, .int .i64 0, .slice none 0 0, .slice none 0 0]]
theorem flat_step (H : Type) (enc : TypeId × Value → H) (W : World) (base : Nat) (args : Array Value) (ds gs : List (DataW H)) (before : List MemPlace)
    (hval : ∀ (j : Nat) t v, Tryz.f4.params[j]? = some t → args[j]? = some v → Value.okWide Tryz.prog W .any base t v)
    (hW : DataW.Whole enc Tryz.prog Tryz.f4.params.toList Rows.fnJSONFlatSpec.vars false W args.toList ds gs before)
    (hsz : (DataW.weightsEach Tryz.prog (Tryz.f4.params.toList ++ Rows.fnJSONFlatSpec.plain.varTypes Tryz.prog) (ds ++ gs)).all (· ≤ reachBytes) = true)
    (hL : laidMetH Tryz.prog Rows.fnJSONFlatRow.laid W) :
    Calls Tryz.prog 4 args W fun e W' => ∃ v, e = .returned v ∧ Rows.fnJSONFlatSpec.post enc Tryz.prog Tryz.f4 false true false false W args v W' := by
  have hW' := hW
  obtain ⟨p, q, hA0, hV, rfl, _, _⟩ := hW
  have hA : DataW.TrodAll enc Tryz.prog W 0 (fun _ => true) true Tryz.f4.params.toList args.toList ds p := hA0
  rw [Tryz.params4] at hA hval
  obtain ⟨v0, d0, rfl, rfl, h0⟩ := trodAll_one hA
  obtain ⟨rfl, rfl⟩ := trodVars_none hV
  obtain ⟨x0, x1, x2, x3, y0, y1, y2, y3, m, rfl, _⟩ := Joins.open_agg4 Tryz.underlying25 (by kernel_rfl) cells25 (hval 0 25 v0 rfl rfl) h0
  have h0k := h0
  obtain ⟨fuel, hf⟩ := h0
  have hw : (DataW.weights Tryz.prog 25 d0).all (· ≤ reachBytes) = true := by
    rw [Tryz.params4] at hsz
    refine List.all_eq_true.2 fun n hn => ?_
    exact List.all_eq_true.1 hsz n (DataW.weights_mem_each (j := 0) (t := 25) (d := d0) rfl rfl n hn)
  obtain ⟨g, vn, vk, hcs, hn, hk, hcap⟩ := geo_open W fuel _ (d0, p) hf hw
  have hval0 : #[x0, x1, x2, x3] = #[Value.int .i64 g.kind, .int .i64 g.dim, vn, vk] := by
    have := congrArg List.toArray hcs
    simpa [Value.cells] using this
  rw [hval0] at h0k ⊢
  rw [MakeChecks.laidMetH_plain _ _ _ (by kernel_rfl)] at hL
  obtain ⟨tab, hT⟩ := tabs_of (Lib.laidMet.reads hL (.tail _ (.tail _ (.tail _ (.head _))))) ⟨_, Lib.laidMet.reads hL (.tail _ (.tail _ (.tail _ (.tail _ (.tail _ (.head _))))))⟩
  simp only [List.append_nil] at hW'
  have hlt : ∀ x ∈ p, x.block < W.heap.size := fun x hx => by simpa using hW'.lt x hx
  refine (c4 tab g vn vk W hT hn hk hcap).mono fun e W' ⟨he, hb⟩ => ?_
  subst he
  rw [hval0] at hW'
  exact ⟨_, rfl, _, _, _, [], p, [], hW', trodAll_mk1 (shut_bool Tryz.underlying4 _), trodAll_mk1 (Below.trod laidOut readable25 row25 h0k hb hlt), rfl, hb.frame _, fun h => by cases h⟩
theorem laid_met (os : Os) : laidMetH Tryz.prog Rows.fnJSONFlatRow.laid ((World.laidAll Tryz.prog os Rows.fnJSONFlatRow.laid).forCall (fun _ _ => 0) ⟨#[], zeroArgs, []⟩).memory := by
  rw [MakeChecks.laidMetH_plain _ _ _ (by kernel_rfl)]
  exact laidMet_laidAll _ (by kernel_rfl) (by kernel_rfl)
theorem lifted (os : Os) (started : os.Started) (H : Type) (enc : TypeId × Value → H) :
    ReturnsInHanded {} Tryz.checked os 4 .any (fun w args => (Rows.fnJSONFlatSpec.pre enc Tryz.prog Tryz.f4 [] false w args ∧ laidMetH Tryz.prog Rows.fnJSONFlatRow.laid w) ∧ sizedMet enc Tryz.prog Tryz.f4 (OpenSpec.ofChange Rows.fnJSONFlatSpec) false w args)
      (Rows.fnJSONFlatSpec.post enc Tryz.prog Tryz.f4 false true false false) := by
  refine returnsInHanded_of_change_and (C := Tryz.checked) (X := fun w _ => laidMetH Tryz.prog Rows.fnJSONFlatRow.laid w) (fun _ _ _ hh h => h.of_heap hh) own started (by kernel_rfl) Tryz.func4
    (ChangeSpec.witness_shaped (enc := enc) (C := Tryz.checked) (os := os) (X := fun w _ => laidMetH Tryz.prog Rows.fnJSONFlatRow.laid w) false (World.laidAll Tryz.prog os Rows.fnJSONFlatRow.laid) zeroArgs 8 (World.laidAll_os _ _ _)
      (World.shaped_of_ZipB (by kernel_rfl) (by kernel_rfl)) (by kernel_rfl) (by kernel_rfl) (by kernel_rfl) (laid_met os)) ?_
  intro W base args ds gs before hval0 hW _ hsz hL _
  exact flat_step H enc W base args ds gs before hval0 hW hsz hL
theorem said : Rows.FnJSONFlatSaid :=
  OpenClaim.holds_of_wide 4 Tryz.f4 rfl rfl rfl rfl rfl rfl rfl ⟨rfl, rfl, rfl, rfl, rfl⟩ rfl rfl rfl rfl rfl named4 Tryz.func4 facts inst4 wrap4
    (fun os started H enc _ => lifted os started H enc)
theorem plain (f : FuncId) (fn : Func) (hf : Tryz.pinned.checked.prog.funcNamed "pub-alidade/laws.FnJSONFlat" = some f) (hfn : Tryz.pinned.checked.prog.funcs[f]? = some fn) :
    true = Tryz.pinned.checked.prog.looks [] ∧ ∀ (j : Nat) t, fn.params[j]? = some t → Tryz.pinned.checked.prog.wantsStandIn t = false := by
  obtain rfl : f = 4 := Option.some.inj ((show Tryz.prog.funcNamed "pub-alidade/laws.FnJSONFlat" = some 4 by kernel_rfl).symm.trans hf) |>.symm
  obtain rfl : fn = Tryz.f4 := (Option.some.inj (Tryz.func4.symm.trans hfn)).symm
  refine ⟨by kernel_rfl, fun j t ht => ?_⟩
  rw [Tryz.params4] at ht
  obtain rfl : t = 25 := by simpa using Array.mem_of_getElem? ht
  exact (show Tryz.prog.wantsStandIn 25 = false by kernel_rfl)
/-- The tied card. -/
theorem fnJSONFlat_holds : Rows.FnJSONFlatCardSaid :=
  Claim7.holds_tied_plain_at .later [] _ _ _ _ said (fun _ h => by cases h) (by kernel_rfl) (fun _ h => by cases h) fnJSONFlat_row_tie rfl ⟨rfl, rfl⟩ (by kernel_rfl) rfl plain (by kernel_rfl)
#print axioms fnJSONFlat_holds
end Go.Proofs.YtahnhhkbdgaidaaGreatDoor
