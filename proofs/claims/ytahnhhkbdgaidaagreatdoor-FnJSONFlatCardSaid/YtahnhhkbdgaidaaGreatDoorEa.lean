/-
  The closed facts of the row, each by itself.
-/
import Derived.Test.YtahnhhkbdgaidaaGreatDoorRows
import Derived.ProofKit
namespace Go.Proofs.YtahnhhkbdgaidaaGreatDoor
open Go.RowKit
set_option maxRecDepth 100000
theorem fact1 : (Rows.fnJSONFlatRow.wf (OpenSpec.ofChange Rows.fnJSONFlatSpec)) = true := by kernel_rfl
theorem fact2 : (laidOutB Tryz.prog) = true := by kernel_rfl
theorem fact3 : (mapsRowed Tryz.prog) = true := by kernel_rfl
theorem fact4 : (Tryz.f4.params.all (Tryz.prog.readableRec ·)) = true := by kernel_rfl
theorem fact5 : (namedTie Tryz.prog Rows.fnJSONFlatRow.named Rows.fnJSONFlatSpec.vars) = true := by kernel_rfl
theorem fact6 : ((Rows.fnJSONFlatRow.stops == [])) = true := by kernel_rfl
theorem fact7 : ((Tryz.prog.stops == [])) = true := by kernel_rfl
theorem fact8 : ((Rows.fnJSONFlatRow.knobs == [])) = true := by kernel_rfl
theorem fact9 : ((Tryz.prog.stopKnobs == [])) = true := by kernel_rfl
theorem fact10 : ((Rows.fnJSONFlatRow.inPlace == Tryz.prog.inPlace 4)) = true := by kernel_rfl
theorem fact11 : ((Rows.fnJSONFlatRow.unfollowed == Tryz.prog.unfollowed 4)) = true := by kernel_rfl
theorem fact12 : ((Rows.fnJSONFlatRow.recurses == Tryz.prog.recurses 4)) = true := by kernel_rfl
theorem fact13 : ((Rows.fnJSONFlatRow.named == Tryz.prog.varsNamed 4)) = true := by kernel_rfl
theorem fact14 : ((Rows.fnJSONFlatRow.maps == (Tryz.f4.params.toList ++ Rows.fnJSONFlatSpec.plain.varTypes Tryz.prog).any (Tryz.prog.mapsRec ·))) = true := by kernel_rfl
theorem fact15 : ((Rows.fnJSONFlatRow.ifaces == (Tryz.f4.params.toList ++ Rows.fnJSONFlatSpec.plain.varTypes Tryz.prog).any (Tryz.prog.ifacesRec ·))) = true := by kernel_rfl
theorem fact16 : ((Rows.fnJSONFlatRow.mapsOut == Tryz.prog.mapsAmong Tryz.f4.resultTypes.toList)) = true := by kernel_rfl
theorem fact17 : ((Rows.fnJSONFlatRow.loops == (Tryz.f4.params.toList ++ Rows.fnJSONFlatSpec.plain.varTypes Tryz.prog).any (Tryz.prog.loopsFrom ·))) = true := by kernel_rfl
theorem fact18 : ((Rows.fnJSONFlatRow.wideKeys == (Tryz.f4.params.toList ++ Rows.fnJSONFlatSpec.plain.varTypes Tryz.prog ++ Tryz.f4.resultTypes.toList).any (Tryz.prog.wideKeysFrom ·))) = true := by kernel_rfl
theorem fact19 : (Rows.fnJSONFlatSpec.vars.all (Tryz.prog.varReadable ·)) = true := by kernel_rfl
theorem fact20 : (Tryz.f4.resultTypes.all (fun t => Tryz.prog.readableRec t && decide (t < Tryz.prog.types.size))) = true := by kernel_rfl
theorem fact21 : ((Rows.fnJSONFlatRow.ifacesOut == Tryz.f4.resultTypes.toList.any (Tryz.prog.ifacesRec ·))) = true := by kernel_rfl
theorem fact22 : ((Rows.fnJSONFlatRow.loopsOut == Tryz.f4.resultTypes.toList.any (Tryz.prog.loopsFrom ·))) = true := by kernel_rfl
theorem fact23 : ((Rows.fnJSONFlatRow.plainKeys == Tryz.prog.plainKeys)) = true := by kernel_rfl
theorem fact24 : (Rows.fnJSONFlatRow.shortTexts.isNone) = true := by kernel_rfl
theorem fact25 : (Tryz.prog.stopsHeard) = true := by kernel_rfl
theorem fact26 : (Tryz.prog.mayEnter) = true := by kernel_rfl
theorem fact27 : ((Rows.fnJSONFlatRow.lifted == Tryz.prog.liftsFinal)) = true := by kernel_rfl
theorem fact28 : ((Tryz.prog.make == some Rows.fnJSONFlatRow.make)) = true := by kernel_rfl
theorem fact29 : ((Rows.fnJSONFlatRow.kinds == (if Rows.fnJSONFlatRow.domain.isEmpty then [] else Tryz.f4.params.toList.map fun t => match Tryz.prog.underlying t with | some (.int k) => some k | _ => none))) = true := by kernel_rfl
theorem fact30 : ((Rows.fnJSONFlatRow.pinned == Rows.fnJSONFlatRow.pinnedBy)) = true := by kernel_rfl
theorem fact31 : ((Rows.fnJSONFlatRow.veiled == (Tryz.f4.params.toList ++ Rows.fnJSONFlatSpec.plain.varTypes Tryz.prog ++ Tryz.f4.resultTypes.toList).any (Tryz.prog.veiledRec ·))) = true := by kernel_rfl
theorem fact32 : (Rows.fnJSONFlatRow.veiledFits Tryz.prog Tryz.f4.params.toList (Tryz.f4.params.toList ++ Rows.fnJSONFlatSpec.plain.varTypes Tryz.prog ++ Tryz.f4.resultTypes.toList)) = true := by kernel_rfl
theorem and_t {a b : Bool} (ha : a = true) (hb : b = true) : (a && b) = true := by rw [ha, hb]; rfl
theorem facts : joinedFacts Tryz.prog 4 Tryz.f4 Rows.fnJSONFlatSpec Rows.fnJSONFlatRow = true := (and_t (and_t (and_t (and_t (and_t (and_t (and_t (and_t (and_t (and_t (and_t (and_t (and_t (and_t (and_t (and_t (and_t (and_t (and_t (and_t (and_t (and_t (and_t (and_t (and_t (and_t (and_t (and_t (and_t (and_t (and_t fact1 fact2) fact3) fact4) fact5) fact6) fact7) fact8) fact9) fact10) fact11) fact12) fact13) fact14) fact15) fact16) fact17) fact18) fact19) fact20) fact21) fact22) fact23) fact24) fact25) fact26) fact27) fact28) fact29) fact30) fact31) fact32)
theorem named4 : Tryz.prog.funcNamed "pub-alidade/laws.FnJSONFlat" = some 4 := by kernel_rfl
theorem inst4 : Func.isInstance Tryz.prog Tryz.f4 Rows.fnJSONFlatRow.origin Rows.fnJSONFlatRow.targs := of_decide_eq_true (by kernel_rfl)
theorem wrap4 : Func.isWrapper Tryz.prog Tryz.f4 Rows.fnJSONFlatRow.wrapper Rows.fnJSONFlatRow.mainSum := by
  unfold Func.isWrapper; rw [if_neg (of_decide_eq_false (by kernel_rfl))]; exact ⟨rfl, rfl⟩
end Go.Proofs.YtahnhhkbdgaidaaGreatDoor
