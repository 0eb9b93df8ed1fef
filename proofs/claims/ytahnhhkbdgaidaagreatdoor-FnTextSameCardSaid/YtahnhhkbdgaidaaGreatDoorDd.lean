/-
  The closed facts of the row, each by itself.
-/
import Derived.Test.YtahnhhkbdgaidaaGreatDoorRows
import Derived.ProofKit
namespace Go.Proofs.YtahnhhkbdgaidaaGreatDoor
open Go.RowKit
set_option maxRecDepth 100000
theorem fact1 : (Rows.fnTextSameRow.wf (OpenSpec.ofChange Rows.fnTextSameSpec)) = true := by kernel_rfl
theorem fact2 : (laidOutB Tryz.prog) = true := by kernel_rfl
theorem fact3 : (mapsRowed Tryz.prog) = true := by kernel_rfl
theorem fact4 : (Tryz.f3.params.all (Tryz.prog.readableRec ·)) = true := by kernel_rfl
theorem fact5 : (namedTie Tryz.prog Rows.fnTextSameRow.named Rows.fnTextSameSpec.vars) = true := by kernel_rfl
theorem fact6 : ((Rows.fnTextSameRow.stops == [])) = true := by kernel_rfl
theorem fact7 : ((Tryz.prog.stops == [])) = true := by kernel_rfl
theorem fact8 : ((Rows.fnTextSameRow.knobs == [])) = true := by kernel_rfl
theorem fact9 : ((Tryz.prog.stopKnobs == [])) = true := by kernel_rfl
theorem fact10 : ((Rows.fnTextSameRow.inPlace == Tryz.prog.inPlace 3)) = true := by kernel_rfl
theorem fact11 : ((Rows.fnTextSameRow.unfollowed == Tryz.prog.unfollowed 3)) = true := by kernel_rfl
theorem fact12 : ((Rows.fnTextSameRow.recurses == Tryz.prog.recurses 3)) = true := by kernel_rfl
theorem fact13 : ((Rows.fnTextSameRow.named == Tryz.prog.varsNamed 3)) = true := by kernel_rfl
theorem fact14 : ((Rows.fnTextSameRow.maps == (Tryz.f3.params.toList ++ Rows.fnTextSameSpec.plain.varTypes Tryz.prog).any (Tryz.prog.mapsRec ·))) = true := by kernel_rfl
theorem fact15 : ((Rows.fnTextSameRow.ifaces == (Tryz.f3.params.toList ++ Rows.fnTextSameSpec.plain.varTypes Tryz.prog).any (Tryz.prog.ifacesRec ·))) = true := by kernel_rfl
theorem fact16 : ((Rows.fnTextSameRow.mapsOut == Tryz.prog.mapsAmong Tryz.f3.resultTypes.toList)) = true := by kernel_rfl
theorem fact17 : ((Rows.fnTextSameRow.loops == (Tryz.f3.params.toList ++ Rows.fnTextSameSpec.plain.varTypes Tryz.prog).any (Tryz.prog.loopsFrom ·))) = true := by kernel_rfl
theorem fact18 : ((Rows.fnTextSameRow.wideKeys == (Tryz.f3.params.toList ++ Rows.fnTextSameSpec.plain.varTypes Tryz.prog ++ Tryz.f3.resultTypes.toList).any (Tryz.prog.wideKeysFrom ·))) = true := by kernel_rfl
theorem fact19 : (Rows.fnTextSameSpec.vars.all (Tryz.prog.varReadable ·)) = true := by kernel_rfl
theorem fact20 : (Tryz.f3.resultTypes.all (fun t => Tryz.prog.readableRec t && decide (t < Tryz.prog.types.size))) = true := by kernel_rfl
theorem fact21 : ((Rows.fnTextSameRow.ifacesOut == Tryz.f3.resultTypes.toList.any (Tryz.prog.ifacesRec ·))) = true := by kernel_rfl
theorem fact22 : ((Rows.fnTextSameRow.loopsOut == Tryz.f3.resultTypes.toList.any (Tryz.prog.loopsFrom ·))) = true := by kernel_rfl
theorem fact23 : ((Rows.fnTextSameRow.plainKeys == Tryz.prog.plainKeys)) = true := by kernel_rfl
theorem fact24 : (Rows.fnTextSameRow.shortTexts.isNone) = true := by kernel_rfl
theorem fact25 : (Tryz.prog.stopsHeard) = true := by kernel_rfl
theorem fact26 : (Tryz.prog.mayEnter) = true := by kernel_rfl
theorem fact27 : ((Rows.fnTextSameRow.lifted == Tryz.prog.liftsFinal)) = true := by kernel_rfl
theorem fact28 : ((Tryz.prog.make == some Rows.fnTextSameRow.make)) = true := by kernel_rfl
theorem fact29 : ((Rows.fnTextSameRow.kinds == (if Rows.fnTextSameRow.domain.isEmpty then [] else Tryz.f3.params.toList.map fun t => match Tryz.prog.underlying t with | some (.int k) => some k | _ => none))) = true := by kernel_rfl
theorem fact30 : ((Rows.fnTextSameRow.pinned == Rows.fnTextSameRow.pinnedBy)) = true := by kernel_rfl
theorem fact31 : ((Rows.fnTextSameRow.veiled == (Tryz.f3.params.toList ++ Rows.fnTextSameSpec.plain.varTypes Tryz.prog ++ Tryz.f3.resultTypes.toList).any (Tryz.prog.veiledRec ·))) = true := by kernel_rfl
theorem fact32 : (Rows.fnTextSameRow.veiledFits Tryz.prog Tryz.f3.params.toList (Tryz.f3.params.toList ++ Rows.fnTextSameSpec.plain.varTypes Tryz.prog ++ Tryz.f3.resultTypes.toList)) = true := by kernel_rfl
theorem and_t {a b : Bool} (ha : a = true) (hb : b = true) : (a && b) = true := by rw [ha, hb]; rfl
theorem facts : joinedFacts Tryz.prog 3 Tryz.f3 Rows.fnTextSameSpec Rows.fnTextSameRow = true := (and_t (and_t (and_t (and_t (and_t (and_t (and_t (and_t (and_t (and_t (and_t (and_t (and_t (and_t (and_t (and_t (and_t (and_t (and_t (and_t (and_t (and_t (and_t (and_t (and_t (and_t (and_t (and_t (and_t (and_t (and_t fact1 fact2) fact3) fact4) fact5) fact6) fact7) fact8) fact9) fact10) fact11) fact12) fact13) fact14) fact15) fact16) fact17) fact18) fact19) fact20) fact21) fact22) fact23) fact24) fact25) fact26) fact27) fact28) fact29) fact30) fact31) fact32)
theorem named3 : Tryz.prog.funcNamed "pub-alidade/laws.FnTextSame" = some 3 := by kernel_rfl
theorem inst3 : Func.isInstance Tryz.prog Tryz.f3 Rows.fnTextSameRow.origin Rows.fnTextSameRow.targs := of_decide_eq_true (by kernel_rfl)
theorem wrap3 : Func.isWrapper Tryz.prog Tryz.f3 Rows.fnTextSameRow.wrapper Rows.fnTextSameRow.mainSum := by
  unfold Func.isWrapper; rw [if_neg (of_decide_eq_false (by kernel_rfl))]; exact ⟨rfl, rfl⟩
end Go.Proofs.YtahnhhkbdgaidaaGreatDoor
