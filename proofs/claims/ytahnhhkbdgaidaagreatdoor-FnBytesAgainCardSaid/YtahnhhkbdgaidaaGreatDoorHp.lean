/-
  The closed facts of the row, each by itself.
-/
import Derived.Test.YtahnhhkbdgaidaaGreatDoorRows
import Derived.ProofKit
namespace Go.Proofs.YtahnhhkbdgaidaaGreatDoor
open Go.RowKit
set_option maxRecDepth 100000
theorem fact1 : (Rows.fnBytesAgainRow.wf (OpenSpec.ofChange Rows.fnBytesAgainSpec)) = true := by kernel_rfl
theorem fact2 : (laidOutB Tryz.prog) = true := by kernel_rfl
theorem fact3 : (mapsRowed Tryz.prog) = true := by kernel_rfl
theorem fact4 : (Tryz.f5.params.all (Tryz.prog.readableRec ·)) = true := by kernel_rfl
theorem fact5 : (namedTie Tryz.prog Rows.fnBytesAgainRow.named Rows.fnBytesAgainSpec.vars) = true := by kernel_rfl
theorem fact6 : ((Rows.fnBytesAgainRow.stops == [])) = true := by kernel_rfl
theorem fact7 : ((Tryz.prog.stops == [])) = true := by kernel_rfl
theorem fact8 : ((Rows.fnBytesAgainRow.knobs == [])) = true := by kernel_rfl
theorem fact9 : ((Tryz.prog.stopKnobs == [])) = true := by kernel_rfl
theorem fact10 : ((Rows.fnBytesAgainRow.inPlace == Tryz.prog.inPlace 5)) = true := by kernel_rfl
theorem fact11 : ((Rows.fnBytesAgainRow.unfollowed == Tryz.prog.unfollowed 5)) = true := by kernel_rfl
theorem fact12 : ((Rows.fnBytesAgainRow.recurses == Tryz.prog.recurses 5)) = true := by kernel_rfl
theorem fact13 : ((Rows.fnBytesAgainRow.named == Tryz.prog.varsNamed 5)) = true := by kernel_rfl
theorem fact14 : ((Rows.fnBytesAgainRow.maps == (Tryz.f5.params.toList ++ Rows.fnBytesAgainSpec.plain.varTypes Tryz.prog).any (Tryz.prog.mapsRec ·))) = true := by kernel_rfl
theorem fact15 : ((Rows.fnBytesAgainRow.ifaces == (Tryz.f5.params.toList ++ Rows.fnBytesAgainSpec.plain.varTypes Tryz.prog).any (Tryz.prog.ifacesRec ·))) = true := by kernel_rfl
theorem fact16 : ((Rows.fnBytesAgainRow.mapsOut == Tryz.prog.mapsAmong Tryz.f5.resultTypes.toList)) = true := by kernel_rfl
theorem fact17 : ((Rows.fnBytesAgainRow.loops == (Tryz.f5.params.toList ++ Rows.fnBytesAgainSpec.plain.varTypes Tryz.prog).any (Tryz.prog.loopsFrom ·))) = true := by kernel_rfl
theorem fact18 : ((Rows.fnBytesAgainRow.wideKeys == (Tryz.f5.params.toList ++ Rows.fnBytesAgainSpec.plain.varTypes Tryz.prog ++ Tryz.f5.resultTypes.toList).any (Tryz.prog.wideKeysFrom ·))) = true := by kernel_rfl
theorem fact19 : (Rows.fnBytesAgainSpec.vars.all (Tryz.prog.varReadable ·)) = true := by kernel_rfl
theorem fact20 : (Tryz.f5.resultTypes.all (fun t => Tryz.prog.readableRec t && decide (t < Tryz.prog.types.size))) = true := by kernel_rfl
theorem fact21 : ((Rows.fnBytesAgainRow.ifacesOut == Tryz.f5.resultTypes.toList.any (Tryz.prog.ifacesRec ·))) = true := by kernel_rfl
theorem fact22 : ((Rows.fnBytesAgainRow.loopsOut == Tryz.f5.resultTypes.toList.any (Tryz.prog.loopsFrom ·))) = true := by kernel_rfl
theorem fact23 : ((Rows.fnBytesAgainRow.plainKeys == Tryz.prog.plainKeys)) = true := by kernel_rfl
theorem fact24 : (Rows.fnBytesAgainRow.shortTexts.isNone) = true := by kernel_rfl
theorem fact25 : (Tryz.prog.stopsHeard) = true := by kernel_rfl
theorem fact26 : (Tryz.prog.mayEnter) = true := by kernel_rfl
theorem fact27 : ((Rows.fnBytesAgainRow.lifted == Tryz.prog.liftsFinal)) = true := by kernel_rfl
theorem fact28 : ((Tryz.prog.make == some Rows.fnBytesAgainRow.make)) = true := by kernel_rfl
theorem fact29 : ((Rows.fnBytesAgainRow.kinds == (if Rows.fnBytesAgainRow.domain.isEmpty then [] else Tryz.f5.params.toList.map fun t => match Tryz.prog.underlying t with | some (.int k) => some k | _ => none))) = true := by kernel_rfl
theorem fact30 : ((Rows.fnBytesAgainRow.pinned == Rows.fnBytesAgainRow.pinnedBy)) = true := by kernel_rfl
theorem fact31 : ((Rows.fnBytesAgainRow.veiled == (Tryz.f5.params.toList ++ Rows.fnBytesAgainSpec.plain.varTypes Tryz.prog ++ Tryz.f5.resultTypes.toList).any (Tryz.prog.veiledRec ·))) = true := by kernel_rfl
theorem fact32 : (Rows.fnBytesAgainRow.veiledFits Tryz.prog Tryz.f5.params.toList (Tryz.f5.params.toList ++ Rows.fnBytesAgainSpec.plain.varTypes Tryz.prog ++ Tryz.f5.resultTypes.toList)) = true := by kernel_rfl
theorem and_t {a b : Bool} (ha : a = true) (hb : b = true) : (a && b) = true := by rw [ha, hb]; rfl
theorem facts : joinedFacts Tryz.prog 5 Tryz.f5 Rows.fnBytesAgainSpec Rows.fnBytesAgainRow = true := (and_t (and_t (and_t (and_t (and_t (and_t (and_t (and_t (and_t (and_t (and_t (and_t (and_t (and_t (and_t (and_t (and_t (and_t (and_t (and_t (and_t (and_t (and_t (and_t (and_t (and_t (and_t (and_t (and_t (and_t (and_t fact1 fact2) fact3) fact4) fact5) fact6) fact7) fact8) fact9) fact10) fact11) fact12) fact13) fact14) fact15) fact16) fact17) fact18) fact19) fact20) fact21) fact22) fact23) fact24) fact25) fact26) fact27) fact28) fact29) fact30) fact31) fact32)
theorem named5 : Tryz.prog.funcNamed "pub-alidade/laws.FnBytesAgain" = some 5 := by kernel_rfl
theorem inst5 : Func.isInstance Tryz.prog Tryz.f5 Rows.fnBytesAgainRow.origin Rows.fnBytesAgainRow.targs := of_decide_eq_true (by kernel_rfl)
theorem wrap5 : Func.isWrapper Tryz.prog Tryz.f5 Rows.fnBytesAgainRow.wrapper Rows.fnBytesAgainRow.mainSum := by
  unfold Func.isWrapper; rw [if_neg (of_decide_eq_false (by kernel_rfl))]; exact ⟨rfl, rfl⟩
end Go.Proofs.YtahnhhkbdgaidaaGreatDoor
