/-
  The closed facts of the row, each by itself.
-/
import Derived.Test.YtahnhhkbdgaidaaGreatDoorRows
import Derived.ProofKit
namespace Go.Proofs.YtahnhhkbdgaidaaGreatDoor
open Go.RowKit
set_option maxRecDepth 100000
theorem fact1 : (Rows.fnBytesBackRow.wf (OpenSpec.ofChange Rows.fnBytesBackSpec)) = true := by kernel_rfl
theorem fact2 : (laidOutB Tryz.prog) = true := by kernel_rfl
theorem fact3 : (mapsRowed Tryz.prog) = true := by kernel_rfl
theorem fact4 : (Tryz.f6.params.all (Tryz.prog.readableRec ·)) = true := by kernel_rfl
theorem fact5 : (namedTie Tryz.prog Rows.fnBytesBackRow.named Rows.fnBytesBackSpec.vars) = true := by kernel_rfl
theorem fact6 : ((Rows.fnBytesBackRow.stops == [])) = true := by kernel_rfl
theorem fact7 : ((Tryz.prog.stops == [])) = true := by kernel_rfl
theorem fact8 : ((Rows.fnBytesBackRow.knobs == [])) = true := by kernel_rfl
theorem fact9 : ((Tryz.prog.stopKnobs == [])) = true := by kernel_rfl
theorem fact10 : ((Rows.fnBytesBackRow.inPlace == Tryz.prog.inPlace 6)) = true := by kernel_rfl
theorem fact11 : ((Rows.fnBytesBackRow.unfollowed == Tryz.prog.unfollowed 6)) = true := by kernel_rfl
theorem fact12 : ((Rows.fnBytesBackRow.recurses == Tryz.prog.recurses 6)) = true := by kernel_rfl
theorem fact13 : ((Rows.fnBytesBackRow.named == Tryz.prog.varsNamed 6)) = true := by kernel_rfl
theorem fact14 : ((Rows.fnBytesBackRow.maps == (Tryz.f6.params.toList ++ Rows.fnBytesBackSpec.plain.varTypes Tryz.prog).any (Tryz.prog.mapsRec ·))) = true := by kernel_rfl
theorem fact15 : ((Rows.fnBytesBackRow.ifaces == (Tryz.f6.params.toList ++ Rows.fnBytesBackSpec.plain.varTypes Tryz.prog).any (Tryz.prog.ifacesRec ·))) = true := by kernel_rfl
theorem fact16 : ((Rows.fnBytesBackRow.mapsOut == Tryz.prog.mapsAmong Tryz.f6.resultTypes.toList)) = true := by kernel_rfl
theorem fact17 : ((Rows.fnBytesBackRow.loops == (Tryz.f6.params.toList ++ Rows.fnBytesBackSpec.plain.varTypes Tryz.prog).any (Tryz.prog.loopsFrom ·))) = true := by kernel_rfl
theorem fact18 : ((Rows.fnBytesBackRow.wideKeys == (Tryz.f6.params.toList ++ Rows.fnBytesBackSpec.plain.varTypes Tryz.prog ++ Tryz.f6.resultTypes.toList).any (Tryz.prog.wideKeysFrom ·))) = true := by kernel_rfl
theorem fact19 : (Rows.fnBytesBackSpec.vars.all (Tryz.prog.varReadable ·)) = true := by kernel_rfl
theorem fact20 : (Tryz.f6.resultTypes.all (fun t => Tryz.prog.readableRec t && decide (t < Tryz.prog.types.size))) = true := by kernel_rfl
theorem fact21 : ((Rows.fnBytesBackRow.ifacesOut == Tryz.f6.resultTypes.toList.any (Tryz.prog.ifacesRec ·))) = true := by kernel_rfl
theorem fact22 : ((Rows.fnBytesBackRow.loopsOut == Tryz.f6.resultTypes.toList.any (Tryz.prog.loopsFrom ·))) = true := by kernel_rfl
theorem fact23 : ((Rows.fnBytesBackRow.plainKeys == Tryz.prog.plainKeys)) = true := by kernel_rfl
theorem fact24 : (Rows.fnBytesBackRow.shortTexts.isNone) = true := by kernel_rfl
theorem fact25 : (Tryz.prog.stopsHeard) = true := by kernel_rfl
theorem fact26 : (Tryz.prog.mayEnter) = true := by kernel_rfl
theorem fact27 : ((Rows.fnBytesBackRow.lifted == Tryz.prog.liftsFinal)) = true := by kernel_rfl
theorem fact28 : ((Tryz.prog.make == some Rows.fnBytesBackRow.make)) = true := by kernel_rfl
theorem fact29 : ((Rows.fnBytesBackRow.kinds == (if Rows.fnBytesBackRow.domain.isEmpty then [] else Tryz.f6.params.toList.map fun t => match Tryz.prog.underlying t with | some (.int k) => some k | _ => none))) = true := by kernel_rfl
theorem fact30 : ((Rows.fnBytesBackRow.pinned == Rows.fnBytesBackRow.pinnedBy)) = true := by kernel_rfl
theorem fact31 : ((Rows.fnBytesBackRow.veiled == (Tryz.f6.params.toList ++ Rows.fnBytesBackSpec.plain.varTypes Tryz.prog ++ Tryz.f6.resultTypes.toList).any (Tryz.prog.veiledRec ·))) = true := by kernel_rfl
theorem fact32 : (Rows.fnBytesBackRow.veiledFits Tryz.prog Tryz.f6.params.toList (Tryz.f6.params.toList ++ Rows.fnBytesBackSpec.plain.varTypes Tryz.prog ++ Tryz.f6.resultTypes.toList)) = true := by kernel_rfl
theorem and_t {a b : Bool} (ha : a = true) (hb : b = true) : (a && b) = true := by rw [ha, hb]; rfl
theorem facts : joinedFacts Tryz.prog 6 Tryz.f6 Rows.fnBytesBackSpec Rows.fnBytesBackRow = true := (and_t (and_t (and_t (and_t (and_t (and_t (and_t (and_t (and_t (and_t (and_t (and_t (and_t (and_t (and_t (and_t (and_t (and_t (and_t (and_t (and_t (and_t (and_t (and_t (and_t (and_t (and_t (and_t (and_t (and_t (and_t fact1 fact2) fact3) fact4) fact5) fact6) fact7) fact8) fact9) fact10) fact11) fact12) fact13) fact14) fact15) fact16) fact17) fact18) fact19) fact20) fact21) fact22) fact23) fact24) fact25) fact26) fact27) fact28) fact29) fact30) fact31) fact32)
theorem named6 : Tryz.prog.funcNamed "pub-alidade/laws.FnBytesBack" = some 6 := by kernel_rfl
theorem inst6 : Func.isInstance Tryz.prog Tryz.f6 Rows.fnBytesBackRow.origin Rows.fnBytesBackRow.targs := of_decide_eq_true (by kernel_rfl)
theorem wrap6 : Func.isWrapper Tryz.prog Tryz.f6 Rows.fnBytesBackRow.wrapper Rows.fnBytesBackRow.mainSum := by
  unfold Func.isWrapper; rw [if_neg (of_decide_eq_false (by kernel_rfl))]; exact ⟨rfl, rfl⟩
end Go.Proofs.YtahnhhkbdgaidaaGreatDoor
