/-
  No function of the program starts a goroutine.
-/
import Derived.Test.YtahnhhkbdgaidaaGreatDoorRows
import Derived.ProofKit
import Derived.SevenTiedAt
namespace Go.Proofs.YtahnhhkbdgaidaaGreatDoor
open Go.RowKit
set_option maxRecDepth 100000
theorem no_goes : Tryz.prog.funcs.any Func.goes = false := by kernel_rfl
theorem goes_none (P : Program) (h : P.funcs.any Func.goes = false) (f : FuncId) : P.goes f = false := by
  unfold Program.goes
  rw [h, Bool.and_false, Bool.or_false]
  have h2 : ∀ g : Nat, (P.funcs[g]?).any Func.goes = false := fun g => by
    cases hg : P.funcs[g]? with
    | none => rfl
    | some fn =>
      rw [Array.any_eq_false] at h
      obtain ⟨hlt, rfl⟩ := Array.getElem?_eq_some_iff.1 hg
      simpa using h g hlt
  rw [List.any_eq_false]
  intro g _
  rw [h2]; simp
theorem goes_by (c : OpenClaim) (P : Program) (h : P.funcs.any Func.goes = false) (hs : c.start = .entering) : false = c.goesBy P := by
  have hf := goes_none P h
  unfold OpenClaim.goesBy Program.goesAt Program.goesFrom
  rw [hs]
  cases P.funcNamed c.func with
  | none => rfl
  | some f => simp [hf]
theorem goes_free : false = Rows.fnBytesBackRow.goesBy Tryz.pinned.checked.prog := goes_by _ _ no_goes rfl
end Go.Proofs.YtahnhhkbdgaidaaGreatDoor
