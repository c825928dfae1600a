/- Closed facts that all rows of this seat share. -/
import Derived.Test.YtnnembkganlbpaaRows
import Derived.ProofKit
namespace Go.Proofs.Ytnnembkganlbpaa
open Go
theorem and_mk {a b : Bool} (ha : a = true) (hb : b = true) : (a && b) = true := by rw [ha, hb]; rfl
theorem k2 : (laidOutB Try.prog) = true := by kernel_rfl
theorem k3 : (mapsRowed Try.prog) = true := by kernel_rfl
theorem k7 : ((Try.prog.stops == [])) = true := by kernel_rfl
theorem k9 : ((Try.prog.stopKnobs == [])) = true := by kernel_rfl
theorem k22 : ((Rows.fnRisesRow.plainKeys == Try.prog.plainKeys)) = true := by kernel_rfl
theorem k23b : (Try.prog.stopsHeard) = true := by kernel_rfl
theorem k24 : (Try.prog.mayEnter) = true := by kernel_rfl
theorem k24b : ((Rows.fnRisesRow.lifted == Try.prog.liftsFinal)) = true := by kernel_rfl
theorem k24c : ((Try.prog.make == some Rows.fnRisesRow.make)) = true := by kernel_rfl
end Go.Proofs.Ytnnembkganlbpaa
