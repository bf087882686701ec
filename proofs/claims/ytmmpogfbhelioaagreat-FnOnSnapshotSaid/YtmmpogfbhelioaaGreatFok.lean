/-
  PARTS: R3.
-/
import Derived.Test.YtmmpogfbhelioaaGreatRows
import Derived.JoinedOf
/-
  What the rows ask of the whole program: closed facts, each by the kernel's run.
  Conditions: none.
-/
namespace Go.Proofs.YtmmpogfbhelioaaGreat
set_option maxRecDepth 10000
set_option linter.unusedVariables false
set_option linter.unusedSimpArgs false
theorem an {a b : Bool} (h : a = true) (g : b = true) : (a && b) = true := by rw [h, g]; rfl
set_option maxRecDepth 100000 in
theorem jp1 : (laidOutB Tryz.prog) = true := by kernel_rfl
set_option maxRecDepth 100000 in
theorem jp2 : (mapsRowed Tryz.prog) = true := by kernel_rfl
set_option maxRecDepth 100000 in
theorem jp6 : ((Tryz.prog.stops == [])) = true := by kernel_rfl
set_option maxRecDepth 100000 in
theorem jp8 : ((Tryz.prog.stopKnobs == [])) = true := by kernel_rfl
set_option maxRecDepth 100000 in
theorem jp24 : (Tryz.prog.stopsHeard) = true := by kernel_rfl
set_option maxRecDepth 100000 in
theorem jp25 : (Tryz.prog.mayEnter) = true := by kernel_rfl

end Go.Proofs.YtmmpogfbhelioaaGreat
