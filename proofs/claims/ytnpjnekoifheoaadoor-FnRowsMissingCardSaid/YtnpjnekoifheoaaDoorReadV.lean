/- Rows of rows of values, from what a start reads. -/
import Derived.Test.YtnpjnekoifheoaaDoorRead
import Derived.Test.YtnpjnekoifheoaaDoorAll9
namespace Go.Proofs.YtnpjnekoifheoaaDoor
open Go Go.RowKit Go.Proofs.YtnpjnekoifheoaaDoorW.PrintWords Go.ChangeShapes Go.WideShapes
set_option linter.unusedVariables false
set_option maxRecDepth 100000

section
variable {H : Type} {enc : TypeId × Value → H} {w : World} {base : Nat} {spare : Nat → Bool} {held : Bool}
set_option maxRecDepth 100000 in
theorem read_valss {fuel : Nat} {cs : List Value} {x : DataW H × List MemPlace} (h : DataW.trod enc Tryd.prog w base spare held fuel 55 cs = some x) : ∃ A cap xs, cs = [.slice A xs.length cap] ∧ xs.length ≤ cap ∧ kVV.C w A xs.length xs ∧ ∀ a ∈ xs, True := by
  refine row_read kVV (fun _ => True) Tryd.underlying55 rfl (fun n _ c y hy => ?_) h
  obtain ⟨A, cap, xs, e, hle, hC, _⟩ := row_read kV SVOk Tryd.underlying35 rfl (fun n' _ c y hy => read_V n' c y hy) hy
  exact ⟨xs, ⟨A, cap, e, hle, hC⟩, trivial⟩
end
end Go.Proofs.YtnpjnekoifheoaaDoor
