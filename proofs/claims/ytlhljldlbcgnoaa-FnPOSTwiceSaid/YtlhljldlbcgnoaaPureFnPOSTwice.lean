/- Names that come again have the numbers that they have: the law's walk comes to true for every input. No condition. -/
import Derived.Test.YtlhljldlbcgnoaaEPosTwice
set_option linter.unusedVariables false
namespace Go.Proofs.Ytlhljldlbcgnoaa.Pure
open Go.Proofs.Ytlhljldlbcgnoaa.P
theorem FnPOSTwice (x0 : List (List ByteArray)) (g0 : (x0.length ≤ 9223372036854775807 ∧ ∀ y0 ∈ x0, (y0.length ≤ 9223372036854775807 ∧ ∀ y1 ∈ y0, y1.size ≤ 9223372036854775807))) : laws_FnPOSTwice.f x0 = some true := rfl
end Go.Proofs.Ytlhljldlbcgnoaa.Pure
