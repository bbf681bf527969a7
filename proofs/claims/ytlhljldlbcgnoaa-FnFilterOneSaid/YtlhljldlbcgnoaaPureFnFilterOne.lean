/- A filter alone matches features that begin with its own: the law's walk comes to true for every input. No condition. -/
import Derived.Test.YtlhljldlbcgnoaaEFilOne
set_option linter.unusedVariables false
namespace Go.Proofs.Ytlhljldlbcgnoaa.Pure
open Go.Proofs.Ytlhljldlbcgnoaa.P
theorem FnFilterOne (x0 x1 : List ByteArray) (g0 : x0.length ≤ 9223372036854775807 ∧ ∀ y0 ∈ x0, y0.size ≤ 9223372036854775807) (g1 : x1.length ≤ 9223372036854775807 ∧ ∀ y0 ∈ x1, y0.size ≤ 9223372036854775807) : laws_FnFilterOne.f x0 x1 = some true := rfl
end Go.Proofs.Ytlhljldlbcgnoaa.Pure
