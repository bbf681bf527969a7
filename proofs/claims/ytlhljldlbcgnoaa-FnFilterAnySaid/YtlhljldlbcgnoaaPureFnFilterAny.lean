/- Several filters match what one of them does, in any order: the law's walk comes to true for every input. No condition. -/
import Derived.Test.YtlhljldlbcgnoaaEFilAny
set_option linter.unusedVariables false
namespace Go.Proofs.Ytlhljldlbcgnoaa.Pure
open Go.Proofs.Ytlhljldlbcgnoaa.P
theorem FnFilterAny (x0 : List (List ByteArray)) (x1 : List ByteArray) (g0 : (x0.length ≤ 9223372036854775807 ∧ ∀ y0 ∈ x0, (y0.length ≤ 9223372036854775807 ∧ ∀ y1 ∈ y0, y1.size ≤ 9223372036854775807))) (g1 : x1.length ≤ 9223372036854775807 ∧ ∀ y0 ∈ x1, y0.size ≤ 9223372036854775807) : laws_FnFilterAny.f x0 x1 = some true := rfl
end Go.Proofs.Ytlhljldlbcgnoaa.Pure
