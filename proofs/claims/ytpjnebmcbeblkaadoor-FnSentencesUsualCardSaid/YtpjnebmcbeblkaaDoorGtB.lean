/- Strings, one greater than another: the same as the other less. -/
import Derived.Test.YtpjnebmcbeblkaaDoorProg
import Derived.Sort.Walk0
import Derived.Laws.Cover1
set_option linter.unusedVariables false
namespace Go.Proofs.YtpjnebmcbeblkaaDoor.Gn
theorem gtr_bytes (a b : List UInt8) : (!(Op.bytesLess a b || a == b)) = Op.bytesLess b a := by
  rw [Go.Proofs.bytesLess_eq, Go.Proofs.bytesLess_eq]
  rw [Bool.eq_iff_iff]
  simp only [Bool.not_eq_true', Bool.or_eq_false_iff, decide_eq_false_iff_not, beq_eq_false_iff_ne, decide_eq_true_eq]
  constructor
  · rintro ⟨h1, h2⟩
    have h3 : b ≤ a := h1
    rcases List.le_iff_lt_or_eq.1 h3 with h | h
    · exact h
    · exact absurd h.symm h2
  · intro h
    exact ⟨fun g => List.lt_irrefl _ (List.lt_trans h g), fun g => by subst g; exact List.lt_irrefl _ h⟩
theorem leq_bytes (a b : List UInt8) : (Op.bytesLess a b || a == b) = !(Op.bytesLess b a) := by rw [← gtr_bytes a b, Bool.not_not]
end Go.Proofs.YtpjnebmcbeblkaaDoor.Gn
