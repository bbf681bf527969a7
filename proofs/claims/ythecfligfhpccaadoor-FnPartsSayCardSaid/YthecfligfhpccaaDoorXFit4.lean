/- Plain facts: the looks at sizes end. -/
import Derived.Test.YthecfligfhpccaaDoorXEv
import Derived.Test.YthecfligfhpccaaDoorP10
set_option linter.unusedVariables false
namespace Go.Proofs.YthecfligfhpccaaDoor.X
open Go.RowKit Go.Proofs.YthecfligfhpccaaDoorW.PrintWords Go.Proofs.YthecfligfhpccaaDoorW.PrintLast Go.Proofs.YthecfligfhpccaaDoorW.PrintMore Go.Proofs.YthecfligfhpccaaDoor.P

def Fit4 (xs : List ByteArray) : Prop := xs.length ≤ 2147483647 ∧ ∀ s ∈ xs, s.size ≤ 2147483647
theorem fit4_l0 (xs : List ByteArray) (hn : xs.length ≤ 2147483647) (d : Nat) : ∀ i : Nat, i + d = xs.length → ∃ b, Ev (fun k => laws_zzFits4.l0 k xs (xs.length : Int) (i : Int)) b ∧ (b = true → ∀ j, i ≤ j → ∀ h : j < xs.length, xs[j].size ≤ 2147483647) := by
  induction d with
  | zero =>
    intro i h1
    exact ⟨true, ev1 0 fun k _ => by simp only [laws_zzFits4.l0]; rw [if_neg (by omega)], fun _ j hj h => by omega⟩
  | succ d ih =>
    intro i h1
    obtain ⟨b, ⟨K, hK⟩, hb⟩ := ih (i + 1) (by omega)
    have hr := rdOf_nat ByteArray.empty xs i (by omega)
    by_cases hs : ((rdOf ByteArray.empty xs (i : Int)).size : Int) > 2147483647
    · exact ⟨false, ev1 0 fun k _ => by simp only [laws_zzFits4.l0]; rw [if_pos (by omega), if_pos (by omega), if_pos (by omega), if_pos hs], fun h => by cases h⟩
    · refine ⟨b, ev1 K fun k hk => ?_, fun h j hj hl => ?_⟩
      · simp only [laws_zzFits4.l0]
        rw [if_pos (by omega), if_pos (by omega), if_pos (by omega), if_neg hs, wr1 (by omega) (by omega)]
        exact hK k hk
      · by_cases hji : j = i
        · subst hji
          rw [hr] at hs
          omega
        · exact hb h j (by omega) hl
theorem fit4 (xs : List ByteArray) : ∃ b, Ev (fun k => laws_zzFits4.f k xs) b ∧ (b = true → Fit4 xs) := by
  by_cases hn : (xs.length : Int) > 2147483647
  · exact ⟨false, ⟨0, fun k _ => by simp only [laws_zzFits4.f]; rw [if_pos hn]⟩, fun h => by cases h⟩
  · obtain ⟨b, ⟨K, hK⟩, hb⟩ := fit4_l0 xs (by omega) xs.length 0 (by omega)
    refine ⟨b, ⟨K, fun k hk => by simp only [laws_zzFits4.f]; rw [if_neg hn]; exact hK k hk⟩, fun h => ⟨by omega, fun s hs => ?_⟩⟩
    obtain ⟨j, hj, rfl⟩ := List.getElem_of_mem hs
    exact hb h j (by omega) hj
end Go.Proofs.YthecfligfhpccaaDoor.X
