/- Plain facts: the looks at sizes end. -/
import Derived.Test.YthecfligfhpccaaXEv
import Derived.Test.YthecfligfhpccaaP16
import Derived.Test.YthecfligfhpccaaP6
set_option linter.unusedVariables false
namespace Go.Proofs.Ythecfligfhpccaa.X
open Go.RowKit Go.Proofs.YthecfligfhpccaaW.PrintWords Go.Proofs.YthecfligfhpccaaW.PrintLast Go.Proofs.YthecfligfhpccaaW.PrintMore Go.Proofs.Ythecfligfhpccaa.P

def Fit4 (xs : List ByteArray) : Prop := xs.length ≤ 2147483647 ∧ ∀ s ∈ xs, s.size ≤ 2147483647
theorem fit4_l0 (xs : List ByteArray) (hn : xs.length ≤ 2147483647) (d : Nat) : ∀ i : Nat, i + d = xs.length → ∃ b, Ev (fun k => laws_zzFits4.l0 k xs (xs.length : Int) (i : Int)) b ∧ (b = true → ∀ j, i ≤ j → ∀ h : j < xs.length, xs[j].size ≤ 2147483647) := by
  induction d with
  | zero =>
    intro i h1
    exact ⟨true, ev1 0 fun k _ => by simp only [laws_zzFits4.l0]; rw [if_neg (by omega)], fun _ j hj h => by omega⟩
  | succ d ih =>
    intro i h1
    obtain ⟨b, ⟨K, hK⟩, hb⟩ := ih (i + 1) (by omega)
    have hr := rdOf_nat ByteArray.empty xs i (by omega)
    by_cases hs : ((rdOf ByteArray.empty xs (i : Int)).size : Int) > 2147483647
    · exact ⟨false, ev1 0 fun k _ => by simp only [laws_zzFits4.l0]; rw [if_pos (by omega), if_pos (by omega), if_pos (by omega), if_pos hs], fun h => by cases h⟩
    · refine ⟨b, ev1 K fun k hk => ?_, fun h j hj hl => ?_⟩
      · simp only [laws_zzFits4.l0]
        rw [if_pos (by omega), if_pos (by omega), if_pos (by omega), if_neg hs, wr1 (by omega) (by omega)]
        exact hK k hk
      · by_cases hji : j = i
        · subst hji
          rw [hr] at hs
          omega
        · exact hb h j (by omega) hl
theorem fit4 (xs : List ByteArray) : ∃ b, Ev (fun k => laws_zzFits4.f k xs) b ∧ (b = true → Fit4 xs) := by
  by_cases hn : (xs.length : Int) > 2147483647
  · exact ⟨false, ⟨0, fun k _ => by simp only [laws_zzFits4.f]; rw [if_pos hn]⟩, fun h => by cases h⟩
  · obtain ⟨b, ⟨K, hK⟩, hb⟩ := fit4_l0 xs (by omega) xs.length 0 (by omega)
    refine ⟨b, ⟨K, fun k hk => by simp only [laws_zzFits4.f]; rw [if_neg hn]; exact hK k hk⟩, fun h => ⟨by omega, fun s hs => ?_⟩⟩
    obtain ⟨j, hj, rfl⟩ := List.getElem_of_mem hs
    exact hb h j (by omega) hj
def Fit9 (xs : List (List ByteArray)) : Prop := xs.length ≤ 2147483647 ∧ ∀ x ∈ xs, Fit4 x
theorem rd_L2_nat (xs : List (List ByteArray)) (i : Nat) (h : i < xs.length) : rd_L2 xs (i : Int) = xs[i] := by simp [rd_L2, h]
theorem fit9_l0 (xs : List (List ByteArray)) (hn : xs.length ≤ 2147483647) (d : Nat) : ∀ i : Nat, i + d = xs.length → ∃ b, Ev (fun k => laws_zzFits9.l0 k xs (xs.length : Int) (i : Int)) b ∧ (b = true → ∀ j, i ≤ j → ∀ h : j < xs.length, Fit4 xs[j]) := by
  induction d with
  | zero =>
    intro i h1
    exact ⟨true, ev1 0 fun k _ => by simp only [laws_zzFits9.l0]; rw [if_neg (by omega)], fun _ j hj h => by omega⟩
  | succ d ih =>
    intro i h1
    obtain ⟨b, ⟨K, hK⟩, hb⟩ := ih (i + 1) (by omega)
    have hr := rd_L2_nat xs i (by omega)
    obtain ⟨b4, ⟨K4, hK4⟩, hb4⟩ := fit4 xs[i]
    dsimp only at hK4
    cases b4 with
    | false => exact ⟨false, ev1 K4 fun k hk => by simp only [laws_zzFits9.l0]; rw [if_pos (by omega), if_pos (by omega), if_pos (by omega), hr, hK4 k hk]; rfl, fun h => by cases h⟩
    | true =>
      refine ⟨b, ev1 (max K K4) fun k hk => ?_, fun h j hj hl => ?_⟩
      · simp only [laws_zzFits9.l0]
        rw [if_pos (by omega), if_pos (by omega), if_pos (by omega), hr, hK4 k (by omega), wr1 (by omega) (by omega)]
        exact hK k (by omega)
      · by_cases hji : j = i
        · subst hji
          exact hb4 rfl
        · exact hb h j (by omega) hl
theorem fit9 (xs : List (List ByteArray)) : ∃ b, Ev (fun k => laws_zzFits9.f k xs) b ∧ (b = true → Fit9 xs) := by
  by_cases hn : (xs.length : Int) > 2147483647
  · exact ⟨false, ⟨0, fun k _ => by simp only [laws_zzFits9.f]; rw [if_pos hn]⟩, fun h => by cases h⟩
  · obtain ⟨b, ⟨K, hK⟩, hb⟩ := fit9_l0 xs (by omega) xs.length 0 (by omega)
    refine ⟨b, ⟨K, fun k hk => by simp only [laws_zzFits9.f]; rw [if_neg hn]; exact hK k hk⟩, fun h => ⟨by omega, fun s hs => ?_⟩⟩
    obtain ⟨j, hj, rfl⟩ := List.getElem_of_mem hs
    exact hb h j (by omega) hj
end Go.Proofs.Ythecfligfhpccaa.X
