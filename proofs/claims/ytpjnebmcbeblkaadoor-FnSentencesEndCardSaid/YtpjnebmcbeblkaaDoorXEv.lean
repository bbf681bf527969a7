/- Plain words on functions with a number of rounds: from some number on they answer. -/
import Derived.Test.YtpjnebmcbeblkaaDoorP0
set_option linter.unusedVariables false
namespace Go.Proofs.YtpjnebmcbeblkaaDoor.X
open Go.RowKit Go.Proofs.YtpjnebmcbeblkaaDoorW.PrintWords Go.Proofs.YtpjnebmcbeblkaaDoorW.PrintLast Go.Proofs.YtpjnebmcbeblkaaDoorW.PrintMore Go.Proofs.YtpjnebmcbeblkaaDoor.P

theorem ev1 {α : Type} {g : Nat → Option α} {r : α} (K : Nat) (h : ∀ k, K ≤ k → g (k + 1) = some r) : Ev g r :=
  ⟨K + 1, fun n hn => by
    obtain ⟨m, rfl⟩ : ∃ m, n = m + 1 := ⟨n - 1, by omega⟩
    exact h m (by omega)⟩
theorem wr1 {i : Int} (h0 : 0 ≤ i) (h : i ≤ 9223372036854775806) : wrap64 (i + 1) = i + 1 := by
  unfold wrap64
  omega
theorem rdOf_nat {α : Type} (d : α) (xs : List α) (i : Nat) (h : i < xs.length) : rdOf d xs (i : Int) = xs[i] := by simp [rdOf, h]
theorem rdOf_mem {α : Type} (d : α) (xs : List α) (i : Int) (h0 : 0 ≤ i) (h : i < xs.length) : rdOf d xs i ∈ xs := by
  obtain ⟨n, rfl⟩ := Int.eq_ofNat_of_zero_le h0
  rw [rdOf_nat d xs n (by omega)]
  exact List.getElem_mem _
theorem rd_nat (xs : List Int) (i : Nat) (h : i < xs.length) : Go.Proofs.YtpjnebmcbeblkaaDoorW.PrintWords.rd xs (i : Int) = xs[i] := by simp [Go.Proofs.YtpjnebmcbeblkaaDoorW.PrintWords.rd, h]
theorem toList_inj {a b : ByteArray} (h : a.toList = b.toList) : a = b := by
  have h1 : a.data.toList = b.data.toList := by
    rw [← ByteArray.toList_eq, ← ByteArray.toList_eq]
    exact h
  cases a; cases b
  simpa using h1
theorem toList_iff {a b : ByteArray} : a.toList = b.toList ↔ a = b := ⟨toList_inj, fun h => by rw [h]⟩
end Go.Proofs.YtpjnebmcbeblkaaDoor.X
