/- Words without given numbers are numbered from 1 on: for every list of words and every place. No condition. -/
import Derived.Test.YtddcjmdcpkmnjaaTrPl
import Derived.Test.YtddcjmdcpkmnjaaP4
set_option linter.unusedVariables false
namespace Go.Proofs.Ytddcjmdcpkmnjaa.Pure
open Go.RowKit Go.Proofs.YtddcjmdcpkmnjaaW.PrintWords Go.Proofs.YtddcjmdcpkmnjaaW.PrintLast Go.Proofs.YtddcjmdcpkmnjaaW.PrintMore Go.Proofs.Ytddcjmdcpkmnjaa.P Go.Proofs.Ytddcjmdcpkmnjaa.X Go.Proofs.Ytddcjmdcpkmnjaa.Da
theorem nums_at (n i : Nat) (h : i < n) : (Da.nums n).getD i 0 = (i : Int) + 1 := by
  unfold Da.nums
  rw [List.getD_eq_getElem?_getD, List.getElem?_map, List.getElem?_range h]; rfl
theorem tn_find (kw : List ByteArray) (h : X.Fair kw []) (n : Nat) (hn : n < kw.length) : impl_TrieFind.f kw [] kw[n] = some ((n : Int) + 1, true, true) := by
  have hm : kw[n] ∈ kw := List.getElem_mem _
  have hc := h.cl _ hm
  have hf := find_ok kw [] kw[n] h ⟨by have := hc.1; omega, clean_nz hc⟩
  have hid : idsOr kw [] = Da.nums kw.length := if_pos rfl
  have hz := h.ne _ hm
  have hfd : find kw (idsOr kw []) kw[n] = ((n : Int) + 1, true) := by
    unfold find
    rw [if_neg (by omega), if_pos hm, hid]
    unfold idOf
    rw [h.nd.idxOf_getElem n hn, nums_at _ _ hn]
  rw [hfd] at hf
  exact hf
theorem tn_l0 (kw : List ByteArray) (h : X.Fair kw []) (n : Nat) (hn : n < kw.length) (d : Nat) : ∀ i : Nat, 1 ≤ i → kw.length ≤ i + d → i ≤ kw.length + 1 → ∃ K, ∀ k, K ≤ k → laws_FnTrieNumbers.l0 k kw (n : Int) (i : Int) = some true := by
  have hmost := h.most
  have hend : ∀ i : Nat, kw.length ≤ i → ∃ K, ∀ k, K ≤ k → laws_FnTrieNumbers.l0 k kw (n : Int) (i : Int) = some true := fun i hi => ⟨1, fun k hk => by
    obtain ⟨m, rfl⟩ : ∃ m, k = m + 1 := ⟨k - 1, by omega⟩
    have hr := rdOf_nat ByteArray.empty kw n hn
    simp only [laws_FnTrieNumbers.l0]
    rw [if_neg (by omega), if_pos (by omega), if_pos (by omega), hr, tn_find kw h n hn]
    simp only [Option.bind_some]
    rw [if_pos trivial, if_pos trivial, wr1 (by omega) (by omega)]
    simp⟩
  induction d with
  | zero => intro i h1 h2 h3; exact hend i (by omega)
  | succ d ih =>
    intro i h1 h2 h3
    by_cases hlt : i < kw.length
    · obtain ⟨K, hK⟩ := ih (i + 1) (by omega) (by omega) (by omega)
      have hw : wrap64 ((i : Int) - 1) = ((i - 1 : Nat) : Int) := by unfold wrap64; omega
      refine ⟨K + 1, fun k hk => ?_⟩
      obtain ⟨m, rfl⟩ : ∃ m, k = m + 1 := ⟨k - 1, by omega⟩
      simp only [laws_FnTrieNumbers.l0]
      rw [if_pos (by omega), if_pos (by omega), hw, if_pos (by omega), if_pos (by omega), wr1 (by omega) (by omega)]
      split
      · rfl
      · exact hK m (by omega)
    · exact hend i (by omega)
theorem tn_j1 (kw : List ByteArray) (a : Int) : ∀ k, 1 ≤ k → laws_FnTrieNumbers.j1 k kw a true = some true := fun k hk => by
  obtain ⟨m, rfl⟩ : ∃ m, k = m + 1 := ⟨k - 1, by omega⟩
  simp only [laws_FnTrieNumbers.j1]; rw [if_pos trivial]
theorem tn_j0 (kw : List ByteArray) (a : Int) (hf : Fit4 kw) : ∃ K, ∀ k, K ≤ k → laws_FnTrieNumbers.j0 k kw a false = some true := by
  obtain ⟨c1, ⟨K1, h1⟩, g1⟩ := fair_ev kw [] hf
  dsimp only at h1
  have hT := tn_j1 kw a
  by_cases hx : c1 = true ∧ 0 ≤ a ∧ a < kw.length
  · obtain ⟨rfl, ha, hb⟩ := hx
    obtain ⟨n, rfl⟩ := Int.eq_ofNat_of_zero_le ha
    have hfr := g1 rfl
    obtain ⟨K, hK⟩ := tn_l0 kw hfr n (by omega) kw.length 1 (by omega) (by omega) (by have := hfr.pos; omega)
    refine ⟨max K1 K + 2, fun k hk => ?_⟩
    obtain ⟨m, rfl⟩ : ∃ m, k = m + 2 := ⟨k - 2, by omega⟩
    simp only [laws_FnTrieNumbers.j0]
    rw [if_neg (by simp), h1 (m + 1) (by omega)]
    simp only [Option.bind_some]
    rw [if_pos trivial, if_neg (by omega), decide_eq_false (by omega)]
    simp only [laws_FnTrieNumbers.j1]
    rw [if_neg (by simp)]
    exact hK m (by omega)
  · refine ⟨K1 + 2, fun k hk => ?_⟩
    obtain ⟨m, rfl⟩ : ∃ m, k = m + 2 := ⟨k - 2, by omega⟩
    simp only [laws_FnTrieNumbers.j0]
    rw [if_neg (by simp), h1 (m + 1) (by omega)]
    simp only [Option.bind_some]
    cases c1 with
    | false => rw [if_neg (by simp)]; exact hT _ (by omega)
    | true =>
      rw [if_pos rfl]
      by_cases h2 : a < 0
      · rw [if_pos h2]; exact hT _ (by omega)
      · rw [if_neg h2, decide_eq_true (by
          have : ¬ (a < kw.length) := fun g => hx ⟨rfl, by omega, g⟩
          omega)]
        exact hT _ (by omega)
theorem tn_canary : impl_TrieFind.f [(⟨#[97]⟩ : ByteArray), (⟨#[98]⟩ : ByteArray)] ([] : List Int) (⟨#[98]⟩ : ByteArray) = some (2, true, true) := by
  have h1 : goodB [(⟨#[97]⟩ : ByteArray), (⟨#[98]⟩ : ByteArray)] (idsOr [(⟨#[97]⟩ : ByteArray), (⟨#[98]⟩ : ByteArray)] []) := by decide
  have h2 : textB (⟨#[98]⟩ : ByteArray) := by decide
  have h3 : find [(⟨#[97]⟩ : ByteArray), (⟨#[98]⟩ : ByteArray)] (idsOr [(⟨#[97]⟩ : ByteArray), (⟨#[98]⟩ : ByteArray)] []) (⟨#[98]⟩ : ByteArray) = (2, true) := by decide
  unfold impl_TrieFind.f
  rw [if_pos ⟨h1, h2⟩, h3]
theorem FnTrieNumbers (x0 : List ByteArray) (x1 : Int) (g0 : x0.length ≤ 9223372036854775807 ∧ ∀ y0 ∈ x0, y0.size ≤ 9223372036854775807) (g1 : (Lit.int .i64 x1).wf = true) : ∃ k, laws_FnTrieNumbers.f k x0 x1 = some true := by
  obtain ⟨b, ⟨K, hK⟩, hb⟩ := fit4 x0
  dsimp only at hK
  cases b with
  | false =>
    refine ⟨K, ?_⟩
    simp only [laws_FnTrieNumbers.f]
    rw [hK _ (Nat.le_refl _)]
    simp only [Option.bind_some]
    rw [if_neg (by simp)]
  | true =>
    obtain ⟨K2, hK2⟩ := tn_j0 x0 x1 (hb rfl)
    refine ⟨max K K2, ?_⟩
    simp only [laws_FnTrieNumbers.f]
    rw [hK _ (by omega)]
    simp only [Option.bind_some]
    rw [if_pos trivial, tn_canary]
    simp only [Option.bind_some]
    rw [if_pos trivial, if_pos trivial]
    exact hK2 _ (by omega)
end Go.Proofs.Ytddcjmdcpkmnjaa.Pure
