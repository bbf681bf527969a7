/- Plain facts: lists of numbers that are alike; numbers from 1 on; what the common prefixes of a text's beginning are. -/
import Derived.Test.YtddcjmdcpkmnjaaTrPl
import Derived.Test.YtddcjmdcpkmnjaaMPx
import Derived.Test.YtddcjmdcpkmnjaaP18
import Derived.Test.YtddcjmdcpkmnjaaP17
set_option linter.unusedVariables false
namespace Go.Proofs.Ytddcjmdcpkmnjaa.X
open Go.RowKit Go.Proofs.YtddcjmdcpkmnjaaW.PrintWords Go.Proofs.YtddcjmdcpkmnjaaW.PrintLast Go.Proofs.YtddcjmdcpkmnjaaW.PrintMore Go.Proofs.Ytddcjmdcpkmnjaa.P Go.Proofs.Ytddcjmdcpkmnjaa.Da
theorem sameInts_l0 (a b : List Int) (hl : a.length = b.length) (hn : a.length ≤ 9223372036854775806) (d : Nat) : ∀ i : Nat, i + d = a.length → ∃ c, Ev (fun k => laws_sameInts.l0 k a b (a.length : Int) (i : Int)) c ∧ (c = true ↔ ∀ j, i ≤ j → ∀ (h : j < a.length) (h' : j < b.length), a[j] = b[j]) := by
  induction d with
  | zero => intro i hi; exact ⟨true, ev1 0 fun k _ => by simp only [laws_sameInts.l0]; rw [if_neg (by omega)], fun _ j h1 h2 => by omega, fun _ => rfl⟩
  | succ d ih =>
    intro i hi
    obtain ⟨c, ⟨K, hK⟩, hc⟩ := ih (i + 1) (by omega)
    have ha := rd_nat a i (by omega)
    have hb := rd_nat b i (by omega)
    by_cases he : a[i] = b[i]
    · refine ⟨c, ev1 K fun k hk => ?_, hc.trans ⟨fun h j h1 h2 h3 => ?_, fun h j h1 h2 h3 => h j (by omega) h2 h3⟩⟩
      · simp only [laws_sameInts.l0]
        rw [if_pos (by omega), if_pos (by omega), if_pos (by omega), if_pos (by omega), ha, hb, if_pos (by rw [he]), wr1 (by omega) (by omega)]
        exact hK k hk
      · by_cases e : j = i
        · subst e; exact he
        · exact h j (by omega) h2 h3
    · refine ⟨false, ev1 0 fun k _ => ?_, ⟨fun h => (by cases h), fun h => absurd (h i (Nat.le_refl _) (by omega) (by omega)) he⟩⟩
      simp only [laws_sameInts.l0]
      rw [if_pos (by omega), if_pos (by omega), if_pos (by omega), if_pos (by omega), ha, hb, if_neg (fun h => he (id h))]
theorem sameInts_ev (a b : List Int) (hn : a.length ≤ 9223372036854775806) : ∃ c, Ev (fun k => laws_sameInts.f k a b) c ∧ (c = true ↔ a = b) := by
  by_cases hl : a.length = b.length
  · obtain ⟨c, ⟨K, hK⟩, hc⟩ := sameInts_l0 a b hl hn a.length 0 (by omega)
    refine ⟨c, ⟨K, fun k hk => by simp only [laws_sameInts.f]; rw [if_pos (by omega)]; exact hK k hk⟩, hc.trans ⟨fun h => List.ext_getElem hl fun j h1 h2 => h j (by omega) h1 h2, fun h j _ h1 h2 => by subst h; rfl⟩⟩
  · exact ⟨false, ⟨0, fun k _ => by simp only [laws_sameInts.f]; rw [if_neg (by omega)]⟩, ⟨fun h => (by cases h), fun h => absurd (congrArg List.length h) hl⟩⟩
theorem sameInts_same (a : List Int) (hn : a.length ≤ 9223372036854775806) : Ev (fun k => laws_sameInts.f k a a) true := by
  obtain ⟨c, h, hc⟩ := sameInts_ev a a hn
  have : c = true := hc.2 rfl
  rw [← this]
  exact h
theorem numbered_l0 (n : Nat) (hn : n ≤ 1000) (d : Nat) : ∀ i : Nat, i + d = n → ∃ K, ∀ k, K ≤ k → laws_numbered.l0 k (Da.nums i) (n : Int) (i : Int) = some (Da.nums n) := by
  induction d with
  | zero => intro i hi; exact ⟨1, fun k hk => by
      obtain ⟨m, rfl⟩ : ∃ m, k = m + 1 := ⟨k - 1, by omega⟩
      simp only [laws_numbered.l0]
      rw [if_neg (by omega), show i = n by omega]⟩
  | succ d ih =>
    intro i hi
    obtain ⟨K, hK⟩ := ih (i + 1) (by omega)
    refine ⟨K + 1, fun k hk => ?_⟩
    obtain ⟨m, rfl⟩ : ∃ m, k = m + 1 := ⟨k - 1, by omega⟩
    have hl : (Da.nums i).length = i := by simp [Da.nums]
    have happ : Da.nums i ++ [(i : Int) + 1] = Da.nums (i + 1) := by simp [Da.nums, List.range_succ]
    simp only [laws_numbered.l0]
    rw [if_pos (by omega), if_pos (by rw [hl]; omega), wr1 (by omega) (by omega), happ]
    exact hK m (by omega)
theorem numbered_ev (n : Nat) (hn : n ≤ 1000) : ∃ K, ∀ k, K ≤ k → laws_numbered.f k (n : Int) = some (Da.nums n) := by
  obtain ⟨K, hK⟩ := numbered_l0 n hn n 0 (by omega)
  exact ⟨K, fun k hk => by simp only [laws_numbered.f]; exact hK k hk⟩
theorem Fair.numbered {kw : List ByteArray} (h : X.Fair kw []) : X.Fair kw (Da.nums kw.length) := by
  have hm := h.most
  refine ⟨h.pos, h.most, h.cl, h.nd, h.ne, .inr (by simp [Da.nums]), fun x hx => ?_⟩
  unfold Da.nums at hx
  obtain ⟨i, hi, rfl⟩ := List.mem_map.1 hx
  have := List.mem_range.1 hi
  omega
theorem idsOr_nums {kw : List ByteArray} (h : 0 < kw.length) : idsOr kw (Da.nums kw.length) = Da.nums kw.length := if_neg (by rw [show (Da.nums kw.length).length = kw.length by simp [Da.nums]]; omega)
theorem prefixes_ok (kw : List ByteArray) (ids : List Int) (s : ByteArray) (h : X.Fair kw ids) (ht : textB s) : impl_TriePrefixes.f kw ids s = some ((pfx kw (idsOr kw ids) s s.size).map (·.1), (pfx kw (idsOr kw ids) s s.size).map (·.2), true) := if_pos ⟨h.goodB, ht⟩
theorem textB_cut {s : ByteArray} (h : textB s) (n : Nat) (hn : n ≤ s.size) : textB (s.extract 0 n) := by
  have hz : (s.extract 0 n).size = n := by rw [ByteArray.size_extract]; omega
  refine ⟨by have := h.1; omega, fun j hj => ?_⟩
  rw [extract_get s n j (by omega) hn]
  exact h.2 j (by omega)
theorem extract_cut (s : ByteArray) (n t : Nat) (h : t ≤ n) (hn : n ≤ s.size) : (s.extract 0 n).extract 0 t = s.extract 0 t := by
  have h1 : (s.extract 0 n).size = n := by rw [ByteArray.size_extract]; omega
  refine ext_bytes (by simp only [ByteArray.size_extract]; omega) (fun i hi => ?_)
  have hi2 : i < t := by rw [ByteArray.size_extract] at hi; omega
  rw [extract_get _ t i hi2 (by omega), extract_get s n i (by omega) hn, extract_get s t i hi2 (by omega)]
theorem pfx_cut (kw : List ByteArray) (ids : List Int) (s : ByteArray) (n : Nat) (hn : n ≤ s.size) : ∀ t, t ≤ n → pfx kw ids (s.extract 0 n) t = pfx kw ids s t := by
  intro t
  induction t with
  | zero => intro _; rw [pfx_zero, pfx_zero]
  | succ t ih =>
    intro ht
    have e := extract_cut s n (t + 1) ht hn
    have hi := ih (by omega)
    by_cases h : s.extract 0 (t + 1) ∈ kw
    · have h' : (s.extract 0 n).extract 0 (t + 1) ∈ kw := e.symm ▸ h
      have e1 := pfx_hit (kw := kw) (ids := ids) h
      have e2 := pfx_hit (kw := kw) (ids := ids) h'
      rw [e] at e2
      exact e2.trans ((congrArg (· ++ _) hi).trans e1.symm)
    · have h' : ¬ (s.extract 0 n).extract 0 (t + 1) ∈ kw := e.symm ▸ h
      have e1 := pfx_miss (kw := kw) (ids := ids) h
      have e2 := pfx_miss (kw := kw) (ids := ids) h'
      exact e2.trans (hi.trans e1.symm)
theorem pfx_lens (kw : List ByteArray) (ids : List Int) (s : ByteArray) : ∀ t, ∀ x ∈ pfx kw ids s t, 1 ≤ x.2 ∧ x.2 ≤ t := by
  intro t
  induction t with
  | zero => intro x hx; cases hx
  | succ t ih =>
    intro x hx
    by_cases h : s.extract 0 (t + 1) ∈ kw
    · rw [pfx_hit h] at hx
      rcases List.mem_append.1 hx with g | g
      · have := ih x g; omega
      · rw [List.mem_singleton.1 g]; dsimp only; omega
    · rw [pfx_miss h] at hx
      have := ih x hx; omega
theorem pfx_parts (kw : List ByteArray) (ids : List Int) (s : ByteArray) (n : Nat) : ∀ d, ∃ r, pfx kw ids s (n + d) = pfx kw ids s n ++ r ∧ ∀ x ∈ r, (n : Int) < x.2 := by
  intro d
  induction d with
  | zero => exact ⟨[], by simp, by simp⟩
  | succ d ih =>
    obtain ⟨r, h1, h2⟩ := ih
    rw [show n + (d + 1) = n + d + 1 by omega]
    by_cases h : s.extract 0 (n + d + 1) ∈ kw
    · refine ⟨r ++ [(idOf kw ids (s.extract 0 (n + d + 1)), ((n + d : Nat) : Int) + 1)], by rw [pfx_hit h, h1, List.append_assoc], fun x hx => ?_⟩
      rcases List.mem_append.1 hx with g | g
      · exact h2 x g
      · rw [List.mem_singleton.1 g]; dsimp only; omega
    · exact ⟨r, by rw [pfx_miss h, h1], h2⟩
end Go.Proofs.Ytddcjmdcpkmnjaa.X
