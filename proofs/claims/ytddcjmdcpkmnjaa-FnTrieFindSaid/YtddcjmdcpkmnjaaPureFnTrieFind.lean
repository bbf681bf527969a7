/- The words of a double array are found with their numbers: for every list of words, numbers and text. No condition. -/
import Derived.Test.YtddcjmdcpkmnjaaTrPl
import Derived.Test.YtddcjmdcpkmnjaaP3
set_option linter.unusedVariables false
namespace Go.Proofs.Ytddcjmdcpkmnjaa.Pure
open Go.RowKit Go.Proofs.YtddcjmdcpkmnjaaW.PrintWords Go.Proofs.YtddcjmdcpkmnjaaW.PrintLast Go.Proofs.YtddcjmdcpkmnjaaW.PrintMore Go.Proofs.Ytddcjmdcpkmnjaa.P Go.Proofs.Ytddcjmdcpkmnjaa.X Go.Proofs.Ytddcjmdcpkmnjaa.Da
theorem tf_hit (kw : List ByteArray) (ids : List Int) (s : ByteArray) (hnd : kw.Nodup) (hl : kw.length ≤ 30) (hlen : ids.length = kw.length) (hs : s ∈ kw) (d : Nat) : ∀ i : Nat, i + d = kw.length → (∀ x, x < i → ∀ h : x < kw.length, kw[x] ≠ s) → Ev (fun k => laws_FnTrieFind.l0 k ids s (idOf kw ids s) true true kw (kw.length : Int) (i : Int)) true := by
  induction d with
  | zero =>
    intro i hi h
    obtain ⟨x, hx, e⟩ := List.getElem_of_mem hs
    exact absurd e (h x (by omega) hx)
  | succ d ih =>
    intro i hi h
    have hr := rdOf_nat ByteArray.empty kw i (by omega)
    by_cases he : kw[i].toList = s.toList
    · have hid : idOf kw ids s = ids[i] := by
        rw [← toList_inj he]
        unfold idOf
        rw [hnd.idxOf_getElem i (by omega), List.getD_eq_getElem?_getD, List.getElem?_eq_getElem (by omega)]; rfl
      have hr2 := rd_nat ids i (by omega)
      exact ev1 0 fun k _ => by
        simp only [laws_FnTrieFind.l0]
        rw [if_pos (by omega), if_pos (by omega), if_pos (by omega), hr, if_pos he, if_pos trivial, if_pos trivial, if_pos (by omega), hr2, hid]
        simp
    · obtain ⟨K, hK⟩ := ih (i + 1) (by omega) (fun x hx hx2 => by
        by_cases e : x = i
        · subst e; exact fun g => he (by rw [g])
        · exact h x (by omega) hx2)
      exact ev1 K fun k hk => by
        simp only [laws_FnTrieFind.l0]
        rw [if_pos (by omega), if_pos (by omega), if_pos (by omega), hr, if_neg he, wr1 (by omega) (by omega)]
        exact hK k hk
theorem tf_miss (kw : List ByteArray) (ids : List Int) (s : ByteArray) (v : Int) (hl : kw.length ≤ 30) (hs : s ∉ kw) (d : Nat) : ∀ i : Nat, i + d = kw.length → Ev (fun k => laws_FnTrieFind.l0 k ids s v false true kw (kw.length : Int) (i : Int)) true := by
  induction d with
  | zero => intro i hi; exact ev1 0 fun k _ => by simp only [laws_FnTrieFind.l0]; rw [if_neg (by omega), if_pos trivial]; rfl
  | succ d ih =>
    intro i hi
    have hr := rdOf_nat ByteArray.empty kw i (by omega)
    have he : ¬ kw[i].toList = s.toList := fun g => hs (by rw [← toList_inj g]; exact List.getElem_mem _)
    obtain ⟨K, hK⟩ := ih (i + 1) (by omega)
    exact ev1 K fun k hk => by
      simp only [laws_FnTrieFind.l0]
      rw [if_pos (by omega), if_pos (by omega), if_pos (by omega), hr, if_neg he, wr1 (by omega) (by omega)]
      exact hK k hk
theorem tf_j1 (kw : List ByteArray) (ids : List Int) (s : ByteArray) (h : X.Fair kw ids) (h0 : ids.length ≠ 0) (hs : Clean1 80 s) (ha : s ∉ kw → ∀ u ∈ kw, ¬ pre s s.size u) : ∃ K, ∀ k, K ≤ k → laws_FnTrieFind.j1 k kw ids s false = some true := by
  have hid : idsOr kw ids = ids := if_neg h0
  have hf := find_ok kw ids s h (textB_of hs)
  rw [hid] at hf
  have hlen := h.len.resolve_left h0
  by_cases hm : s ∈ kw
  · have hz := h.ne s hm
    have hfd : find kw ids s = (idOf kw ids s, true) := by unfold find; rw [if_neg (by omega), if_pos hm]
    rw [hfd] at hf
    obtain ⟨K, hK⟩ := tf_hit kw ids s h.nd h.most hlen hm kw.length 0 (by omega) (fun x hx => by omega)
    dsimp only at hK
    refine ⟨K + 1, fun k hk => ?_⟩
    obtain ⟨m, rfl⟩ : ∃ m, k = m + 1 := ⟨k - 1, by omega⟩
    simp only [laws_FnTrieFind.j1]
    rw [if_neg (by simp), hf]
    simp only [Option.bind_some]
    exact hK m (by omega)
  · have hfd : find kw ids s = (0, false) := by
      unfold find
      by_cases hz : s.size = 0
      · rw [if_pos hz]
      · rw [if_neg hz, if_neg hm]
        have : (kw.any fun u => decide (pre s s.size u)) = false := by
          rw [List.any_eq_false]
          intro u hu
          simpa using ha hm u hu
        rw [this]
    rw [hfd] at hf
    obtain ⟨K, hK⟩ := tf_miss kw ids s 0 h.most hm kw.length 0 (by omega)
    dsimp only at hK
    refine ⟨K + 1, fun k hk => ?_⟩
    obtain ⟨m, rfl⟩ : ∃ m, k = m + 1 := ⟨k - 1, by omega⟩
    simp only [laws_FnTrieFind.j1]
    rw [if_neg (by simp), hf]
    simp only [Option.bind_some]
    exact hK m (by omega)
theorem tf_t (kw : List ByteArray) (ids : List Int) (s : ByteArray) : ∃ K, ∀ k, K ≤ k → laws_FnTrieFind.j1 k kw ids s true = some true := ⟨1, fun k hk => by
  obtain ⟨m, rfl⟩ : ∃ m, k = m + 1 := ⟨k - 1, by omega⟩
  simp only [laws_FnTrieFind.j1]; rw [if_pos trivial]⟩
theorem tf_j0 (kw : List ByteArray) (ids : List Int) (s : ByteArray) (hf : Fit4 kw) (hs : s.size ≤ 2147483647) : ∃ K, ∀ k, K ≤ k → laws_FnTrieFind.j0 k kw ids s false = some true := by
  obtain ⟨c1, ⟨K1, h1⟩, g1⟩ := fair_ev kw ids hf
  obtain ⟨c2, ⟨K2, h2⟩, g2⟩ := clean_ev 80 [s] ⟨by simp, by simpa using hs⟩
  obtain ⟨c3, ⟨K3, h3⟩, _, g3⟩ := ahead_ev kw s hf.1
  obtain ⟨KT, hT⟩ := tf_t kw ids s
  dsimp only at h1 h2 h3
  have key : c1 = true → ids.length ≠ 0 → c2 = true → c3 = false → ∃ K, ∀ k, K ≤ k → laws_FnTrieFind.j1 k kw ids s false = some true := fun a b c d => tf_j1 kw ids s (g1 a) b (g2 c s (by simp)).1 (g3 d)
  have key2 : ∃ K, c1 = true → ids.length ≠ 0 → c2 = true → c3 = false → ∀ k, K ≤ k → laws_FnTrieFind.j1 k kw ids s false = some true := by
    by_cases hx : c1 = true ∧ ids.length ≠ 0 ∧ c2 = true ∧ c3 = false
    · obtain ⟨K, h⟩ := key hx.1 hx.2.1 hx.2.2.1 hx.2.2.2
      exact ⟨K, fun _ _ _ _ => h⟩
    · exact ⟨0, fun a b c d => absurd ⟨a, b, c, d⟩ hx⟩
  obtain ⟨K4, h4⟩ := key2
  refine ⟨max (max K1 K2) (max K3 (max KT K4)) + 1, fun k hk => ?_⟩
  obtain ⟨m, rfl⟩ : ∃ m, k = m + 1 := ⟨k - 1, by omega⟩
  simp only [laws_FnTrieFind.j0]
  rw [if_neg (by simp), finds_f]
  simp only [Option.bind_some]
  rw [if_pos trivial, h1 m (by omega)]
  simp only [Option.bind_some]
  cases c1 with
  | false => rw [if_neg (by simp)]; exact hT m (by omega)
  | true =>
    rw [if_pos rfl]
    by_cases h0 : ids.length = 0
    · rw [if_pos (by omega)]; exact hT m (by omega)
    · rw [if_neg (by omega), h2 m (by omega)]
      simp only [Option.bind_some]
      cases c2 with
      | false => rw [if_neg (by simp)]; exact hT m (by omega)
      | true =>
        rw [if_pos rfl, h3 m (by omega)]
        simp only [Option.bind_some]
        cases c3 with
        | true => exact hT m (by omega)
        | false => exact h4 rfl h0 rfl rfl m (by omega)
theorem FnTrieFind (x0 : List ByteArray) (x1 : List Int) (x2 : ByteArray) (g0 : x0.length ≤ 9223372036854775807 ∧ ∀ y0 ∈ x0, y0.size ≤ 9223372036854775807) (g1 : x1.length ≤ 9223372036854775807 ∧ ∀ y0 ∈ x1, (Lit.int .i64 y0).wf = true) (g2 : x2.size ≤ 9223372036854775807) : ∃ k, laws_FnTrieFind.f k x0 x1 x2 = some true := by
  obtain ⟨b, ⟨K, hK⟩, hb⟩ := fit4 x0
  dsimp only at hK
  have hT : ∀ k, 1 ≤ k → laws_FnTrieFind.j0 k x0 x1 x2 true = some true := fun k hk => by
    obtain ⟨m, rfl⟩ : ∃ m, k = m + 1 := ⟨k - 1, by omega⟩
    simp only [laws_FnTrieFind.j0]; rw [if_pos trivial]
  cases b with
  | false =>
    refine ⟨max K 1, ?_⟩
    simp only [laws_FnTrieFind.f]
    rw [hK _ (by omega)]
    simp only [Option.bind_some]
    rw [if_neg (by simp)]
    exact hT _ (by omega)
  | true =>
    by_cases h1 : (x1.length : Int) > 2147483647
    · refine ⟨max K 1, ?_⟩
      simp only [laws_FnTrieFind.f]
      rw [hK _ (by omega)]
      simp only [Option.bind_some]
      rw [if_pos trivial, if_pos h1]
      exact hT _ (by omega)
    · by_cases h2 : (x2.size : Int) > 2147483647
      · refine ⟨max K 1, ?_⟩
        simp only [laws_FnTrieFind.f]
        rw [hK _ (by omega)]
        simp only [Option.bind_some]
        rw [if_pos trivial, if_neg h1, decide_eq_true h2]
        exact hT _ (by omega)
      · obtain ⟨K2, hK2⟩ := tf_j0 x0 x1 x2 (hb rfl) (by omega)
        refine ⟨max K K2, ?_⟩
        simp only [laws_FnTrieFind.f]
        rw [hK _ (by omega)]
        simp only [Option.bind_some]
        rw [if_pos trivial, if_neg h1, decide_eq_false h2]
        exact hK2 _ (by omega)
end Go.Proofs.Ytddcjmdcpkmnjaa.Pure
