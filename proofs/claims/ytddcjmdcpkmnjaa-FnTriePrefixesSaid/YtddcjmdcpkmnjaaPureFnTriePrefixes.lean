/- The common prefixes of a text are the beginnings of it that are words, by rising lengths, however they are asked; the longest one is the last of them: for every list of words, of numbers, and every text. No condition. -/
import Derived.Test.YtddcjmdcpkmnjaaTrPl2
import Derived.Test.YtddcjmdcpkmnjaaETrD
import Derived.Test.YtddcjmdcpkmnjaaETrC
import Derived.Test.YtddcjmdcpkmnjaaP7
set_option linter.unusedVariables false
namespace Go.Proofs.Ytddcjmdcpkmnjaa.Pure
open Go.RowKit Go.Proofs.YtddcjmdcpkmnjaaW.PrintWords Go.Proofs.YtddcjmdcpkmnjaaW.PrintLast Go.Proofs.YtddcjmdcpkmnjaaW.PrintMore Go.Proofs.Ytddcjmdcpkmnjaa.P Go.Proofs.Ytddcjmdcpkmnjaa.X Go.Proofs.Ytddcjmdcpkmnjaa.Da
theorem tp_id (kw : List ByteArray) (ids : List Int) (h : X.Fair kw ids) (h0 : ids.length ≠ 0) (i : Nat) (hi : i < kw.length) : idOf kw ids kw[i] = rd ids (i : Int) := by
  have hl : ids.length = kw.length := by rcases h.len with e | e; exact absurd e h0; exact e
  unfold idOf
  rw [h.nd.idxOf_getElem i hi, rd_nat ids i (by omega), List.getD_eq_getElem?_getD, List.getElem?_eq_getElem (by omega)]
  rfl
theorem tp_l1 (kw : List ByteArray) (ids : List Int) (s : ByteArray) (h : X.Fair kw ids) (h0 : ids.length ≠ 0) (n : Nat) (hn : n ≤ s.size) (x53 : Int) (L : List (Int × Int)) (hL : L.length ≤ 1000)
    (t : ByteArray) (ht : t = s.extract 0 n) (d : Nat) : ∀ (i : Nat), i + d = kw.length → ∀ M : List (Int × Int), M = (if t ∈ kw.drop i then L ++ [(idOf kw ids t, (n : Int))] else L) →
    (∃ K, ∀ k, K ≤ k → laws_FnTriePrefixes.l0 k kw ids s (M.map (·.1)) (M.map (·.2)) x53 (wrap64 ((n : Int) + 1)) = some true) →
    ∃ K, ∀ k, K ≤ k → laws_FnTriePrefixes.l1 k kw ids s (L.map (·.1)) (L.map (·.2)) (n : Int) x53 (n : Int) kw (kw.length : Int) (i : Int) = some true := by
  have hmost := h.most
  have hl : ids.length = kw.length := by rcases h.len with e | e; exact absurd e h0; exact e
  induction d generalizing L with
  | zero =>
    intro i hi M hM ⟨K, hK⟩
    refine ⟨K + 1, fun k hk => ?_⟩
    obtain ⟨m, rfl⟩ : ∃ m, k = m + 1 := ⟨k - 1, by omega⟩
    rw [List.drop_of_length_le (by omega), if_neg (by simp)] at hM
    subst hM
    simp only [laws_FnTriePrefixes.l1]
    rw [if_neg (by omega)]
    exact hK m (by omega)
  | succ d ih =>
    intro i hi M hM hK
    have hlt : i < kw.length := by omega
    have hdr : kw.drop i = kw[i] :: kw.drop (i + 1) := List.drop_eq_getElem_cons hlt
    have hr := rdOf_nat ByteArray.empty kw i hlt
    by_cases e : kw[i] = t
    · have hno : t ∉ kw.drop (i + 1) := by
        rw [← e]
        have := h.nd
        have h2 : (kw.drop i).Nodup := this.sublist (List.drop_sublist _ _)
        rw [hdr] at h2
        exact (List.nodup_cons.1 h2).1
      rw [if_pos (by rw [hdr, e]; exact List.mem_cons_self)] at hM
      -- from here on nothing is found
      have hrest : ∀ d' i' : Nat, i' + d' = kw.length → i + 1 ≤ i' → ∃ K, ∀ k, K ≤ k → laws_FnTriePrefixes.l1 k kw ids s (M.map (·.1)) (M.map (·.2)) (n : Int) x53 (n : Int) kw (kw.length : Int) (i' : Int) = some true := by
        intro d'
        induction d' with
        | zero =>
          intro i' hi' _
          obtain ⟨K, hK⟩ := hK
          refine ⟨K + 1, fun k hk => ?_⟩
          obtain ⟨m, rfl⟩ : ∃ m, k = m + 1 := ⟨k - 1, by omega⟩
          simp only [laws_FnTriePrefixes.l1]
          rw [if_neg (by omega)]
          exact hK m (by omega)
        | succ d' ih' =>
          intro i' hi' hge
          obtain ⟨K, hK'⟩ := ih' (i' + 1) (by omega) (by omega)
          refine ⟨K + 1, fun k hk => ?_⟩
          obtain ⟨m, rfl⟩ : ∃ m, k = m + 1 := ⟨k - 1, by omega⟩
          have hr' := rdOf_nat ByteArray.empty kw i' (by omega)
          have hne : kw[i']'(by omega) ≠ t := fun g => hno (by rw [← g]; refine List.mem_drop_iff_getElem.2 ⟨i' - (i + 1), by omega, ?_⟩; congr 1; omega)
          simp only [laws_FnTriePrefixes.l1]
          rw [if_pos (by omega), if_pos (by omega), if_pos (by omega), if_pos (by omega), if_pos (by omega), hr', if_neg (fun g => hne (by rw [ht]; exact toList_inj (by simpa using g))), wr1 (by omega) (by omega)]
          exact hK' m (by omega)
      obtain ⟨K, hK'⟩ := hrest d (i + 1) (by omega) (Nat.le_refl _)
      refine ⟨K + 1, fun k hk => ?_⟩
      obtain ⟨m, rfl⟩ : ∃ m, k = m + 1 := ⟨k - 1, by omega⟩
      have hm1 : M.map (·.1) = L.map (·.1) ++ [rd ids (i : Int)] := by rw [hM, ← e, tp_id kw ids h h0 i hlt]; simp
      have hm2 : M.map (·.2) = L.map (·.2) ++ [(n : Int)] := by rw [hM]; simp
      rw [hm1, hm2] at hK'
      simp only [laws_FnTriePrefixes.l1]
      rw [if_pos (by omega), if_pos (by omega), if_pos (by omega), if_pos (by omega), if_pos (by omega), hr, if_pos (by rw [e, ht]; simp), if_pos (by omega), if_pos (by rw [List.length_map]; omega), if_pos (by rw [List.length_map]; omega), wr1 (by omega) (by omega)]
      exact hK' m (by omega)
    · have hM' : M = (if t ∈ kw.drop (i + 1) then L ++ [(idOf kw ids t, (n : Int))] else L) := by
        rw [hM, hdr]
        have : (t ∈ kw[i] :: kw.drop (i + 1)) ↔ t ∈ kw.drop (i + 1) := by
          rw [List.mem_cons]
          exact ⟨fun g => g.resolve_left (fun q => e q.symm), .inr⟩
        simp only [this]
      obtain ⟨K, hK'⟩ := ih L hL (i + 1) (by omega) M hM' hK
      refine ⟨K + 1, fun k hk => ?_⟩
      obtain ⟨m, rfl⟩ : ∃ m, k = m + 1 := ⟨k - 1, by omega⟩
      simp only [laws_FnTriePrefixes.l1]
      rw [if_pos (by omega), if_pos (by omega), if_pos (by omega), if_pos (by omega), if_pos (by omega), hr, if_neg (fun g => e (by rw [ht]; exact toList_inj (by simpa using g))), wr1 (by omega) (by omega)]
      exact hK' m (by omega)
theorem tp_end (kw : List ByteArray) (ids : List Int) (s : ByteArray) (h : X.Fair kw ids) (h0 : ids.length ≠ 0) (ht : textB s) : ∃ K, ∀ k, K ≤ k → laws_FnTriePrefixes.l0 k kw ids s ((pfx kw ids s s.size).map (·.1)) ((pfx kw ids s s.size).map (·.2)) ((s.size : Int) + 1) ((s.size : Int) + 1) = some true := by
  have hid : idsOr kw ids = ids := if_neg h0
  have hp := prefixes_ok kw ids s h ht
  have hc : impl_TrieCalls.f kw ids s = some ((pfx kw (idsOr kw ids) s s.size).map (·.1), (pfx kw (idsOr kw ids) s s.size).map (·.2), true) := if_pos ⟨h.goodB, ht⟩
  have hl : impl_TrieLongest.f kw ids s = some ((longest (pfx kw (idsOr kw ids) s s.size)).1, (longest (pfx kw (idsOr kw ids) s s.size)).2, true) := if_pos ⟨h.goodB, ht⟩
  rw [hid] at hp hc hl
  have hlen := pfx_len kw ids s s.size
  have hsz := ht.1
  generalize pfx kw ids s s.size = L at *
  obtain ⟨K1, h1⟩ := sameInts_same (L.map (·.1)) (by rw [List.length_map]; omega)
  obtain ⟨K2, h2⟩ := sameInts_same (L.map (·.2)) (by rw [List.length_map]; omega)
  dsimp only at h1 h2
  refine ⟨max K1 K2 + 1, fun k hk => ?_⟩
  obtain ⟨m, rfl⟩ : ∃ m, k = m + 1 := ⟨k - 1, by omega⟩
  simp only [laws_FnTriePrefixes.l0]
  rw [if_neg (by omega), hp, hc, hl]
  simp only [Option.bind_some, if_true]
  rw [h1 m (by omega)]
  simp only [Option.bind_some, if_true]
  rw [h2 m (by omega)]
  simp only [Option.bind_some, if_true]
  rcases List.eq_nil_or_concat L with rfl | ⟨L', x, rfl⟩
  · simp [longest]
  · rw [List.concat_eq_append] at *
    rw [longest_app]
    have hn : ((List.map (fun x => x.1) (L' ++ [x])).length : Int) = (L'.length : Int) + 1 := by simp
    have hw : wrap64 (((L'.length : Int) + 1) - 1) = (L'.length : Int) := by rw [List.length_append] at hlen; unfold wrap64; omega
    rw [hn, hw]
    have hd : decide ((L'.length : Int) + 1 > 0) = true := decide_eq_true (by omega)
    rw [hd]
    simp only [beq_self_eq_true, if_true]
    rw [if_pos (by omega), if_pos (by omega), rd_nat _ L'.length (by simp)]
    simp
theorem tp_l0 (kw : List ByteArray) (ids : List Int) (s : ByteArray) (h : X.Fair kw ids) (h0 : ids.length ≠ 0) (ht : textB s) (d : Nat) : ∀ n : Nat, n + d = s.size + 1 →
    ∃ K, ∀ k, K ≤ k → laws_FnTriePrefixes.l0 k kw ids s ((pfx kw ids s (n - 1)).map (·.1)) ((pfx kw ids s (n - 1)).map (·.2)) ((s.size : Int) + 1) (n : Int) = some true := by
  have hsz := ht.1
  induction d with
  | zero =>
    intro n hn
    obtain rfl : n = s.size + 1 := by omega
    exact tp_end kw ids s h h0 ht
  | succ d ih =>
    intro n hn
    have hlen := pfx_len kw ids s (n - 1)
    obtain ⟨K1, h1⟩ := tp_l1 kw ids s h h0 n (by omega) ((s.size : Int) + 1) (pfx kw ids s (n - 1)) (by omega) (s.extract 0 n) rfl kw.length 0 (by omega) (pfx kw ids s n) (by
      rw [List.drop_zero]
      cases n with
      | zero =>
        rw [if_neg]
        intro hm
        have := h.ne _ hm
        rw [ByteArray.size_extract] at this
        omega
      | succ n =>
        by_cases hm : s.extract 0 (n + 1) ∈ kw
        · rw [if_pos hm, pfx_hit hm]; simp
        · rw [if_neg hm, pfx_miss hm]; simp) (by
      obtain ⟨K, hK⟩ := ih (n + 1) (by omega)
      refine ⟨K, fun k hk => ?_⟩
      rw [wr1 (by omega) (by omega)]
      exact hK k hk)
    refine ⟨K1 + 1, fun k hk => ?_⟩
    obtain ⟨m, rfl⟩ : ∃ m, k = m + 1 := ⟨k - 1, by omega⟩
    simp only [laws_FnTriePrefixes.l0]
    rw [if_pos (by omega)]
    exact h1 m (by omega)
theorem tp_t (kw : List ByteArray) (ids : List Int) (s : ByteArray) : ∀ k, 1 ≤ k → laws_FnTriePrefixes.j1 k kw ids s true = some true := fun k hk => by
  obtain ⟨m, rfl⟩ : ∃ m, k = m + 1 := ⟨k - 1, by omega⟩
  simp only [laws_FnTriePrefixes.j1]; rw [if_pos trivial]
theorem tp_j0 (kw : List ByteArray) (ids : List Int) (s : ByteArray) (hf : Fit4 kw) (hs : s.size ≤ 2147483647) : ∃ K, ∀ k, K ≤ k → laws_FnTriePrefixes.j0 k kw ids s false = some true := by
  obtain ⟨c1, ⟨K1, h1⟩, g1⟩ := fair_ev kw ids hf
  obtain ⟨c2, ⟨K2, h2⟩, g2⟩ := clean_ev 80 [s] ⟨by simp, by simpa using hs⟩
  dsimp only at h1 h2
  have hT := tp_t kw ids s
  have key2 : ∃ K, c1 = true → ids.length ≠ 0 → c2 = true → ∀ k, K ≤ k → laws_FnTriePrefixes.j1 k kw ids s false = some true := by
    by_cases hx : c1 = true ∧ ids.length ≠ 0 ∧ c2 = true
    · have ht := textB_of ((g2 hx.2.2 s (by simp)).1)
      obtain ⟨K, hK⟩ := tp_l0 kw ids s (g1 hx.1) hx.2.1 ht (s.size + 1) 0 (by omega)
      refine ⟨K + 1, fun _ _ _ k hk => ?_⟩
      obtain ⟨m, rfl⟩ : ∃ m, k = m + 1 := ⟨k - 1, by omega⟩
      simp only [laws_FnTriePrefixes.j1]
      rw [if_neg (by simp), wr1 (by omega) (by omega)]
      exact hK m (by omega)
    · exact ⟨0, fun a b c => absurd ⟨a, b, c⟩ hx⟩
  obtain ⟨K4, h4⟩ := key2
  refine ⟨max (max K1 K2) K4 + 2, fun k hk => ?_⟩
  obtain ⟨m, rfl⟩ : ∃ m, k = m + 1 := ⟨k - 1, by omega⟩
  simp only [laws_FnTriePrefixes.j0]
  rw [if_neg (by simp), finds_f]
  simp only [Option.bind_some]
  rw [if_pos trivial, h1 m (by omega)]
  simp only [Option.bind_some]
  cases c1 with
  | false => rw [if_neg (by simp)]; exact hT m (by omega)
  | true =>
    rw [if_pos rfl]
    by_cases h0 : ids.length = 0
    · rw [if_pos (by omega)]; exact hT m (by omega)
    · rw [if_neg (by omega), h2 m (by omega)]
      simp only [Option.bind_some]
      cases c2 with
      | false => exact hT m (by omega)
      | true => exact h4 rfl h0 rfl m (by omega)
theorem FnTriePrefixes (x0 : List ByteArray) (x1 : List Int) (x2 : ByteArray) (g0 : x0.length ≤ 9223372036854775807 ∧ ∀ y0 ∈ x0, y0.size ≤ 9223372036854775807) (g1 : x1.length ≤ 9223372036854775807 ∧ ∀ y0 ∈ x1, (Lit.int .i64 y0).wf = true) (g2 : x2.size ≤ 9223372036854775807) : ∃ k, laws_FnTriePrefixes.f k x0 x1 x2 = some true := by
  obtain ⟨b, ⟨K, hK⟩, hb⟩ := fit4 x0
  dsimp only at hK
  have hT : ∀ k, 1 ≤ k → laws_FnTriePrefixes.j0 k x0 x1 x2 true = some true := fun k hk => by
    obtain ⟨m, rfl⟩ : ∃ m, k = m + 1 := ⟨k - 1, by omega⟩
    simp only [laws_FnTriePrefixes.j0]; rw [if_pos trivial]
  cases b with
  | false =>
    refine ⟨max K 1, ?_⟩
    simp only [laws_FnTriePrefixes.f]
    rw [hK _ (by omega)]
    simp only [Option.bind_some]
    rw [if_neg (by simp)]
    exact hT _ (by omega)
  | true =>
    by_cases h1 : (x1.length : Int) > 2147483647
    · refine ⟨max K 1, ?_⟩
      simp only [laws_FnTriePrefixes.f]
      rw [hK _ (by omega)]
      simp only [Option.bind_some]
      rw [if_pos trivial, if_pos h1]
      exact hT _ (by omega)
    · by_cases h2 : (x2.size : Int) > 2147483647
      · refine ⟨max K 1, ?_⟩
        simp only [laws_FnTriePrefixes.f]
        rw [hK _ (by omega)]
        simp only [Option.bind_some]
        rw [if_pos trivial, if_neg h1, decide_eq_true h2]
        exact hT _ (by omega)
      · obtain ⟨K2, hK2⟩ := tp_j0 x0 x1 x2 (hb rfl) (by omega)
        refine ⟨max K K2, ?_⟩
        simp only [laws_FnTriePrefixes.f]
        rw [hK _ (by omega)]
        simp only [Option.bind_some]
        rw [if_pos trivial, if_neg h1, decide_eq_false h2]
        exact hK2 _ (by omega)
end Go.Proofs.Ytddcjmdcpkmnjaa.Pure
