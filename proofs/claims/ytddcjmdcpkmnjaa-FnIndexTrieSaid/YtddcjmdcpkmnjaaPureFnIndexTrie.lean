/- An index and a double array of the same sorted words, each once, find the same: for every list of words and text. No condition. -/
import Derived.Test.YtddcjmdcpkmnjaaTrPl3
import Derived.Test.YtddcjmdcpkmnjaaP8
set_option linter.unusedVariables false
namespace Go.Proofs.Ytddcjmdcpkmnjaa.Pure
open Go.RowKit Go.Proofs.YtddcjmdcpkmnjaaW.PrintWords Go.Proofs.YtddcjmdcpkmnjaaW.PrintLast Go.Proofs.YtddcjmdcpkmnjaaW.PrintMore Go.Proofs.Ytddcjmdcpkmnjaa.P Go.Proofs.Ytddcjmdcpkmnjaa.X Go.Proofs.Ytddcjmdcpkmnjaa.Da
theorem nums_id {kw : List ByteArray} {u : ByteArray} (h : u ∈ kw) : idOf kw (Da.nums kw.length) u = (kw.idxOf u : Int) + 1 := by
  unfold idOf Da.nums
  rw [List.getD_eq_getElem?_getD, List.getElem?_map, List.getElem?_range (List.idxOf_lt_length_of_mem h)]; rfl
theorem pfx_nums (kw : List ByteArray) (s : ByteArray) : ∀ t, pfx kw (Da.nums kw.length) s t = (pfx kw (iota kw.length) s t).map (fun x => (x.1 + 1, x.2)) := by
  intro t
  induction t with
  | zero => rw [pfx_zero, pfx_zero]; rfl
  | succ t ih =>
    by_cases h : s.extract 0 (t + 1) ∈ kw
    · have e1 := pfx_hit (kw := kw) (ids := Da.nums kw.length) h
      have e2 := pfx_hit (kw := kw) (ids := iota kw.length) h
      rw [nums_id h] at e1
      rw [iota_id h] at e2
      rw [e1, e2, ih, List.map_append]
      rfl
    · have e1 := pfx_miss (kw := kw) (ids := Da.nums kw.length) h
      have e2 := pfx_miss (kw := kw) (ids := iota kw.length) h
      rw [e1, e2, ih]
theorem span_one {kw : List ByteArray} (hn : kw.Nodup) {id : Int} (h : IdOk kw id) : span kw id = [id] := by
  have h1 := h.cnt
  have h2 : cntAt kw id ≤ 1 := by
    unfold cntAt
    exact List.nodup_iff_count.1 hn _
  have h3 : cntAt kw id = 1 := by omega
  unfold span
  rw [h3]
  simp [List.range_succ]
theorem it_l0 (kw : List ByteArray) (hn : kw.Nodup) (P : List (Int × Int)) (hP : ∀ x ∈ P, IdOk kw x.1) (hl : P.length ≤ 1000) (h30 : kw.length ≤ 30) (d : Nat) : ∀ i : Nat, i + d = P.length → ∃ K, ∀ k, K ≤ k → laws_FnIndexTrie.l0 k (spans kw P) ((P.map (fun x => (x.1 + 1, x.2))).map (·.1)) (((P.map (fun x => (x.1 + 1, x.2))).map (·.1)).length : Int) (i : Int) = some true := by
  have hlen : ((P.map (fun x => (x.1 + 1, x.2))).map (·.1)).length = P.length := by rw [List.length_map, List.length_map]
  have hsl : (spans kw P).length = P.length := by unfold spans; rw [List.length_map]
  induction d with
  | zero => intro i hi; exact ⟨1, fun k hk => by
      obtain ⟨m, rfl⟩ : ∃ m, k = m + 1 := ⟨k - 1, by omega⟩
      simp only [laws_FnIndexTrie.l0]
      rw [if_neg (by omega)]⟩
  | succ d ih =>
    intro i hi
    obtain ⟨K, hK⟩ := ih (i + 1) (by omega)
    have hlt : i < P.length := by omega
    have hid := hP _ (List.getElem_mem hlt)
    have hc := hid.cnt
    have hr3 : rd_L3 (spans kw P) (i : Int) = [P[i].1] := by
      rw [rdL_nat _ _ (by omega)]
      unfold spans
      rw [List.getElem_map, span_one hn hid]
    have hr : Go.Proofs.YtddcjmdcpkmnjaaW.PrintWords.rd ((P.map (fun x => (x.1 + 1, x.2))).map (·.1)) (i : Int) = P[i].1 + 1 := by
      rw [rd_nat _ _ (by omega), List.getElem_map, List.getElem_map]
    have hr0 : Go.Proofs.YtddcjmdcpkmnjaaW.PrintWords.rd [P[i].1] 0 = P[i].1 := rfl
    have hw : wrap64 (P[i].1 + 1 - 1) = P[i].1 := by unfold wrap64; omega
    refine ⟨K + 1, fun k hk => ?_⟩
    obtain ⟨m, rfl⟩ : ∃ m, k = m + 1 := ⟨k - 1, by omega⟩
    simp only [laws_FnIndexTrie.l0]
    rw [if_pos (by omega), if_pos (by omega), if_pos (by omega), hr3, if_pos (by simp), if_pos (by simp), if_pos (by omega), hr, hr0, hw, if_pos rfl, wr1 (by omega) (by omega)]
    exact hK m (by omega)
theorem it_t (kw : List ByteArray) (s : ByteArray) : ∀ k, 1 ≤ k → laws_FnIndexTrie.j1 k kw s true = some true := fun k hk => by
  obtain ⟨m, rfl⟩ : ∃ m, k = m + 1 := ⟨k - 1, by omega⟩
  simp only [laws_FnIndexTrie.j1]; rw [if_pos trivial]
theorem it_j2 (kw : List ByteArray) (s : ByteArray) (hf : X.Fair kw []) (hg : goodIB kw) (hs : Clean1 80 s) : ∃ K, ∀ k, K ≤ k → laws_FnIndexTrie.j2 k kw s false = some true := by
  have hz := hs.1
  have hfn := hf.numbered
  have hp1 : impl_IndexPrefixes.f kw s = some ((pfx kw (iota kw.length) s s.size).map (·.2), spans kw (pfx kw (iota kw.length) s s.size), true) := if_pos ⟨hg, textB_of hs⟩
  have hp2 := prefixes_ok kw (Da.nums kw.length) s hfn (textB_of hs)
  rw [idsOr_nums hf.pos, pfx_nums] at hp2
  obtain ⟨P, hP⟩ : ∃ P, P = pfx kw (iota kw.length) s s.size := ⟨_, rfl⟩
  have hpl : P.length ≤ 1000 := by rw [hP]; have := pfx_len kw (iota kw.length) s s.size; omega
  have hpo : ∀ x ∈ P, IdOk kw x.1 := by rw [hP]; exact pfx_ok_id
  rw [← hP] at hp1 hp2
  have hsn : (P.map (fun x => (x.1 + 1, x.2))).map (·.2) = P.map (·.2) := by rw [List.map_map]; rfl
  rw [hsn] at hp2
  obtain ⟨K1, h1⟩ := numbered_ev kw.length (by have := hf.most; omega)
  obtain ⟨K2, h2⟩ := sameInts_same (P.map (·.2)) (by rw [List.length_map]; omega)
  obtain ⟨K3, h3⟩ := it_l0 kw hf.nd P hpo hpl hf.most P.length 0 (by omega)
  dsimp only at h2
  refine ⟨max K1 (max K2 K3) + 3, fun k hk => ?_⟩
  obtain ⟨m, rfl⟩ : ∃ m, k = m + 2 := ⟨k - 2, by omega⟩
  simp only [laws_FnIndexTrie.j2]
  rw [if_neg (by simp), hp1]
  simp only [Option.bind_some]
  rw [h1 (m + 1) (by omega)]
  simp only [Option.bind_some]
  rw [hp2]
  simp only [Option.bind_some]
  rw [if_pos trivial, if_pos trivial, h2 (m + 1) (by omega)]
  simp only [Option.bind_some]
  rw [if_pos trivial, show (((spans kw P).length : Int) != (((P.map (fun x => (x.1 + 1, x.2))).map (·.1)).length : Int)) = false from bne_eq_false_iff_eq.2 (by unfold spans; rw [List.length_map, List.length_map, List.length_map])]
  simp only [laws_FnIndexTrie.j3]
  rw [if_neg (by simp)]
  exact h3 m (by omega)
theorem it_j1 (kw : List ByteArray) (s : ByteArray) (hf : X.Fair kw []) (hg : goodIB kw) (hs : Clean1 80 s) (ha : s ∉ kw → ∀ u ∈ kw, ¬ pre s s.size u) : ∃ K, ∀ k, K ≤ k → laws_FnIndexTrie.j1 k kw s false = some true := by
  obtain ⟨K1, h1⟩ := numbered_ev kw.length (by have := hf.most; omega)
  obtain ⟨K2, h2⟩ := it_j2 kw s hf hg hs
  have hf1 : impl_IndexSearch.f kw s = some (isearch kw s, true) := if_pos ⟨hg, textB_of hs⟩
  have hf2 := find_ok kw (Da.nums kw.length) s hf.numbered (textB_of hs)
  rw [idsOr_nums hf.pos] at hf2
  refine ⟨max K1 K2 + 1, fun k hk => ?_⟩
  obtain ⟨m, rfl⟩ : ∃ m, k = m + 1 := ⟨k - 1, by omega⟩
  simp only [laws_FnIndexTrie.j1]
  rw [if_neg (by simp), hf1]
  simp only [Option.bind_some]
  rw [h1 m (by omega)]
  simp only [Option.bind_some]
  rw [hf2]
  simp only [Option.bind_some]
  by_cases hm : s ∈ kw
  · have hz := hf.ne s hm
    have hfd : find kw (Da.nums kw.length) s = ((kw.idxOf s : Int) + 1, true) := by
      unfold find
      rw [if_neg (by omega), if_pos hm, nums_id hm]
    have hfi : find kw (iota kw.length) s = ((kw.idxOf s : Int), true) := by
      unfold find
      rw [if_neg (by omega), if_pos hm, iota_id hm]
    have hse : isearch kw s = [(kw.idxOf s : Int)] := by
      unfold isearch
      rw [hfi]
      exact span_one hf.nd ⟨s, hm, rfl⟩
    have hlx := List.idxOf_lt_length_of_mem hm
    have hmost := hf.most
    have hw : wrap64 ((kw.idxOf s : Int) + 1 - 1) = (kw.idxOf s : Int) := by unfold wrap64; omega
    rw [hfd, hse]
    rw [if_pos trivial, if_pos trivial, if_neg (by simp), if_pos rfl, if_pos (by simp)]
    dsimp only
    rw [hw, show Go.Proofs.YtddcjmdcpkmnjaaW.PrintWords.rd [(kw.idxOf s : Int)] 0 = (kw.idxOf s : Int) from rfl, show ((kw.idxOf s : Int) != (kw.idxOf s : Int)) = false from bne_eq_false_iff_eq.2 rfl]
    exact h2 m (by omega)
  · have hno : ∀ ids, find kw ids s = (0, false) := fun ids => by
      unfold find
      by_cases hz : s.size = 0
      · rw [if_pos hz]
      · rw [if_neg hz, if_neg hm]
        have : (kw.any fun u => decide (pre s s.size u)) = false := by
          rw [List.any_eq_false]
          intro u hu
          simpa using ha hm u hu
        rw [this]
    have hse : isearch kw s = [] := by
      unfold isearch
      rw [hno]
      rfl
    rw [hno, hse]
    rw [if_pos trivial, if_pos trivial, if_neg (by simp), if_neg (by simp)]
    exact h2 m (by omega)
theorem it_j0 (kw : List ByteArray) (s : ByteArray) (hf : Fit4 kw) (hs : s.size ≤ 2147483647) : ∃ K, ∀ k, K ≤ k → laws_FnIndexTrie.j0 k kw s false = some true := by
  obtain ⟨c1, ⟨K1, h1⟩, g1⟩ := fair_ev kw [] hf
  obtain ⟨c2, ⟨K2, h2⟩, g2⟩ := rising_ev kw hf
  obtain ⟨c3, ⟨K3, h3⟩, g3⟩ := clean_ev 80 [s] ⟨by simp, by simpa using hs⟩
  obtain ⟨c4, ⟨K4, h4⟩, _, g4⟩ := ahead_ev kw s hf.1
  dsimp only at h1 h2 h3 h4
  have hT := it_t kw s
  have key : ∃ K, c1 = true → c2 = true → c3 = true → c4 = false → ∀ k, K ≤ k → laws_FnIndexTrie.j1 k kw s false = some true := by
    by_cases hx : c1 = true ∧ c2 = true ∧ c3 = true ∧ c4 = false
    · obtain ⟨K, h⟩ := it_j1 kw s (g1 hx.1) (g2 hx.2.1) (g3 hx.2.2.1 s (by simp)).1 (g4 hx.2.2.2)
      exact ⟨K, fun _ _ _ _ => h⟩
    · exact ⟨0, fun a b c d => absurd ⟨a, b, c, d⟩ hx⟩
  obtain ⟨K5, h5⟩ := key
  refine ⟨max (max K1 K2) (max (max K3 K4) (max K5 1)) + 1, fun k hk => ?_⟩
  obtain ⟨m, rfl⟩ : ∃ m, k = m + 1 := ⟨k - 1, by omega⟩
  simp only [laws_FnIndexTrie.j0]
  rw [if_neg (by simp), finds_f]
  simp only [Option.bind_some]
  rw [if_pos trivial, h1 m (by omega)]
  simp only [Option.bind_some]
  cases c1 with
  | false => rw [if_neg (by simp)]; exact hT m (by omega)
  | true =>
    rw [if_pos rfl, h2 m (by omega)]
    simp only [Option.bind_some]
    cases c2 with
    | false => rw [if_neg (by simp)]; exact hT m (by omega)
    | true =>
      rw [if_pos rfl, h3 m (by omega)]
      simp only [Option.bind_some]
      cases c3 with
      | false => rw [if_neg (by simp)]; exact hT m (by omega)
      | true =>
        rw [if_pos rfl, h4 m (by omega)]
        simp only [Option.bind_some]
        cases c4 with
        | true => exact hT m (by omega)
        | false => exact h5 rfl rfl rfl rfl m (by omega)
theorem FnIndexTrie (x0 : List ByteArray) (x1 : ByteArray) (g0 : x0.length ≤ 9223372036854775807 ∧ ∀ y0 ∈ x0, y0.size ≤ 9223372036854775807) (g1 : x1.size ≤ 9223372036854775807) : ∃ k, laws_FnIndexTrie.f k x0 x1 = some true := by
  obtain ⟨b, ⟨K, hK⟩, hb⟩ := fit4 x0
  dsimp only at hK
  have hT : ∀ k, 1 ≤ k → laws_FnIndexTrie.j0 k x0 x1 true = some true := fun k hk => by
    obtain ⟨m, rfl⟩ : ∃ m, k = m + 1 := ⟨k - 1, by omega⟩
    simp only [laws_FnIndexTrie.j0]; rw [if_pos trivial]
  cases b with
  | false =>
    refine ⟨max K 1, ?_⟩
    simp only [laws_FnIndexTrie.f]
    rw [hK _ (by omega)]
    simp only [Option.bind_some]
    rw [if_neg (by simp)]
    exact hT _ (by omega)
  | true =>
    by_cases h2 : (x1.size : Int) > 2147483647
    · refine ⟨max K 1, ?_⟩
      simp only [laws_FnIndexTrie.f]
      rw [hK _ (by omega)]
      simp only [Option.bind_some]
      rw [if_pos trivial, decide_eq_true h2]
      exact hT _ (by omega)
    · obtain ⟨K2, hK2⟩ := it_j0 x0 x1 (hb rfl) (by omega)
      refine ⟨max K K2, ?_⟩
      simp only [laws_FnIndexTrie.f]
      rw [hK _ (by omega)]
      simp only [Option.bind_some]
      rw [if_pos trivial, decide_eq_false h2]
      exact hK2 _ (by omega)
end Go.Proofs.Ytddcjmdcpkmnjaa.Pure
