/- The common prefixes of a text's beginning are those of the text that it is long enough for: for every list of words, text and place. No condition. -/
import Derived.Test.YtddcjmdcpkmnjaaTrPl2
import Derived.Test.YtddcjmdcpkmnjaaP5
set_option linter.unusedVariables false
namespace Go.Proofs.Ytddcjmdcpkmnjaa.Pure
open Go.RowKit Go.Proofs.YtddcjmdcpkmnjaaW.PrintWords Go.Proofs.YtddcjmdcpkmnjaaW.PrintLast Go.Proofs.YtddcjmdcpkmnjaaW.PrintMore Go.Proofs.Ytddcjmdcpkmnjaa.P Go.Proofs.Ytddcjmdcpkmnjaa.X Go.Proofs.Ytddcjmdcpkmnjaa.Da
theorem pc_end (a c d : List Int) (n : Nat) (b1 b2 : List Int) (hl : a.length = (b1 ++ b2).length) (hbig : a.length ≤ 1000000) (h2 : ∀ x ∈ b2, (n : Int) < x) (hc : c = a.take b1.length) (hd : d = b1) : ∃ K, ∀ k, K ≤ k → laws_FnPrefixesCut.l0 k (n : Int) a (b1 ++ b2) true c d true (b1.length : Int) = some true := by
  have hlb : (b1 ++ b2).length = b1.length + b2.length := List.length_append
  obtain ⟨K1, h3⟩ := sameInts_same c (by rw [hc, List.length_take]; omega)
  obtain ⟨K2, h4⟩ := sameInts_same d (by rw [hd]; omega)
  dsimp only at h3 h4
  refine ⟨max K1 K2 + 1, fun k hk => ?_⟩
  obtain ⟨m, rfl⟩ : ∃ m, k = m + 1 := ⟨k - 1, by omega⟩
  have e1 : a.take (b1.length : Int).toNat = c := by rw [hc]; rfl
  have e2 : (b1 ++ b2).take (b1.length : Int).toNat = d := by rw [hd]; simp
  simp only [laws_FnPrefixesCut.l0]
  by_cases hlt : (b1.length : Int) < ((b1 ++ b2).length : Int)
  · have hr : Go.Proofs.YtddcjmdcpkmnjaaW.PrintWords.rd (b1 ++ b2) (b1.length : Int) = (b1 ++ b2)[b1.length]'(by omega) := rd_nat _ _ (by omega)
    have hm : n < (b1 ++ b2)[b1.length]'(by omega) := by
      rw [List.getElem_append_right (Nat.le_refl _)]
      exact h2 _ (List.getElem_mem _)
    rw [if_pos hlt, if_pos (by omega), hr, if_neg (by omega), if_pos trivial, if_pos trivial, if_pos (by omega), e1, h3 m (by omega)]
    simp only [Option.bind_some]
    rw [if_pos trivial, if_pos (by omega), e2, h4 m (by omega)]
    rfl
  · rw [if_neg hlt, if_pos trivial, if_pos trivial, if_pos (by omega), if_pos (by omega), e1, h3 m (by omega)]
    simp only [Option.bind_some]
    rw [if_pos trivial, if_pos (by omega), e2, h4 m (by omega)]
    rfl
theorem pc_l0 (a c d : List Int) (n : Nat) (b1 b2 : List Int) (hl : a.length = (b1 ++ b2).length) (hbig : a.length ≤ 1000000) (h1 : ∀ x ∈ b1, x ≤ (n : Int)) (h2 : ∀ x ∈ b2, (n : Int) < x) (hc : c = a.take b1.length) (hd : d = b1) (q : Nat) : ∀ i : Nat, i + q = b1.length → ∃ K, ∀ k, K ≤ k → laws_FnPrefixesCut.l0 k (n : Int) a (b1 ++ b2) true c d true (i : Int) = some true := by
  have hlb : (b1 ++ b2).length = b1.length + b2.length := List.length_append
  induction q with
  | zero =>
    intro i hi
    obtain rfl : i = b1.length := by omega
    exact pc_end a c d n b1 b2 hl hbig h2 hc hd
  | succ q ih =>
    intro i hi
    obtain ⟨K, hK⟩ := ih (i + 1) (by omega)
    refine ⟨K + 1, fun k hk => ?_⟩
    obtain ⟨m, rfl⟩ : ∃ m, k = m + 1 := ⟨k - 1, by omega⟩
    have hr : Go.Proofs.YtddcjmdcpkmnjaaW.PrintWords.rd (b1 ++ b2) (i : Int) = (b1 ++ b2)[i]'(by omega) := rd_nat _ _ (by omega)
    have hm : (b1 ++ b2)[i]'(by omega) ≤ n := by
      rw [List.getElem_append_left (by omega)]
      exact h1 _ (List.getElem_mem _)
    simp only [laws_FnPrefixesCut.l0]
    rw [if_pos (by omega), if_pos (by omega), hr, if_pos hm, wr1 (by omega) (by omega)]
    exact hK m (by omega)
theorem pc_t (kw : List ByteArray) (s : ByteArray) (a : Int) : ∀ k, 1 ≤ k → laws_FnPrefixesCut.j1 k kw s a true = some true := fun k hk => by
  obtain ⟨m, rfl⟩ : ∃ m, k = m + 1 := ⟨k - 1, by omega⟩
  simp only [laws_FnPrefixesCut.j1]; rw [if_pos trivial]
theorem pc_j1 (kw : List ByteArray) (s : ByteArray) (n : Nat) (hf : X.Fair kw []) (hs : Clean1 80 s) (hn : n ≤ s.size) : ∃ K, ∀ k, K ≤ k → laws_FnPrefixesCut.j1 k kw s (n : Int) false = some true := by
  have hz := hs.1
  have hcz : (s.extract 0 n).size = n := by rw [ByteArray.size_extract]; omega
  obtain ⟨r, K1, h1⟩ := signs_ev (s.extract 0 n) (by omega)
  dsimp only at h1
  obtain ⟨K2, h2⟩ := numbered_ev kw.length (by have := hf.most; omega)
  have hfn := hf.numbered
  have hp1 := prefixes_ok kw (Da.nums kw.length) s hfn (textB_of hs)
  have hp2 := prefixes_ok kw (Da.nums kw.length) (s.extract 0 n) hfn (textB_cut (textB_of hs) n hn)
  rw [idsOr_nums hf.pos] at hp1 hp2
  rw [hcz, pfx_cut kw _ s n hn n (Nat.le_refl _)] at hp2
  obtain ⟨q, q1, q2⟩ := pfx_parts kw (Da.nums kw.length) s n (s.size - n)
  rw [show n + (s.size - n) = s.size by omega] at q1
  have hpl := pfx_len kw (Da.nums kw.length) s s.size
  rw [q1, List.map_append, List.map_append] at hp1
  obtain ⟨K3, h3⟩ := pc_l0 ((pfx kw (Da.nums kw.length) s n).map (·.1) ++ q.map (·.1)) ((pfx kw (Da.nums kw.length) s n).map (·.1)) ((pfx kw (Da.nums kw.length) s n).map (·.2)) n ((pfx kw (Da.nums kw.length) s n).map (·.2)) (q.map (·.2)) (by simp) (by
      have := congrArg List.length q1
      rw [List.length_append] at this
      rw [List.length_append, List.length_map, List.length_map]
      omega) (fun x hx => by
      obtain ⟨y, hy, rfl⟩ := List.mem_map.1 hx
      exact (pfx_lens kw _ s n y hy).2) (fun x hx => by
      obtain ⟨y, hy, rfl⟩ := List.mem_map.1 hx
      exact q2 y hy) (by simp) rfl ((pfx kw (Da.nums kw.length) s n).map (·.2)).length 0 (by omega)
  refine ⟨max K1 (max K2 K3) + 1, fun k hk => ?_⟩
  obtain ⟨m, rfl⟩ : ∃ m, k = m + 1 := ⟨k - 1, by omega⟩
  simp only [laws_FnPrefixesCut.j1]
  rw [if_neg (by simp), if_pos (by omega), if_pos (by omega), show ((n : Int)).toNat = n from rfl, h1 m (by omega)]
  simp only [Option.bind_some]
  by_cases hr : r.2 = true
  · rw [if_pos hr, h2 m (by omega)]
    simp only [Option.bind_some]
    rw [hp1]
    simp only [Option.bind_some]
    rw [hp2]
    simp only [Option.bind_some]
    exact h3 m (by omega)
  · rw [if_neg hr]
theorem pc_j0 (kw : List ByteArray) (s : ByteArray) (a : Int) (hf : Fit4 kw) (hs : s.size ≤ 2147483647) : ∃ K, ∀ k, K ≤ k → laws_FnPrefixesCut.j0 k kw s a false = some true := by
  obtain ⟨c1, ⟨K1, h1⟩, g1⟩ := fair_ev kw [] hf
  obtain ⟨c2, ⟨K2, h2⟩, g2⟩ := clean_ev 80 [s] ⟨by simp, by simpa using hs⟩
  dsimp only at h1 h2
  have hT := pc_t kw s a
  have key : ∃ K, c1 = true → c2 = true → 0 ≤ a → a ≤ s.size → ∀ k, K ≤ k → laws_FnPrefixesCut.j1 k kw s a false = some true := by
    by_cases hx : c1 = true ∧ c2 = true ∧ 0 ≤ a ∧ a ≤ s.size
    · obtain ⟨a1, a2, a3, a4⟩ := hx
      obtain ⟨n, rfl⟩ := Int.eq_ofNat_of_zero_le a3
      obtain ⟨K, h⟩ := pc_j1 kw s n (g1 a1) (g2 a2 s (by simp)).1 (by omega)
      exact ⟨K, fun _ _ _ _ => h⟩
    · exact ⟨0, fun a b c d => absurd ⟨a, b, c, d⟩ hx⟩
  obtain ⟨K3, h3⟩ := key
  refine ⟨max (max K1 K2) (max K3 1) + 1, fun k hk => ?_⟩
  obtain ⟨m, rfl⟩ : ∃ m, k = m + 1 := ⟨k - 1, by omega⟩
  simp only [laws_FnPrefixesCut.j0]
  rw [if_neg (by simp), finds_f]
  simp only [Option.bind_some]
  rw [if_pos trivial, h1 m (by omega)]
  simp only [Option.bind_some]
  cases c1 with
  | false => rw [if_neg (by simp)]; exact hT m (by omega)
  | true =>
    rw [if_pos rfl, h2 m (by omega)]
    simp only [Option.bind_some]
    cases c2 with
    | false => rw [if_neg (by simp)]; exact hT m (by omega)
    | true =>
      rw [if_pos rfl]
      by_cases ha : a < 0
      · rw [if_pos ha]; exact hT m (by omega)
      · rw [if_neg ha]
        by_cases hb : a > (s.size : Int)
        · rw [decide_eq_true hb]; exact hT m (by omega)
        · rw [decide_eq_false hb]; exact h3 rfl rfl (by omega) (by omega) m (by omega)
theorem FnPrefixesCut (x0 : List ByteArray) (x1 : ByteArray) (x2 : Int) (g0 : x0.length ≤ 9223372036854775807 ∧ ∀ y0 ∈ x0, y0.size ≤ 9223372036854775807) (g1 : x1.size ≤ 9223372036854775807) (g2 : (Lit.int .i64 x2).wf = true) : ∃ k, laws_FnPrefixesCut.f k x0 x1 x2 = some true := by
  obtain ⟨b, ⟨K, hK⟩, hb⟩ := fit4 x0
  dsimp only at hK
  have hT : ∀ k, 1 ≤ k → laws_FnPrefixesCut.j0 k x0 x1 x2 true = some true := fun k hk => by
    obtain ⟨m, rfl⟩ : ∃ m, k = m + 1 := ⟨k - 1, by omega⟩
    simp only [laws_FnPrefixesCut.j0]; rw [if_pos trivial]
  cases b with
  | false =>
    refine ⟨max K 1, ?_⟩
    simp only [laws_FnPrefixesCut.f]
    rw [hK _ (by omega)]
    simp only [Option.bind_some]
    rw [if_neg (by simp)]
    exact hT _ (by omega)
  | true =>
    by_cases h2 : (x1.size : Int) > 2147483647
    · refine ⟨max K 1, ?_⟩
      simp only [laws_FnPrefixesCut.f]
      rw [hK _ (by omega)]
      simp only [Option.bind_some]
      rw [if_pos trivial, decide_eq_true h2]
      exact hT _ (by omega)
    · obtain ⟨K2, hK2⟩ := pc_j0 x0 x1 x2 (hb rfl) (by omega)
      refine ⟨max K K2, ?_⟩
      simp only [laws_FnPrefixesCut.f]
      rw [hK _ (by omega)]
      simp only [Option.bind_some]
      rw [if_pos trivial, decide_eq_false h2]
      exact hK2 _ (by omega)
end Go.Proofs.Ytddcjmdcpkmnjaa.Pure
