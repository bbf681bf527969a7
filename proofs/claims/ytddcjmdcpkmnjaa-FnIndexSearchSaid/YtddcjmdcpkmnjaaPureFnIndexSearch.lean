/- An index of sorted words tells all places of a word: for every list of words and text. No condition. -/
import Derived.Test.YtddcjmdcpkmnjaaTrPl2
import Derived.Test.YtddcjmdcpkmnjaaMIx
import Derived.Test.YtddcjmdcpkmnjaaP20
import Derived.Test.YtddcjmdcpkmnjaaP22
import Derived.Test.YtddcjmdcpkmnjaaP6
set_option linter.unusedVariables false
namespace Go.Proofs.Ytddcjmdcpkmnjaa.X
open Go.RowKit Go.Proofs.YtddcjmdcpkmnjaaW.PrintWords Go.Proofs.YtddcjmdcpkmnjaaW.PrintLast Go.Proofs.YtddcjmdcpkmnjaaW.PrintMore Go.Proofs.Ytddcjmdcpkmnjaa.P Go.Proofs.Ytddcjmdcpkmnjaa.Da
/-- The places of u in l, counted from o on. -/
def pl (u : ByteArray) : List ByteArray → Int → List Int
  | [], _ => []
  | x :: xs, o => if x = u then o :: pl u xs (o + 1) else pl u xs (o + 1)
theorem pl_none (u : ByteArray) : ∀ (l : List ByteArray) (o : Int), u ∉ l → pl u l o = [] := by
  intro l
  induction l with
  | nil => intro o _; rfl
  | cons x xs ih =>
    intro o h
    unfold pl
    rw [if_neg (fun e => h (by rw [e]; simp)), ih _ (fun g => h (List.mem_cons_of_mem _ g))]
theorem pl_some (u : ByteArray) : ∀ (l : List ByteArray) (o : Int), Srt l → u ∈ l → pl u l o = (List.range (l.count u)).map (fun i : Nat => o + (l.idxOf u : Int) + (i : Int)) := by
  intro l
  induction l with
  | nil => intro o _ h; cases h
  | cons x xs ih =>
    intro o hs hm
    have hs1 : Srt xs := (List.pairwise_cons.1 hs).2
    have hs2 := (List.pairwise_cons.1 hs).1
    unfold pl
    by_cases e : x = u
    · rw [if_pos e]
      subst e
      by_cases hx : x ∈ xs
      · have h0 : xs.idxOf x = 0 := by
          cases xs with
          | nil => cases hx
          | cons y ys =>
            have hxy := hs2 y (by simp)
            have hyx : y.data.toList ≤ x.data.toList := by
              rcases List.mem_cons.1 hx with g | g
              · rw [g]; exact Std.le_refl _
              · exact (List.pairwise_cons.1 hs1).1 x g
            have h3 : y = x := by
              have h3 := Std.le_antisymm hyx hxy
              cases x; cases y; simpa using h3
            rw [h3, List.idxOf_cons_self]
        rw [ih (o + 1) hs1 hx, h0, List.idxOf_cons_self, List.count_cons_self, List.range_succ_eq_map, List.map_cons, List.map_map]
        congr 1
        · omega
        · refine List.map_congr_left (fun i _ => ?_)
          simp only [Function.comp]
          omega
      · rw [pl_none _ _ _ hx, List.count_cons_self, List.count_eq_zero.2 hx, List.idxOf_cons_self]
        simp
    · rw [if_neg e]
      have hx : u ∈ xs := by
        rcases List.mem_cons.1 hm with g | g
        · exact absurd g.symm e
        · exact g
      have h1 : (x :: xs).count u = xs.count u := List.count_cons_of_ne e
      have h2 : (x :: xs).idxOf u = xs.idxOf u + 1 := by rw [List.idxOf_cons, beq_false_of_ne e]; rfl
      rw [ih (o + 1) hs1 hx, h1, h2]
      refine List.map_congr_left (fun i _ => ?_)
      omega
theorem span_pl {kw : List ByteArray} (hs : Srt kw) {u : ByteArray} (hu : u ∈ kw) : span kw (kw.idxOf u : Int) = pl u kw 0 := by
  rw [pl_some u kw 0 hs hu]
  unfold span cntAt
  have hl := List.idxOf_lt_length_of_mem hu
  have e : kw.getD (kw.idxOf u : Int).toNat ⟨#[]⟩ = u := by
    show kw.getD (kw.idxOf u) ⟨#[]⟩ = u
    rw [getD_at hl, List.getElem_idxOf hl]
  rw [e]
  refine List.map_congr_left (fun i _ => ?_)
  omega
theorem places_l0 (kw : List ByteArray) (u : ByteArray) (hl : kw.length ≤ 1000) (d : Nat) : ∀ (i : Nat) (acc : List Int), i + d = kw.length → acc.length ≤ i → ∃ K, ∀ k, K ≤ k → laws_places.l0 k u acc kw (kw.length : Int) (i : Int) = some (acc ++ pl u (kw.drop i) (i : Int)) := by
  induction d with
  | zero => intro i acc hi ha; exact ⟨1, fun k hk => by
      obtain ⟨m, rfl⟩ : ∃ m, k = m + 1 := ⟨k - 1, by omega⟩
      simp only [laws_places.l0]
      rw [if_neg (by omega), List.drop_eq_nil_of_le (by omega)]
      simp [pl]⟩
  | succ d ih =>
    intro i acc hi ha
    have hr := rdOf_nat ByteArray.empty kw i (by omega)
    rw [List.drop_eq_getElem_cons (show i < kw.length by omega)]
    unfold pl
    by_cases e : kw[i] = u
    · obtain ⟨K, hK⟩ := ih (i + 1) (acc ++ [(i : Int)]) (by omega) (by simp; omega)
      refine ⟨K + 1, fun k hk => ?_⟩
      obtain ⟨m, rfl⟩ : ∃ m, k = m + 1 := ⟨k - 1, by omega⟩
      simp only [laws_places.l0]
      rw [if_pos (by omega), if_pos (by omega), if_pos (by omega), hr, if_pos (by rw [e]), if_pos (by omega), wr1 (by omega) (by omega), if_pos e]
      have := hK m (by omega)
      rw [List.append_assoc] at this
      exact this
    · obtain ⟨K, hK⟩ := ih (i + 1) acc (by omega) (by omega)
      refine ⟨K + 1, fun k hk => ?_⟩
      obtain ⟨m, rfl⟩ : ∃ m, k = m + 1 := ⟨k - 1, by omega⟩
      simp only [laws_places.l0]
      rw [if_pos (by omega), if_pos (by omega), if_pos (by omega), hr, if_neg (fun g => e (toList_inj g)), wr1 (by omega) (by omega), if_neg e]
      exact hK m (by omega)
theorem places_ev (kw : List ByteArray) (u : ByteArray) (hl : kw.length ≤ 1000) : ∃ K, ∀ k, K ≤ k → laws_places.f k kw u = some (pl u kw 0) := by
  obtain ⟨K, hK⟩ := places_l0 kw u hl kw.length 0 [] (by omega) (Nat.le_refl _)
  exact ⟨K, fun k hk => by simp only [laws_places.f]; exact hK k hk⟩
theorem rising_l0 (kw : List ByteArray) (hl : kw.length ≤ 30) (d : Nat) : ∀ i : Nat, i + d = kw.length → ∃ c, Ev (fun k => laws_rising.l0 k kw kw (kw.length : Int) (i : Int)) c ∧ (c = true → ∀ x, i ≤ x → ∀ h : x < kw.length, 0 < kw[x].size ∧ (∀ h0 : 0 < x, (kw[x - 1]'(by omega)).data.toList ≤ kw[x].data.toList)) := by
  induction d with
  | zero => intro i hi; exact ⟨true, ev1 0 fun k _ => by simp only [laws_rising.l0]; rw [if_neg (by omega)], fun _ x h1 h2 => by omega⟩
  | succ d ih =>
    intro i hi
    have hr := rdOf_nat ByteArray.empty kw i (by omega)
    by_cases he : kw[i].toList = ([] : List UInt8)
    · exact ⟨false, ev1 0 fun k _ => by simp only [laws_rising.l0]; rw [if_pos (by omega), if_pos (by omega), if_pos (by omega), hr, if_pos he], fun h => by cases h⟩
    · have hz : 0 < kw[i].size := by
        rcases Nat.eq_zero_or_pos kw[i].size with g | g
        · exact absurd (bytes_nil.2 g) he
        · exact g
      obtain ⟨c, ⟨K, hK⟩, hc⟩ := ih (i + 1) (by omega)
      dsimp only at hK
      by_cases h0 : 0 < i
      · have hw : wrap64 ((i : Int) - 1) = ((i - 1 : Nat) : Int) := by unfold wrap64; omega
        have hr1 := rdOf_nat ByteArray.empty kw (i - 1) (by omega)
        have hb : Op.bytesLess kw[i].toList (kw[i - 1]'(by omega)).toList = decide (kw[i].data.toList < (kw[i - 1]'(by omega)).data.toList) := by
          simp [Go.ByteArray.toList_eq, Go.Proofs.bytesLess_eq]
        by_cases hlt : kw[i].data.toList < (kw[i - 1]'(by omega)).data.toList
        · exact ⟨false, ev1 0 fun k _ => by simp only [laws_rising.l0]; rw [if_pos (by omega), if_pos (by omega), if_pos (by omega), hr, if_neg he, if_pos (by omega), hw, if_pos (by omega), if_pos (by omega), hr1, hb, decide_eq_true hlt]; rfl, fun h => by cases h⟩
        · refine ⟨c, ev1 K fun k hk => by simp only [laws_rising.l0]; rw [if_pos (by omega), if_pos (by omega), if_pos (by omega), hr, if_neg he, if_pos (by omega), hw, if_pos (by omega), if_pos (by omega), hr1, hb, decide_eq_false hlt, if_neg (by simp), wr1 (by omega) (by omega)]; exact hK k hk, fun h x hx hx2 => ?_⟩
          by_cases e : x = i
          · subst e; exact ⟨hz, fun _ => List.not_lt.1 hlt⟩
          · exact hc h x (by omega) hx2
      · refine ⟨c, ev1 K fun k hk => by simp only [laws_rising.l0]; rw [if_pos (by omega), if_pos (by omega), if_pos (by omega), hr, if_neg he, if_neg (by omega), wr1 (by omega) (by omega)]; exact hK k hk, fun h x hx hx2 => ?_⟩
        by_cases e : x = i
        · subst e; exact ⟨hz, fun g => by omega⟩
        · exact hc h x (by omega) hx2
theorem rising_ev (kw : List ByteArray) (hf : Fit4 kw) : ∃ c, Ev (fun k => laws_rising.f k kw) c ∧ (c = true → goodIB kw) := by
  have hT : ∀ k, 1 ≤ k → laws_rising.j0 k kw true = some false := fun k hk => by
    obtain ⟨m, rfl⟩ : ∃ m, k = m + 1 := ⟨k - 1, by omega⟩
    simp only [laws_rising.j0]; rw [if_pos trivial]
  by_cases h0 : (kw.length : Int) = 0
  · exact ⟨false, ⟨1, fun k hk => by simp only [laws_rising.f]; rw [if_pos h0]; exact hT k hk⟩, fun h => by cases h⟩
  · by_cases h30 : (kw.length : Int) > 30
    · exact ⟨false, ⟨1, fun k hk => by simp only [laws_rising.f]; rw [if_neg h0, if_pos h30]; exact hT k hk⟩, fun h => by cases h⟩
    · obtain ⟨c, ⟨K2, hK2⟩, hc⟩ := clean_ev 40 kw hf
      dsimp only at hK2
      cases c with
      | false => exact ⟨false, ⟨max 1 K2, fun k hk => by simp only [laws_rising.f]; rw [if_neg h0, if_neg h30, hK2 k (by omega)]; exact hT k (by omega)⟩, fun h => by cases h⟩
      | true =>
        obtain ⟨c, ⟨K, hK⟩, hcc⟩ := rising_l0 kw (by omega) kw.length 0 (by omega)
        dsimp only at hK
        refine ⟨c, ⟨max (K + 1) K2, fun k hk => ?_⟩, fun h => ?_⟩
        · simp only [laws_rising.f]
          rw [if_neg h0, if_neg h30, hK2 k (by omega)]
          obtain ⟨m, rfl⟩ : ∃ m, k = m + 1 := ⟨k - 1, by omega⟩
          simp only [Option.bind_some, laws_rising.j0]
          rw [if_neg (by simp)]
          exact hK m (by omega)
        · have hall := hcc h
          refine ⟨by omega, by omega, Gn.srt_of kw (fun i hi => ?_), fun s hs => ?_, fun s hs => by have := (hc rfl s hs).1.1; omega, fun s hs => clean_nz (hc rfl s hs).1⟩
          · have := (hall (i + 1) (by omega) hi).2 (by omega)
            simpa using this
          · obtain ⟨x, hx, rfl⟩ := List.getElem_of_mem hs
            exact (hall x (Nat.zero_le _) hx).1
end Go.Proofs.Ytddcjmdcpkmnjaa.X
namespace Go.Proofs.Ytddcjmdcpkmnjaa.Pure
open Go.RowKit Go.Proofs.YtddcjmdcpkmnjaaW.PrintWords Go.Proofs.YtddcjmdcpkmnjaaW.PrintLast Go.Proofs.YtddcjmdcpkmnjaaW.PrintMore Go.Proofs.Ytddcjmdcpkmnjaa.P Go.Proofs.Ytddcjmdcpkmnjaa.X Go.Proofs.Ytddcjmdcpkmnjaa.Da
theorem rdL_nat (xs : List (List Int)) (i : Nat) (h : i < xs.length) : rd_L3 xs (i : Int) = xs[i] := by simp [rd_L3, h]
theorem is_l0 (kw : List ByteArray) (s : ByteArray) (hs : Srt kw) (hl : kw.length ≤ 30) (hz : s.size ≤ 1000) (P : List (Int × Int)) (hP : P = pfx kw (iota kw.length) s s.size) (d : Nat) : ∀ t : Nat, t + d = s.size → ∃ K, ∀ k, K ≤ k → laws_FnIndexSearch.l0 k kw s (P.map (·.2)) (spans kw P) ((pfx kw (iota kw.length) s t).length : Int) ((t : Int) + 1) = some true := by
  have hPl : P.length ≤ 1000 := by rw [hP]; have := pfx_len kw (iota kw.length) s s.size; omega
  induction d with
  | zero => intro t ht; exact ⟨1, fun k hk => by
      obtain ⟨m, rfl⟩ : ∃ m, k = m + 1 := ⟨k - 1, by omega⟩
      simp only [laws_FnIndexSearch.l0]
      rw [if_neg (by omega), show t = s.size by omega, ← hP, List.length_map]
      simp⟩
  | succ d ih =>
    intro t ht
    obtain ⟨K1, h1⟩ := places_ev kw (s.extract 0 (t + 1)) (by omega)
    obtain ⟨K2, h2⟩ := ih (t + 1) (by omega)
    have htl := pfx_len kw (iota kw.length) s t
    have e0 : ((t : Int) + 1).toNat = t + 1 := by omega
    by_cases h : s.extract 0 (t + 1) ∈ kw
    · have hid := iota_id h
      have hpc := pfx_hit (kw := kw) (ids := iota kw.length) h
      rw [hid] at hpc
      obtain ⟨r, hr1, hr2⟩ := pfx_parts kw (iota kw.length) s (t + 1) (s.size - (t + 1))
      rw [show t + 1 + (s.size - (t + 1)) = s.size by omega, ← hP] at hr1
      have hlt : (pfx kw (iota kw.length) s t).length < P.length := by rw [hr1, hpc]; simp
      have hat : P[(pfx kw (iota kw.length) s t).length] = ((kw.idxOf (s.extract 0 (t + 1)) : Int), (t : Int) + 1) := by
        have : P = pfx kw (iota kw.length) s t ++ (((kw.idxOf (s.extract 0 (t + 1)) : Int), (t : Int) + 1) :: r) := by rw [hr1, hpc, List.append_assoc]; rfl
        have h3 : P[(pfx kw (iota kw.length) s t).length]? = some ((kw.idxOf (s.extract 0 (t + 1)) : Int), (t : Int) + 1) := by
          conv => lhs; rw [this]
          rw [List.getElem?_append_right (Nat.le_refl _), Nat.sub_self]; rfl
        rw [List.getElem?_eq_getElem hlt] at h3
        exact Option.some.inj h3
      have hn : (pfx kw (iota kw.length) s (t + 1)).length = (pfx kw (iota kw.length) s t).length + 1 := by rw [hpc]; simp
      rw [hn] at h2
      have hsp := span_pl hs h
      have hne : (pl (s.extract 0 (t + 1)) kw 0).length ≠ 0 := by
        rw [← hsp]
        have := (IdOk.cnt ⟨_, h, rfl⟩).1
        unfold span
        rw [List.length_map, List.length_range]
        omega
      obtain ⟨K3, h3⟩ := sameInts_same (pl (s.extract 0 (t + 1)) kw 0) (by
        rw [← hsp]
        have := (IdOk.cnt ⟨_, h, rfl⟩).2.1
        unfold span
        rw [List.length_map, List.length_range]
        omega)
      dsimp only at h3
      have hr : Go.Proofs.YtddcjmdcpkmnjaaW.PrintWords.rd (P.map (·.2)) ((pfx kw (iota kw.length) s t).length : Int) = (t : Int) + 1 := by
        rw [rd_nat _ _ (by rw [List.length_map]; exact hlt), List.getElem_map, hat]
      have hr3 : rd_L3 (spans kw P) ((pfx kw (iota kw.length) s t).length : Int) = pl (s.extract 0 (t + 1)) kw 0 := by
        unfold spans
        rw [rdL_nat _ _ (by rw [List.length_map]; exact hlt), List.getElem_map, hat, hsp]
      refine ⟨max K1 (max K2 K3) + 1, fun k hk => ?_⟩
      obtain ⟨m, rfl⟩ : ∃ m, k = m + 1 := ⟨k - 1, by omega⟩
      simp only [laws_FnIndexSearch.l0]
      rw [if_pos (by omega), if_pos (by omega), e0, h1 m (by omega)]
      simp only [Option.bind_some]
      rw [if_neg (by omega), if_neg (by rw [List.length_map]; omega), if_pos (by omega), if_pos (by rw [List.length_map]; omega), hr, if_pos rfl, if_pos (by unfold spans; rw [List.length_map]; omega), hr3, h3 m (by omega)]
      simp only [Option.bind_some]
      rw [if_pos trivial, wr1 (by omega) (by omega), wr1 (by omega) (by omega)]
      exact h2 m (by omega)
    · have hpc := pfx_miss (kw := kw) (ids := iota kw.length) h
      rw [hpc] at h2
      refine ⟨max K1 K2 + 1, fun k hk => ?_⟩
      obtain ⟨m, rfl⟩ : ∃ m, k = m + 1 := ⟨k - 1, by omega⟩
      simp only [laws_FnIndexSearch.l0]
      rw [if_pos (by omega), if_pos (by omega), e0, h1 m (by omega)]
      simp only [Option.bind_some]
      rw [pl_none _ _ _ h, if_pos (by simp), wr1 (by omega) (by omega)]
      exact h2 m (by omega)
theorem is_t (kw : List ByteArray) (s : ByteArray) : ∀ k, 1 ≤ k → laws_FnIndexSearch.j2 k kw s true = some true := fun k hk => by
  obtain ⟨m, rfl⟩ : ∃ m, k = m + 1 := ⟨k - 1, by omega⟩
  simp only [laws_FnIndexSearch.j2]; rw [if_pos trivial]
theorem isearch_places {kw : List ByteArray} (hg : goodIB kw) {s : ByteArray} (ha : s ∉ kw → ∀ u ∈ kw, ¬ pre s s.size u) : isearch kw s = pl s kw 0 := by
  by_cases hm : s ∈ kw
  · have hz := hg.2.2.2.1 s hm
    have hfd : find kw (iota kw.length) s = ((kw.idxOf s : Int), true) := by
      unfold find
      rw [if_neg (by omega), if_pos hm, iota_id hm]
    unfold isearch
    rw [hfd]
    exact span_pl hg.2.2.1 hm
  · rw [pl_none _ _ _ hm]
    have hfd : find kw (iota kw.length) s = (0, false) := by
      unfold find
      by_cases hz : s.size = 0
      · rw [if_pos hz]
      · rw [if_neg hz, if_neg hm]
        have : (kw.any fun u => decide (pre s s.size u)) = false := by
          rw [List.any_eq_false]
          intro u hu
          simpa using ha hm u hu
        rw [this]
    unfold isearch
    rw [hfd]
    rfl
theorem is_j2 (kw : List ByteArray) (s : ByteArray) (hg : goodIB kw) (hs : Clean1 80 s) : ∃ K, ∀ k, K ≤ k → laws_FnIndexSearch.j2 k kw s false = some true := by
  have hz := hs.1
  obtain ⟨c3, ⟨K3, h3⟩, _, g3⟩ := ahead_ev kw s (by have := hg.2.1; omega)
  obtain ⟨K4, h4⟩ := places_ev kw s (by have := hg.2.1; omega)
  obtain ⟨K5, h5⟩ := is_l0 kw s hg.2.2.1 hg.2.1 (by omega) _ rfl s.size 0 (by omega)
  have hpl : (pl s kw 0).length ≤ 1000 := by
    by_cases hm : s ∈ kw
    · rw [← span_pl hg.2.2.1 hm]
      have := (IdOk.cnt ⟨_, hm, rfl⟩).2.1
      have := hg.2.1
      unfold span
      rw [List.length_map, List.length_range]
      omega
    · rw [pl_none _ _ _ hm]; simp
  obtain ⟨K6, h6⟩ := sameInts_same (pl s kw 0) (by omega)
  dsimp only at h3 h6
  have hf1 : impl_IndexSearch.f kw s = some (isearch kw s, true) := if_pos ⟨hg, textB_of hs⟩
  have hf2 : impl_IndexPrefixes.f kw s = some ((pfx kw (iota kw.length) s s.size).map (·.2), spans kw (pfx kw (iota kw.length) s s.size), true) := if_pos ⟨hg, textB_of hs⟩
  have hj3 : ∀ k, K5 + 1 ≤ k → laws_FnIndexSearch.j3 k kw s ((pfx kw (iota kw.length) s s.size).map (·.2)) (spans kw (pfx kw (iota kw.length) s s.size)) ((((pfx kw (iota kw.length) s s.size).map (·.2)).length : Int) != ((spans kw (pfx kw (iota kw.length) s s.size)).length : Int)) = some true := fun k hk => by
    obtain ⟨m, rfl⟩ : ∃ m, k = m + 1 := ⟨k - 1, by omega⟩
    rw [show ((((pfx kw (iota kw.length) s s.size).map (·.2)).length : Int) != ((spans kw (pfx kw (iota kw.length) s s.size)).length : Int)) = false from bne_eq_false_iff_eq.2 (by unfold spans; rw [List.length_map, List.length_map])]
    simp only [laws_FnIndexSearch.j3]
    rw [if_neg (by simp)]
    have := h5 m (by omega)
    rw [pfx_zero] at this
    exact this
  refine ⟨max (max K3 K4) (max (K5 + 1) K6) + 1, fun k hk => ?_⟩
  obtain ⟨m, rfl⟩ : ∃ m, k = m + 1 := ⟨k - 1, by omega⟩
  simp only [laws_FnIndexSearch.j2]
  rw [if_neg (by simp), hf1]
  simp only [Option.bind_some]
  rw [hf2]
  simp only [Option.bind_some]
  rw [if_pos trivial, if_pos trivial, h3 m (by omega)]
  simp only [Option.bind_some]
  cases c3 with
  | true => rw [if_pos rfl]; exact hj3 m (by omega)
  | false =>
    rw [if_neg (by simp), h4 m (by omega)]
    simp only [Option.bind_some]
    rw [isearch_places hg (g3 rfl), h6 m (by omega)]
    simp only [Option.bind_some]
    rw [if_pos trivial]
    exact hj3 m (by omega)
theorem is_j1 (kw : List ByteArray) (s : ByteArray) (hf : Fit4 kw) (hs : s.size ≤ 2147483647) : ∃ K, ∀ k, K ≤ k → laws_FnIndexSearch.j1 k kw s false = some true := by
  obtain ⟨c1, ⟨K1, h1⟩, g1⟩ := rising_ev kw hf
  obtain ⟨c2, ⟨K2, h2⟩, g2⟩ := clean_ev 80 [s] ⟨by simp, by simpa using hs⟩
  dsimp only at h1 h2
  have hT := is_t kw s
  have key : ∃ K, c1 = true → c2 = true → ∀ k, K ≤ k → laws_FnIndexSearch.j2 k kw s false = some true := by
    by_cases hx : c1 = true ∧ c2 = true
    · obtain ⟨K, h⟩ := is_j2 kw s (g1 hx.1) (g2 hx.2 s (by simp)).1
      exact ⟨K, fun _ _ => h⟩
    · exact ⟨0, fun a b => absurd ⟨a, b⟩ hx⟩
  obtain ⟨K3, h3⟩ := key
  refine ⟨max (max K1 K2) (max K3 1) + 1, fun k hk => ?_⟩
  obtain ⟨m, rfl⟩ : ∃ m, k = m + 1 := ⟨k - 1, by omega⟩
  simp only [laws_FnIndexSearch.j1]
  rw [if_neg (by simp), h1 m (by omega)]
  simp only [Option.bind_some]
  cases c1 with
  | false => rw [if_neg (by simp)]; exact hT m (by omega)
  | true =>
    rw [if_pos rfl, h2 m (by omega)]
    simp only [Option.bind_some]
    cases c2 with
    | false => exact hT m (by omega)
    | true => exact h3 rfl rfl m (by omega)
theorem is_canary : impl_IndexSearch.f [(⟨#[97]⟩ : ByteArray), (⟨#[97]⟩ : ByteArray)] (⟨#[97]⟩ : ByteArray) = some ([0, 1], true) := by
  have h1 : goodIB [(⟨#[97]⟩ : ByteArray), (⟨#[97]⟩ : ByteArray)] := by decide
  have h2 : textB (⟨#[97]⟩ : ByteArray) := by decide
  have h3 : isearch [(⟨#[97]⟩ : ByteArray), (⟨#[97]⟩ : ByteArray)] (⟨#[97]⟩ : ByteArray) = [0, 1] := by decide
  unfold impl_IndexSearch.f
  rw [if_pos ⟨h1, h2⟩, h3]
theorem FnIndexSearch (x0 : List ByteArray) (x1 : ByteArray) (g0 : x0.length ≤ 9223372036854775807 ∧ ∀ y0 ∈ x0, y0.size ≤ 9223372036854775807) (g1 : x1.size ≤ 9223372036854775807) : ∃ k, laws_FnIndexSearch.f k x0 x1 = some true := by
  obtain ⟨b, ⟨K, hK⟩, hb⟩ := fit4 x0
  dsimp only at hK
  have hT : ∀ k, 1 ≤ k → laws_FnIndexSearch.j0 k x0 x1 true = some true := fun k hk => by
    obtain ⟨m, rfl⟩ : ∃ m, k = m + 1 := ⟨k - 1, by omega⟩
    simp only [laws_FnIndexSearch.j0]; rw [if_pos trivial]
  cases b with
  | false =>
    refine ⟨max K 1, ?_⟩
    simp only [laws_FnIndexSearch.f]
    rw [hK _ (by omega)]
    simp only [Option.bind_some]
    rw [if_neg (by simp)]
    exact hT _ (by omega)
  | true =>
    by_cases h2 : (x1.size : Int) > 2147483647
    · refine ⟨max K 1, ?_⟩
      simp only [laws_FnIndexSearch.f]
      rw [hK _ (by omega)]
      simp only [Option.bind_some]
      rw [if_pos trivial, decide_eq_true h2]
      exact hT _ (by omega)
    · obtain ⟨K2, hK2⟩ := is_j1 x0 x1 (hb rfl) (by omega)
      obtain ⟨K3, hK3⟩ := sameInts_same [0, 1] (by simp)
      dsimp only at hK3
      refine ⟨max K (max K2 K3) + 1, ?_⟩
      simp only [laws_FnIndexSearch.f]
      rw [hK _ (by omega)]
      simp only [Option.bind_some]
      rw [if_pos trivial, decide_eq_false h2]
      simp only [laws_FnIndexSearch.j0]
      rw [if_neg (by simp), is_canary]
      simp only [Option.bind_some]
      rw [if_pos trivial, hK3 _ (by omega)]
      exact hK2 _ (by omega)
end Go.Proofs.Ytddcjmdcpkmnjaa.Pure
