/- Plain facts: places of a word, rising words. -/
import Derived.Test.YtddcjmdcpkmnjaaTrPl2
import Derived.Test.YtddcjmdcpkmnjaaMIx
import Derived.Test.YtddcjmdcpkmnjaaP20
import Derived.Test.YtddcjmdcpkmnjaaP22
set_option linter.unusedVariables false
namespace Go.Proofs.Ytddcjmdcpkmnjaa.X
open Go.RowKit Go.Proofs.YtddcjmdcpkmnjaaW.PrintWords Go.Proofs.YtddcjmdcpkmnjaaW.PrintLast Go.Proofs.YtddcjmdcpkmnjaaW.PrintMore Go.Proofs.Ytddcjmdcpkmnjaa.P Go.Proofs.Ytddcjmdcpkmnjaa.Da
/-- The places of u in l, counted from o on. -/
def pl (u : ByteArray) : List ByteArray → Int → List Int
  | [], _ => []
  | x :: xs, o => if x = u then o :: pl u xs (o + 1) else pl u xs (o + 1)
theorem pl_none (u : ByteArray) : ∀ (l : List ByteArray) (o : Int), u ∉ l → pl u l o = [] := by
  intro l
  induction l with
  | nil => intro o _; rfl
  | cons x xs ih =>
    intro o h
    unfold pl
    rw [if_neg (fun e => h (by rw [e]; simp)), ih _ (fun g => h (List.mem_cons_of_mem _ g))]
theorem pl_some (u : ByteArray) : ∀ (l : List ByteArray) (o : Int), Srt l → u ∈ l → pl u l o = (List.range (l.count u)).map (fun i : Nat => o + (l.idxOf u : Int) + (i : Int)) := by
  intro l
  induction l with
  | nil => intro o _ h; cases h
  | cons x xs ih =>
    intro o hs hm
    have hs1 : Srt xs := (List.pairwise_cons.1 hs).2
    have hs2 := (List.pairwise_cons.1 hs).1
    unfold pl
    by_cases e : x = u
    · rw [if_pos e]
      subst e
      by_cases hx : x ∈ xs
      · have h0 : xs.idxOf x = 0 := by
          cases xs with
          | nil => cases hx
          | cons y ys =>
            have hxy := hs2 y (by simp)
            have hyx : y.data.toList ≤ x.data.toList := by
              rcases List.mem_cons.1 hx with g | g
              · rw [g]; exact Std.le_refl _
              · exact (List.pairwise_cons.1 hs1).1 x g
            have h3 : y = x := by
              have h3 := Std.le_antisymm hyx hxy
              cases x; cases y; simpa using h3
            rw [h3, List.idxOf_cons_self]
        rw [ih (o + 1) hs1 hx, h0, List.idxOf_cons_self, List.count_cons_self, List.range_succ_eq_map, List.map_cons, List.map_map]
        congr 1
        · omega
        · refine List.map_congr_left (fun i _ => ?_)
          simp only [Function.comp]
          omega
      · rw [pl_none _ _ _ hx, List.count_cons_self, List.count_eq_zero.2 hx, List.idxOf_cons_self]
        simp
    · rw [if_neg e]
      have hx : u ∈ xs := by
        rcases List.mem_cons.1 hm with g | g
        · exact absurd g.symm e
        · exact g
      have h1 : (x :: xs).count u = xs.count u := List.count_cons_of_ne e
      have h2 : (x :: xs).idxOf u = xs.idxOf u + 1 := by rw [List.idxOf_cons, beq_false_of_ne e]; rfl
      rw [ih (o + 1) hs1 hx, h1, h2]
      refine List.map_congr_left (fun i _ => ?_)
      omega
theorem span_pl {kw : List ByteArray} (hs : Srt kw) {u : ByteArray} (hu : u ∈ kw) : span kw (kw.idxOf u : Int) = pl u kw 0 := by
  rw [pl_some u kw 0 hs hu]
  unfold span cntAt
  have hl := List.idxOf_lt_length_of_mem hu
  have e : kw.getD (kw.idxOf u : Int).toNat ⟨#[]⟩ = u := by
    show kw.getD (kw.idxOf u) ⟨#[]⟩ = u
    rw [getD_at hl, List.getElem_idxOf hl]
  rw [e]
  refine List.map_congr_left (fun i _ => ?_)
  omega
theorem places_l0 (kw : List ByteArray) (u : ByteArray) (hl : kw.length ≤ 1000) (d : Nat) : ∀ (i : Nat) (acc : List Int), i + d = kw.length → acc.length ≤ i → ∃ K, ∀ k, K ≤ k → laws_places.l0 k u acc kw (kw.length : Int) (i : Int) = some (acc ++ pl u (kw.drop i) (i : Int)) := by
  induction d with
  | zero => intro i acc hi ha; exact ⟨1, fun k hk => by
      obtain ⟨m, rfl⟩ : ∃ m, k = m + 1 := ⟨k - 1, by omega⟩
      simp only [laws_places.l0]
      rw [if_neg (by omega), List.drop_eq_nil_of_le (by omega)]
      simp [pl]⟩
  | succ d ih =>
    intro i acc hi ha
    have hr := rdOf_nat ByteArray.empty kw i (by omega)
    rw [List.drop_eq_getElem_cons (show i < kw.length by omega)]
    unfold pl
    by_cases e : kw[i] = u
    · obtain ⟨K, hK⟩ := ih (i + 1) (acc ++ [(i : Int)]) (by omega) (by simp; omega)
      refine ⟨K + 1, fun k hk => ?_⟩
      obtain ⟨m, rfl⟩ : ∃ m, k = m + 1 := ⟨k - 1, by omega⟩
      simp only [laws_places.l0]
      rw [if_pos (by omega), if_pos (by omega), if_pos (by omega), hr, if_pos (by rw [e]), if_pos (by omega), wr1 (by omega) (by omega), if_pos e]
      have := hK m (by omega)
      rw [List.append_assoc] at this
      exact this
    · obtain ⟨K, hK⟩ := ih (i + 1) acc (by omega) (by omega)
      refine ⟨K + 1, fun k hk => ?_⟩
      obtain ⟨m, rfl⟩ : ∃ m, k = m + 1 := ⟨k - 1, by omega⟩
      simp only [laws_places.l0]
      rw [if_pos (by omega), if_pos (by omega), if_pos (by omega), hr, if_neg (fun g => e (toList_inj g)), wr1 (by omega) (by omega), if_neg e]
      exact hK m (by omega)
theorem places_ev (kw : List ByteArray) (u : ByteArray) (hl : kw.length ≤ 1000) : ∃ K, ∀ k, K ≤ k → laws_places.f k kw u = some (pl u kw 0) := by
  obtain ⟨K, hK⟩ := places_l0 kw u hl kw.length 0 [] (by omega) (Nat.le_refl _)
  exact ⟨K, fun k hk => by simp only [laws_places.f]; exact hK k hk⟩
theorem rising_l0 (kw : List ByteArray) (hl : kw.length ≤ 30) (d : Nat) : ∀ i : Nat, i + d = kw.length → ∃ c, Ev (fun k => laws_rising.l0 k kw kw (kw.length : Int) (i : Int)) c ∧ (c = true → ∀ x, i ≤ x → ∀ h : x < kw.length, 0 < kw[x].size ∧ (∀ h0 : 0 < x, (kw[x - 1]'(by omega)).data.toList ≤ kw[x].data.toList)) := by
  induction d with
  | zero => intro i hi; exact ⟨true, ev1 0 fun k _ => by simp only [laws_rising.l0]; rw [if_neg (by omega)], fun _ x h1 h2 => by omega⟩
  | succ d ih =>
    intro i hi
    have hr := rdOf_nat ByteArray.empty kw i (by omega)
    by_cases he : kw[i].toList = ([] : List UInt8)
    · exact ⟨false, ev1 0 fun k _ => by simp only [laws_rising.l0]; rw [if_pos (by omega), if_pos (by omega), if_pos (by omega), hr, if_pos he], fun h => by cases h⟩
    · have hz : 0 < kw[i].size := by
        rcases Nat.eq_zero_or_pos kw[i].size with g | g
        · exact absurd (bytes_nil.2 g) he
        · exact g
      obtain ⟨c, ⟨K, hK⟩, hc⟩ := ih (i + 1) (by omega)
      dsimp only at hK
      by_cases h0 : 0 < i
      · have hw : wrap64 ((i : Int) - 1) = ((i - 1 : Nat) : Int) := by unfold wrap64; omega
        have hr1 := rdOf_nat ByteArray.empty kw (i - 1) (by omega)
        have hb : Op.bytesLess kw[i].toList (kw[i - 1]'(by omega)).toList = decide (kw[i].data.toList < (kw[i - 1]'(by omega)).data.toList) := by
          simp [Go.ByteArray.toList_eq, Go.Proofs.bytesLess_eq]
        by_cases hlt : kw[i].data.toList < (kw[i - 1]'(by omega)).data.toList
        · exact ⟨false, ev1 0 fun k _ => by simp only [laws_rising.l0]; rw [if_pos (by omega), if_pos (by omega), if_pos (by omega), hr, if_neg he, if_pos (by omega), hw, if_pos (by omega), if_pos (by omega), hr1, hb, decide_eq_true hlt]; rfl, fun h => by cases h⟩
        · refine ⟨c, ev1 K fun k hk => by simp only [laws_rising.l0]; rw [if_pos (by omega), if_pos (by omega), if_pos (by omega), hr, if_neg he, if_pos (by omega), hw, if_pos (by omega), if_pos (by omega), hr1, hb, decide_eq_false hlt, if_neg (by simp), wr1 (by omega) (by omega)]; exact hK k hk, fun h x hx hx2 => ?_⟩
          by_cases e : x = i
          · subst e; exact ⟨hz, fun _ => List.not_lt.1 hlt⟩
          · exact hc h x (by omega) hx2
      · refine ⟨c, ev1 K fun k hk => by simp only [laws_rising.l0]; rw [if_pos (by omega), if_pos (by omega), if_pos (by omega), hr, if_neg he, if_neg (by omega), wr1 (by omega) (by omega)]; exact hK k hk, fun h x hx hx2 => ?_⟩
        by_cases e : x = i
        · subst e; exact ⟨hz, fun g => by omega⟩
        · exact hc h x (by omega) hx2
theorem rising_ev (kw : List ByteArray) (hf : Fit4 kw) : ∃ c, Ev (fun k => laws_rising.f k kw) c ∧ (c = true → goodIB kw) := by
  have hT : ∀ k, 1 ≤ k → laws_rising.j0 k kw true = some false := fun k hk => by
    obtain ⟨m, rfl⟩ : ∃ m, k = m + 1 := ⟨k - 1, by omega⟩
    simp only [laws_rising.j0]; rw [if_pos trivial]
  by_cases h0 : (kw.length : Int) = 0
  · exact ⟨false, ⟨1, fun k hk => by simp only [laws_rising.f]; rw [if_pos h0]; exact hT k hk⟩, fun h => by cases h⟩
  · by_cases h30 : (kw.length : Int) > 30
    · exact ⟨false, ⟨1, fun k hk => by simp only [laws_rising.f]; rw [if_neg h0, if_pos h30]; exact hT k hk⟩, fun h => by cases h⟩
    · obtain ⟨c, ⟨K2, hK2⟩, hc⟩ := clean_ev 40 kw hf
      dsimp only at hK2
      cases c with
      | false => exact ⟨false, ⟨max 1 K2, fun k hk => by simp only [laws_rising.f]; rw [if_neg h0, if_neg h30, hK2 k (by omega)]; exact hT k (by omega)⟩, fun h => by cases h⟩
      | true =>
        obtain ⟨c, ⟨K, hK⟩, hcc⟩ := rising_l0 kw (by omega) kw.length 0 (by omega)
        dsimp only at hK
        refine ⟨c, ⟨max (K + 1) K2, fun k hk => ?_⟩, fun h => ?_⟩
        · simp only [laws_rising.f]
          rw [if_neg h0, if_neg h30, hK2 k (by omega)]
          obtain ⟨m, rfl⟩ : ∃ m, k = m + 1 := ⟨k - 1, by omega⟩
          simp only [Option.bind_some, laws_rising.j0]
          rw [if_neg (by simp)]
          exact hK m (by omega)
        · have hall := hcc h
          refine ⟨by omega, by omega, Gn.srt_of kw (fun i hi => ?_), fun s hs => ?_, fun s hs => by have := (hc rfl s hs).1.1; omega, fun s hs => clean_nz (hc rfl s hs).1⟩
          · have := (hall (i + 1) (by omega) hi).2 (by omega)
            simpa using this
          · obtain ⟨x, hx, rfl⟩ := List.getElem_of_mem hs
            exact (hall x (Nat.zero_le _) hx).1
theorem rdL_nat (xs : List (List Int)) (i : Nat) (h : i < xs.length) : rd_L3 xs (i : Int) = xs[i] := by simp [rd_L3, h]
end Go.Proofs.Ytddcjmdcpkmnjaa.X
