/- Plain facts: fair words, texts that are no word's beginning; what a double array finds. -/
import Derived.Test.YtddcjmdcpkmnjaaMXc
import Derived.Test.YtddcjmdcpkmnjaaP11
import Derived.Test.YtddcjmdcpkmnjaaP13
import Derived.Test.YtddcjmdcpkmnjaaP10
import Derived.Test.YtddcjmdcpkmnjaaETrA
set_option linter.unusedVariables false
namespace Go.Proofs.Ytddcjmdcpkmnjaa.X
open Go.RowKit Go.Proofs.YtddcjmdcpkmnjaaW.PrintWords Go.Proofs.YtddcjmdcpkmnjaaW.PrintLast Go.Proofs.YtddcjmdcpkmnjaaW.PrintMore Go.Proofs.Ytddcjmdcpkmnjaa.P Go.Proofs.Ytddcjmdcpkmnjaa.Da
structure Fair (kw : List ByteArray) (ids : List Int) : Prop where
  pos : 0 < kw.length
  most : kw.length ≤ 30
  cl : ∀ s ∈ kw, Clean1 40 s
  nd : kw.Nodup
  ne : ∀ s ∈ kw, 0 < s.size
  len : ids.length = 0 ∨ ids.length = kw.length
  ids2 : ∀ x ∈ ids, 1 ≤ x ∧ x ≤ 1048576
theorem clean_nz {most : Int} {s : ByteArray} (h : Clean1 most s) : ∀ j, j < s.size → (s.get! j).toNat ≠ 0 := fun j hj e => by
  refine h.2 j hj ?_
  unfold bt
  rw [dif_pos (show (j : Int).toNat < s.size by omega)]
  have : (s.get! j) = s[((j : Int).toNat)]'(by omega) := by
    show s.data[j]! = s.data[j]
    rw [getElem!_pos s.data j hj]
  rw [← this, e]; rfl
theorem Fair.goodB {kw : List ByteArray} {ids : List Int} (h : Fair kw ids) : goodB kw (idsOr kw ids) := by
  refine ⟨?_, h.pos, h.most, h.nd, ?_, fun s hs => by have := (h.cl s hs).1; omega, fun s hs => clean_nz (h.cl s hs)⟩
  · unfold idsOr
    split
    · simp [Da.nums]
    · rcases h.len with g | g
      · omega
      · exact g
  · unfold idsOr
    split
    · intro x hx
      unfold Da.nums at hx
      obtain ⟨i, hi, rfl⟩ := List.mem_map.1 hx
      have := List.mem_range.1 hi
      have := h.most
      omega
    · intro x hx
      have := h.ids2 x hx
      omega
theorem bytes_nil {s : ByteArray} : s.toList = ([] : List UInt8) ↔ s.size = 0 := by
  rw [ByteArray.toList_eq]
  constructor
  · intro h
    have := congrArg List.length h
    rw [Array.length_toList] at this
    exact this
  · intro h
    exact List.length_eq_zero_iff.1 (by rw [Array.length_toList]; exact h)
theorem fair_l1 (kw : List ByteArray) (ids : List Int) (hl : kw.length ≤ 30) (hlen : ids.length = 0 ∨ ids.length = kw.length) (i : Nat) (hi : i < kw.length) (b : Bool) (hnext : Ev (fun k => laws_fair.l0 k kw ids kw (kw.length : Int) ((i : Int) + 1)) b) (d : Nat) :
    ∀ j : Nat, j + d = i → ∃ c, Ev (fun k => laws_fair.l1 k kw ids (i : Int) kw[i] kw (kw.length : Int) (i : Int) (i : Int) (j : Int)) c ∧ (c = true → b = true ∧ (∀ q, j ≤ q → ∀ h : q < i, kw[q] ≠ kw[i]) ∧ 0 < kw[i].size ∧ (∀ h : i < ids.length, 1 ≤ ids[i] ∧ ids[i] ≤ 1048576)) := by
  obtain ⟨K0, hK0⟩ := hnext
  dsimp only at hK0
  induction d with
  | zero =>
    intro j hj
    by_cases he : kw[i].toList = ([] : List UInt8)
    · exact ⟨false, ev1 0 fun k _ => by simp only [laws_fair.l1]; rw [if_neg (by omega), if_pos he], fun h => by cases h⟩
    · have hz : 0 < kw[i].size := by
        rcases Nat.eq_zero_or_pos kw[i].size with g | g
        · exact absurd (bytes_nil.2 g) he
        · exact g
      by_cases h0 : ids.length = 0
      · exact ⟨b, ev1 K0 fun k hk => by simp only [laws_fair.l1]; rw [if_neg (by omega), if_neg he, if_neg (by omega), wr1 (by omega) (by omega)]; exact hK0 k hk, fun h => ⟨h, fun q h1 h2 => by omega, hz, fun h => by omega⟩⟩
      · have hil : i < ids.length := by rcases hlen with g | g <;> omega
        have hr := rd_nat ids i hil
        by_cases c1 : ids[i] < 1
        · exact ⟨false, ev1 0 fun k _ => by simp only [laws_fair.l1]; rw [if_neg (by omega), if_neg he, if_pos (by omega), if_pos (by omega), if_pos (by omega), hr, if_pos c1], fun h => by cases h⟩
        · by_cases c2 : ids[i] > 1048576
          · exact ⟨false, ev1 0 fun k _ => by simp only [laws_fair.l1]; rw [if_neg (by omega), if_neg he, if_pos (by omega), if_pos (by omega), if_pos (by omega), hr, if_neg c1, if_pos c2], fun h => by cases h⟩
          · exact ⟨b, ev1 K0 fun k hk => by simp only [laws_fair.l1]; rw [if_neg (by omega), if_neg he, if_pos (by omega), if_pos (by omega), if_pos (by omega), hr, if_neg c1, if_neg c2, wr1 (by omega) (by omega)]; exact hK0 k hk, fun h => ⟨h, fun q h1 h2 => by omega, hz, fun _ => by omega⟩⟩
  | succ d ih =>
    intro j hj
    have hr := rdOf_nat ByteArray.empty kw j (by omega)
    by_cases he : kw[j].toList = kw[i].toList
    · exact ⟨false, ev1 0 fun k _ => by simp only [laws_fair.l1]; rw [if_pos (by omega), if_pos (by omega), if_pos (by omega), hr, if_pos he], fun h => by cases h⟩
    · obtain ⟨c, ⟨K, hK⟩, hc⟩ := ih (j + 1) (by omega)
      dsimp only at hK
      refine ⟨c, ev1 K fun k hk => by simp only [laws_fair.l1]; rw [if_pos (by omega), if_pos (by omega), if_pos (by omega), hr, if_neg he, wr1 (by omega) (by omega)]; exact hK k hk, fun h => ?_⟩
      obtain ⟨h1, h2, h3⟩ := hc h
      refine ⟨h1, fun q hq hq2 => ?_, h3⟩
      by_cases e : q = j
      · subst e; exact fun g => he (by rw [g])
      · exact h2 q (by omega) hq2
theorem fair_l0 (kw : List ByteArray) (ids : List Int) (hl : kw.length ≤ 30) (hlen : ids.length = 0 ∨ ids.length = kw.length) (d : Nat) :
    ∀ i : Nat, i + d = kw.length → ∃ c, Ev (fun k => laws_fair.l0 k kw ids kw (kw.length : Int) (i : Int)) c ∧ (c = true → ∀ x, i ≤ x → ∀ h : x < kw.length, (∀ q, ∀ h : q < x, kw[q] ≠ kw[x]) ∧ 0 < kw[x].size ∧ (∀ h : x < ids.length, 1 ≤ ids[x] ∧ ids[x] ≤ 1048576)) := by
  induction d with
  | zero => intro i hi; exact ⟨true, ev1 0 fun k _ => by simp only [laws_fair.l0]; rw [if_neg (by omega)], fun _ x h1 h2 => by omega⟩
  | succ d ih =>
    intro i hi
    obtain ⟨b, hb, hbb⟩ := ih (i + 1) (by omega)
    obtain ⟨c, ⟨K, hK⟩, hc⟩ := fair_l1 kw ids hl hlen i (by omega) b hb i 0 (by omega)
    dsimp only at hK
    have hr := rdOf_nat ByteArray.empty kw i (by omega)
    refine ⟨c, ev1 K fun k hk => by simp only [laws_fair.l0]; rw [if_pos (by omega), if_pos (by omega), if_pos (by omega), hr]; exact hK k hk, fun h x h1 h2 => ?_⟩
    obtain ⟨g1, g2, g3⟩ := hc h
    by_cases e : x = i
    · subst e; exact ⟨fun q hq => g2 q (Nat.zero_le _) hq, g3⟩
    · exact hbb g1 x (by omega) h2
theorem fair_ev (kw : List ByteArray) (ids : List Int) (hf : Fit4 kw) : ∃ c, Ev (fun k => laws_fair.f k kw ids) c ∧ (c = true → Fair kw ids) := by
  have hT : ∀ b, b = true → ∃ K, ∀ k, K ≤ k → laws_fair.j0 k kw ids b = some false := fun b hb => ⟨1, fun k hk => by
    obtain ⟨m, rfl⟩ : ∃ m, k = m + 1 := ⟨k - 1, by omega⟩
    simp only [laws_fair.j0]; rw [if_pos hb]⟩
  obtain ⟨K1, hK1⟩ := hT true rfl
  by_cases h0 : (kw.length : Int) = 0
  · exact ⟨false, ⟨K1, fun k hk => by simp only [laws_fair.f]; rw [if_pos h0]; exact hK1 k hk⟩, fun h => by cases h⟩
  · by_cases h30 : (kw.length : Int) > 30
    · exact ⟨false, ⟨K1, fun k hk => by simp only [laws_fair.f]; rw [if_neg h0, if_pos h30]; exact hK1 k hk⟩, fun h => by cases h⟩
    · obtain ⟨c, ⟨K2, hK2⟩, hc⟩ := clean_ev 40 kw hf
      dsimp only at hK2
      cases c with
      | false => exact ⟨false, ⟨max K1 K2, fun k hk => by simp only [laws_fair.f]; rw [if_neg h0, if_neg h30, hK2 k (by omega)]; simp only [Option.bind_some]; rw [if_neg (by simp)]; exact hK1 k (by omega)⟩, fun h => by cases h⟩
      | true =>
        by_cases hlen : ids.length = 0 ∨ ids.length = kw.length
        · obtain ⟨c, ⟨K, hK⟩, hcc⟩ := fair_l0 kw ids (by omega) hlen kw.length 0 (by omega)
          dsimp only at hK
          have hj : ∀ k, K + 1 ≤ k → laws_fair.j0 k kw ids false = some c := fun k hk => by
            obtain ⟨m, rfl⟩ : ∃ m, k = m + 1 := ⟨k - 1, by omega⟩
            simp only [laws_fair.j0]; rw [if_neg (by simp)]; exact hK m (by omega)
          refine ⟨c, ⟨max (K + 1) K2, fun k hk => ?_⟩, fun h => ?_⟩
          · simp only [laws_fair.f]
            rw [if_neg h0, if_neg h30, hK2 k (by omega)]
            simp only [Option.bind_some]
            rw [if_pos trivial]
            by_cases hi0 : (ids.length : Int) = 0
            · rw [if_pos hi0]; exact hj k (by omega)
            · rw [if_neg hi0, show ((ids.length : Int) != (kw.length : Int)) = false from bne_eq_false_iff_eq.2 (by rcases hlen with g | g <;> omega)]
              exact hj k (by omega)
          · have hall := hcc h
            refine ⟨by omega, by omega, fun s hs => (hc rfl s hs).1, ?_, fun s hs => ?_, hlen, fun x hx => ?_⟩
            · rw [List.nodup_iff_pairwise_ne, List.pairwise_iff_getElem]
              intro i j hi hj hij
              exact (hall j (Nat.zero_le _) hj).1 i hij
            · obtain ⟨x, hx, rfl⟩ := List.getElem_of_mem hs
              exact (hall x (Nat.zero_le _) hx).2.1
            · obtain ⟨i, hi, rfl⟩ := List.getElem_of_mem hx
              exact (hall i (Nat.zero_le _) (by rcases hlen with g | g <;> omega)).2.2 hi
        · refine ⟨false, ⟨max K1 K2, fun k hk => ?_⟩, fun h => by cases h⟩
          simp only [laws_fair.f]
          rw [if_neg h0, if_neg h30, hK2 k (by omega)]
          simp only [Option.bind_some]
          rw [if_pos trivial, if_neg (by omega), show ((ids.length : Int) != (kw.length : Int)) = true from bne_iff_ne.2 (by omega)]
          exact hK1 k (by omega)
theorem begins_f (u s : ByteArray) : ∃ b, laws_begins.f u s = some b ∧ (b = true ↔ pre s s.size u) := by
  unfold laws_begins.f
  by_cases h : (s.size : Int) ≤ (u.size : Int)
  · rw [if_pos h, if_pos (by omega)]
    refine ⟨_, rfl, ?_⟩
    rw [beq_iff_eq, toList_iff]
    have hsz : (u.extract 0 ((s.size : Int)).toNat).size = s.size := by rw [ByteArray.size_extract]; omega
    constructor
    · intro e
      refine ⟨by omega, fun i hi => ?_⟩
      rw [← e, extract_get u _ i (by omega) (by omega)]
    · rintro ⟨h1, h2⟩
      refine ext_bytes hsz (fun i hi => ?_)
      rw [extract_get u _ i (by omega) (by omega)]
      exact h2 i (by omega)
  · rw [if_neg h]
    exact ⟨false, rfl, by simp [pre]; omega⟩
theorem ahead_l0 (kw : List ByteArray) (s : ByteArray) (hl : kw.length ≤ 2147483647) (d : Nat) : ∀ (i : Nat) (b : Bool), i + d = kw.length → ∃ c, Ev (fun k => laws_ahead.l0 k s b kw (kw.length : Int) (i : Int)) c ∧
    (c = true → b = true ∨ ∃ u ∈ kw, pre s s.size u) ∧ (c = true → ∀ x, i ≤ x → ∀ h : x < kw.length, kw[x] ≠ s) ∧ (c = false → s ∉ kw → b = false ∧ ∀ x, i ≤ x → ∀ h : x < kw.length, ¬ pre s s.size kw[x]) := by
  induction d with
  | zero => intro i b hi; exact ⟨b, ev1 0 fun k _ => by simp only [laws_ahead.l0]; rw [if_neg (by omega)], fun h => .inl h, fun _ x h1 h2 => by omega, fun h _ => ⟨h, fun x h1 h2 => by omega⟩⟩
  | succ d ih =>
    intro i b hi
    have hr := rdOf_nat ByteArray.empty kw i (by omega)
    have hm : kw[i] ∈ kw := List.getElem_mem _
    by_cases he : kw[i].toList = s.toList
    · refine ⟨false, ev1 0 fun k _ => by simp only [laws_ahead.l0]; rw [if_pos (by omega), if_pos (by omega), if_pos (by omega), hr, if_pos he], fun h => (by cases h), fun h => (by cases h), fun _ h => absurd ?_ h⟩
      rw [← toList_inj he]; exact hm
    · obtain ⟨q, q1, q2⟩ := begins_f kw[i] s
      have hne : kw[i] ≠ s := fun g => he (by rw [g])
      cases b with
      | true =>
        obtain ⟨c, ⟨K, hK⟩, h1, h2, h3⟩ := ih (i + 1) true (by omega)
        dsimp only at hK
        refine ⟨c, ev1 K fun k hk => by simp only [laws_ahead.l0]; rw [if_pos (by omega), if_pos (by omega), if_pos (by omega), hr, if_neg he, if_pos trivial, wr1 (by omega) (by omega)]; exact hK k hk, h1, fun h x hx hx2 => ?_, fun h hs => by have := (h3 h hs).1; cases this⟩
        by_cases e : x = i
        · subst e; exact hne
        · exact h2 h x (by omega) hx2
      | false =>
        obtain ⟨c, ⟨K, hK⟩, h1, h2, h3⟩ := ih (i + 1) q (by omega)
        dsimp only at hK
        refine ⟨c, ev1 K fun k hk => by
          simp only [laws_ahead.l0]
          rw [if_pos (by omega), if_pos (by omega), if_pos (by omega), hr, if_neg he, if_neg (by simp), q1]
          simp only [Option.bind_some]
          rw [wr1 (by omega) (by omega)]
          exact hK k hk, fun h => ?_, fun h x hx hx2 => ?_, fun h hs => ?_⟩
        · rcases h1 h with g | g
          · exact .inr ⟨_, hm, q2.1 g⟩
          · exact .inr g
        · by_cases e : x = i
          · subst e; exact hne
          · exact h2 h x (by omega) hx2
        · obtain ⟨g1, g2⟩ := h3 h hs
          refine ⟨rfl, fun x hx hx2 => ?_⟩
          by_cases e : x = i
          · subst e; exact fun g => by rw [q2.2 g] at g1; cases g1
          · exact g2 x (by omega) hx2
/-- 'ahead': no word, but a beginning of one. -/
theorem ahead_ev (kw : List ByteArray) (s : ByteArray) (hl : kw.length ≤ 2147483647) : ∃ c, Ev (fun k => laws_ahead.f k kw s) c ∧ (c = true → s ∉ kw ∧ ∃ u ∈ kw, pre s s.size u) ∧ (c = false → s ∉ kw → ∀ u ∈ kw, ¬ pre s s.size u) := by
  obtain ⟨c, ⟨K, hK⟩, h1, h2, h3⟩ := ahead_l0 kw s hl kw.length 0 false (by omega)
  refine ⟨c, ⟨K, fun k hk => by simp only [laws_ahead.f]; exact hK k hk⟩, fun h => ⟨fun hm => ?_, (h1 h).resolve_left (by simp)⟩, fun h hs u hu => ?_⟩
  · obtain ⟨x, hx, e⟩ := List.getElem_of_mem hm
    exact h2 h x (Nat.zero_le _) hx e
  · obtain ⟨x, hx, rfl⟩ := List.getElem_of_mem hu
    exact (h3 h hs).2 x (Nat.zero_le _) hx
theorem textB_of {s : ByteArray} (h : Clean1 80 s) : textB s := ⟨by have := h.1; omega, clean_nz h⟩
theorem find_ok (kw : List ByteArray) (ids : List Int) (s : ByteArray) (h : Fair kw ids) (ht : textB s) : impl_TrieFind.f kw ids s = some ((find kw (idsOr kw ids) s).1, (find kw (idsOr kw ids) s).2, true) := if_pos ⟨h.goodB, ht⟩
theorem finds_f : laws_finds.f = some true := by
  have h1 : goodB [(⟨#[97]⟩ : ByteArray)] (idsOr [(⟨#[97]⟩ : ByteArray)] [7]) := by decide
  have h2 : textB (⟨#[97]⟩ : ByteArray) := by decide
  have h3 : find [(⟨#[97]⟩ : ByteArray)] (idsOr [(⟨#[97]⟩ : ByteArray)] [7]) (⟨#[97]⟩ : ByteArray) = (7, true) := by decide
  unfold laws_finds.f impl_TrieFind.f
  rw [if_pos ⟨h1, h2⟩, h3]
  rfl
end Go.Proofs.Ytddcjmdcpkmnjaa.X
