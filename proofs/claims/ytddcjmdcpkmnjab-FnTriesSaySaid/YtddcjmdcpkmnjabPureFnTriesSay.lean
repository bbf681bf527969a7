/- Double arrays and indices find what a list of words finds: for every list of words, of numbers, and every text. No condition. -/
import Derived.Test.YtddcjmdcpkmnjabMXc
import Derived.Test.YtddcjmdcpkmnjabP9
import Derived.Test.YtddcjmdcpkmnjabP7
import Derived.Test.YtddcjmdcpkmnjabP5
import Derived.Test.YtddcjmdcpkmnjabQTr
import Derived.Test.YtddcjmdcpkmnjabP14
import Derived.Test.YtddcjmdcpkmnjabP18
import Derived.Test.YtddcjmdcpkmnjabP3
set_option linter.unusedVariables false
namespace Go.Proofs.Ytddcjmdcpkmnjab.X
open Go.RowKit Go.Proofs.YtddcjmdcpkmnjabW.PrintWords Go.Proofs.YtddcjmdcpkmnjabW.PrintLast Go.Proofs.YtddcjmdcpkmnjabW.PrintMore Go.Proofs.Ytddcjmdcpkmnjab.P Go.Proofs.Ytddcjmdcpkmnjab.Da
structure Fair (kw : List ByteArray) (ids : List Int) : Prop where
  pos : 0 < kw.length
  most : kw.length ≤ 30
  cl : ∀ s ∈ kw, Clean1 40 s
  nd : kw.Nodup
  ne : ∀ s ∈ kw, 0 < s.size
  len : ids.length = 0 ∨ ids.length = kw.length
  ids2 : ∀ x ∈ ids, 1 ≤ x ∧ x ≤ 1048576
theorem clean_nz {most : Int} {s : ByteArray} (h : Clean1 most s) : ∀ j, j < s.size → (s.get! j).toNat ≠ 0 := fun j hj e => by
  refine h.2 j hj ?_
  unfold bt
  rw [dif_pos (show (j : Int).toNat < s.size by omega)]
  have : (s.get! j) = s[((j : Int).toNat)]'(by omega) := by
    show s.data[j]! = s.data[j]
    rw [getElem!_pos s.data j hj]
  rw [← this, e]; rfl
theorem Fair.goodB {kw : List ByteArray} {ids : List Int} (h : Fair kw ids) : goodB kw (idsOr kw ids) := by
  refine ⟨?_, h.pos, h.most, h.nd, ?_, fun s hs => by have := (h.cl s hs).1; omega, fun s hs => clean_nz (h.cl s hs)⟩
  · unfold idsOr
    split
    · simp [Da.nums]
    · rcases h.len with g | g
      · omega
      · exact g
  · unfold idsOr
    split
    · intro x hx
      unfold Da.nums at hx
      obtain ⟨i, hi, rfl⟩ := List.mem_map.1 hx
      have := List.mem_range.1 hi
      have := h.most
      omega
    · intro x hx
      have := h.ids2 x hx
      omega
theorem bytes_nil {s : ByteArray} : s.toList = ([] : List UInt8) ↔ s.size = 0 := by
  rw [ByteArray.toList_eq]
  constructor
  · intro h
    have := congrArg List.length h
    rw [Array.length_toList] at this
    exact this
  · intro h
    exact List.length_eq_zero_iff.1 (by rw [Array.length_toList]; exact h)
theorem fair_l1 (kw : List ByteArray) (ids : List Int) (hl : kw.length ≤ 30) (hlen : ids.length = 0 ∨ ids.length = kw.length) (i : Nat) (hi : i < kw.length) (b : Bool) (hnext : Ev (fun k => laws_fair.l0 k kw ids kw (kw.length : Int) ((i : Int) + 1)) b) (d : Nat) :
    ∀ j : Nat, j + d = i → ∃ c, Ev (fun k => laws_fair.l1 k kw ids (i : Int) kw[i] kw (kw.length : Int) (i : Int) (i : Int) (j : Int)) c ∧ (c = true → b = true ∧ (∀ q, j ≤ q → ∀ h : q < i, kw[q] ≠ kw[i]) ∧ 0 < kw[i].size ∧ (∀ h : i < ids.length, 1 ≤ ids[i] ∧ ids[i] ≤ 1048576)) := by
  obtain ⟨K0, hK0⟩ := hnext
  dsimp only at hK0
  induction d with
  | zero =>
    intro j hj
    by_cases he : kw[i].toList = ([] : List UInt8)
    · exact ⟨false, ev1 0 fun k _ => by simp only [laws_fair.l1]; rw [if_neg (by omega), if_pos he], fun h => by cases h⟩
    · have hz : 0 < kw[i].size := by
        rcases Nat.eq_zero_or_pos kw[i].size with g | g
        · exact absurd (bytes_nil.2 g) he
        · exact g
      by_cases h0 : ids.length = 0
      · exact ⟨b, ev1 K0 fun k hk => by simp only [laws_fair.l1]; rw [if_neg (by omega), if_neg he, if_neg (by omega), wr1 (by omega) (by omega)]; exact hK0 k hk, fun h => ⟨h, fun q h1 h2 => by omega, hz, fun h => by omega⟩⟩
      · have hil : i < ids.length := by rcases hlen with g | g <;> omega
        have hr := rd_nat ids i hil
        by_cases c1 : ids[i] < 1
        · exact ⟨false, ev1 0 fun k _ => by simp only [laws_fair.l1]; rw [if_neg (by omega), if_neg he, if_pos (by omega), if_pos (by omega), if_pos (by omega), hr, if_pos c1], fun h => by cases h⟩
        · by_cases c2 : ids[i] > 1048576
          · exact ⟨false, ev1 0 fun k _ => by simp only [laws_fair.l1]; rw [if_neg (by omega), if_neg he, if_pos (by omega), if_pos (by omega), if_pos (by omega), hr, if_neg c1, if_pos c2], fun h => by cases h⟩
          · exact ⟨b, ev1 K0 fun k hk => by simp only [laws_fair.l1]; rw [if_neg (by omega), if_neg he, if_pos (by omega), if_pos (by omega), if_pos (by omega), hr, if_neg c1, if_neg c2, wr1 (by omega) (by omega)]; exact hK0 k hk, fun h => ⟨h, fun q h1 h2 => by omega, hz, fun _ => by omega⟩⟩
  | succ d ih =>
    intro j hj
    have hr := rdOf_nat ByteArray.empty kw j (by omega)
    by_cases he : kw[j].toList = kw[i].toList
    · exact ⟨false, ev1 0 fun k _ => by simp only [laws_fair.l1]; rw [if_pos (by omega), if_pos (by omega), if_pos (by omega), hr, if_pos he], fun h => by cases h⟩
    · obtain ⟨c, ⟨K, hK⟩, hc⟩ := ih (j + 1) (by omega)
      dsimp only at hK
      refine ⟨c, ev1 K fun k hk => by simp only [laws_fair.l1]; rw [if_pos (by omega), if_pos (by omega), if_pos (by omega), hr, if_neg he, wr1 (by omega) (by omega)]; exact hK k hk, fun h => ?_⟩
      obtain ⟨h1, h2, h3⟩ := hc h
      refine ⟨h1, fun q hq hq2 => ?_, h3⟩
      by_cases e : q = j
      · subst e; exact fun g => he (by rw [g])
      · exact h2 q (by omega) hq2
theorem fair_l0 (kw : List ByteArray) (ids : List Int) (hl : kw.length ≤ 30) (hlen : ids.length = 0 ∨ ids.length = kw.length) (d : Nat) :
    ∀ i : Nat, i + d = kw.length → ∃ c, Ev (fun k => laws_fair.l0 k kw ids kw (kw.length : Int) (i : Int)) c ∧ (c = true → ∀ x, i ≤ x → ∀ h : x < kw.length, (∀ q, ∀ h : q < x, kw[q] ≠ kw[x]) ∧ 0 < kw[x].size ∧ (∀ h : x < ids.length, 1 ≤ ids[x] ∧ ids[x] ≤ 1048576)) := by
  induction d with
  | zero => intro i hi; exact ⟨true, ev1 0 fun k _ => by simp only [laws_fair.l0]; rw [if_neg (by omega)], fun _ x h1 h2 => by omega⟩
  | succ d ih =>
    intro i hi
    obtain ⟨b, hb, hbb⟩ := ih (i + 1) (by omega)
    obtain ⟨c, ⟨K, hK⟩, hc⟩ := fair_l1 kw ids hl hlen i (by omega) b hb i 0 (by omega)
    dsimp only at hK
    have hr := rdOf_nat ByteArray.empty kw i (by omega)
    refine ⟨c, ev1 K fun k hk => by simp only [laws_fair.l0]; rw [if_pos (by omega), if_pos (by omega), if_pos (by omega), hr]; exact hK k hk, fun h x h1 h2 => ?_⟩
    obtain ⟨g1, g2, g3⟩ := hc h
    by_cases e : x = i
    · subst e; exact ⟨fun q hq => g2 q (Nat.zero_le _) hq, g3⟩
    · exact hbb g1 x (by omega) h2
theorem fair_ev (kw : List ByteArray) (ids : List Int) (hf : Fit4 kw) : ∃ c, Ev (fun k => laws_fair.f k kw ids) c ∧ (c = true → Fair kw ids) := by
  have hT : ∀ b, b = true → ∃ K, ∀ k, K ≤ k → laws_fair.j0 k kw ids b = some false := fun b hb => ⟨1, fun k hk => by
    obtain ⟨m, rfl⟩ : ∃ m, k = m + 1 := ⟨k - 1, by omega⟩
    simp only [laws_fair.j0]; rw [if_pos hb]⟩
  obtain ⟨K1, hK1⟩ := hT true rfl
  by_cases h0 : (kw.length : Int) = 0
  · exact ⟨false, ⟨K1, fun k hk => by simp only [laws_fair.f]; rw [if_pos h0]; exact hK1 k hk⟩, fun h => by cases h⟩
  · by_cases h30 : (kw.length : Int) > 30
    · exact ⟨false, ⟨K1, fun k hk => by simp only [laws_fair.f]; rw [if_neg h0, if_pos h30]; exact hK1 k hk⟩, fun h => by cases h⟩
    · obtain ⟨c, ⟨K2, hK2⟩, hc⟩ := clean_ev 40 kw hf
      dsimp only at hK2
      cases c with
      | false => exact ⟨false, ⟨max K1 K2, fun k hk => by simp only [laws_fair.f]; rw [if_neg h0, if_neg h30, hK2 k (by omega)]; simp only [Option.bind_some]; rw [if_neg (by simp)]; exact hK1 k (by omega)⟩, fun h => by cases h⟩
      | true =>
        by_cases hlen : ids.length = 0 ∨ ids.length = kw.length
        · obtain ⟨c, ⟨K, hK⟩, hcc⟩ := fair_l0 kw ids (by omega) hlen kw.length 0 (by omega)
          dsimp only at hK
          have hj : ∀ k, K + 1 ≤ k → laws_fair.j0 k kw ids false = some c := fun k hk => by
            obtain ⟨m, rfl⟩ : ∃ m, k = m + 1 := ⟨k - 1, by omega⟩
            simp only [laws_fair.j0]; rw [if_neg (by simp)]; exact hK m (by omega)
          refine ⟨c, ⟨max (K + 1) K2, fun k hk => ?_⟩, fun h => ?_⟩
          · simp only [laws_fair.f]
            rw [if_neg h0, if_neg h30, hK2 k (by omega)]
            simp only [Option.bind_some]
            rw [if_pos trivial]
            by_cases hi0 : (ids.length : Int) = 0
            · rw [if_pos hi0]; exact hj k (by omega)
            · rw [if_neg hi0, show ((ids.length : Int) != (kw.length : Int)) = false from bne_eq_false_iff_eq.2 (by rcases hlen with g | g <;> omega)]
              exact hj k (by omega)
          · have hall := hcc h
            refine ⟨by omega, by omega, fun s hs => (hc rfl s hs).1, ?_, fun s hs => ?_, hlen, fun x hx => ?_⟩
            · rw [List.nodup_iff_pairwise_ne, List.pairwise_iff_getElem]
              intro i j hi hj hij
              exact (hall j (Nat.zero_le _) hj).1 i hij
            · obtain ⟨x, hx, rfl⟩ := List.getElem_of_mem hs
              exact (hall x (Nat.zero_le _) hx).2.1
            · obtain ⟨i, hi, rfl⟩ := List.getElem_of_mem hx
              exact (hall i (Nat.zero_le _) (by rcases hlen with g | g <;> omega)).2.2 hi
        · refine ⟨false, ⟨max K1 K2, fun k hk => ?_⟩, fun h => by cases h⟩
          simp only [laws_fair.f]
          rw [if_neg h0, if_neg h30, hK2 k (by omega)]
          simp only [Option.bind_some]
          rw [if_pos trivial, if_neg (by omega), show ((ids.length : Int) != (kw.length : Int)) = true from bne_iff_ne.2 (by omega)]
          exact hK1 k (by omega)
theorem begins_f (u s : ByteArray) : ∃ b, laws_begins.f u s = some b ∧ (b = true ↔ pre s s.size u) := by
  unfold laws_begins.f
  by_cases h : (s.size : Int) ≤ (u.size : Int)
  · rw [if_pos h, if_pos (by omega)]
    refine ⟨_, rfl, ?_⟩
    rw [beq_iff_eq, toList_iff]
    have hsz : (u.extract 0 ((s.size : Int)).toNat).size = s.size := by rw [ByteArray.size_extract]; omega
    constructor
    · intro e
      refine ⟨by omega, fun i hi => ?_⟩
      rw [← e, extract_get u _ i (by omega) (by omega)]
    · rintro ⟨h1, h2⟩
      refine ext_bytes hsz (fun i hi => ?_)
      rw [extract_get u _ i (by omega) (by omega)]
      exact h2 i (by omega)
  · rw [if_neg h]
    exact ⟨false, rfl, by simp [pre]; omega⟩
theorem ahead_l0 (kw : List ByteArray) (s : ByteArray) (hl : kw.length ≤ 2147483647) (d : Nat) : ∀ (i : Nat) (b : Bool), i + d = kw.length → ∃ c, Ev (fun k => laws_ahead.l0 k s b kw (kw.length : Int) (i : Int)) c ∧
    (c = true → b = true ∨ ∃ u ∈ kw, pre s s.size u) ∧ (c = true → ∀ x, i ≤ x → ∀ h : x < kw.length, kw[x] ≠ s) ∧ (c = false → s ∉ kw → b = false ∧ ∀ x, i ≤ x → ∀ h : x < kw.length, ¬ pre s s.size kw[x]) := by
  induction d with
  | zero => intro i b hi; exact ⟨b, ev1 0 fun k _ => by simp only [laws_ahead.l0]; rw [if_neg (by omega)], fun h => .inl h, fun _ x h1 h2 => by omega, fun h _ => ⟨h, fun x h1 h2 => by omega⟩⟩
  | succ d ih =>
    intro i b hi
    have hr := rdOf_nat ByteArray.empty kw i (by omega)
    have hm : kw[i] ∈ kw := List.getElem_mem _
    by_cases he : kw[i].toList = s.toList
    · refine ⟨false, ev1 0 fun k _ => by simp only [laws_ahead.l0]; rw [if_pos (by omega), if_pos (by omega), if_pos (by omega), hr, if_pos he], fun h => (by cases h), fun h => (by cases h), fun _ h => absurd ?_ h⟩
      rw [← toList_inj he]; exact hm
    · obtain ⟨q, q1, q2⟩ := begins_f kw[i] s
      have hne : kw[i] ≠ s := fun g => he (by rw [g])
      cases b with
      | true =>
        obtain ⟨c, ⟨K, hK⟩, h1, h2, h3⟩ := ih (i + 1) true (by omega)
        dsimp only at hK
        refine ⟨c, ev1 K fun k hk => by simp only [laws_ahead.l0]; rw [if_pos (by omega), if_pos (by omega), if_pos (by omega), hr, if_neg he, if_pos trivial, wr1 (by omega) (by omega)]; exact hK k hk, h1, fun h x hx hx2 => ?_, fun h hs => by have := (h3 h hs).1; cases this⟩
        by_cases e : x = i
        · subst e; exact hne
        · exact h2 h x (by omega) hx2
      | false =>
        obtain ⟨c, ⟨K, hK⟩, h1, h2, h3⟩ := ih (i + 1) q (by omega)
        dsimp only at hK
        refine ⟨c, ev1 K fun k hk => by
          simp only [laws_ahead.l0]
          rw [if_pos (by omega), if_pos (by omega), if_pos (by omega), hr, if_neg he, if_neg (by simp), q1]
          simp only [Option.bind_some]
          rw [wr1 (by omega) (by omega)]
          exact hK k hk, fun h => ?_, fun h x hx hx2 => ?_, fun h hs => ?_⟩
        · rcases h1 h with g | g
          · exact .inr ⟨_, hm, q2.1 g⟩
          · exact .inr g
        · by_cases e : x = i
          · subst e; exact hne
          · exact h2 h x (by omega) hx2
        · obtain ⟨g1, g2⟩ := h3 h hs
          refine ⟨rfl, fun x hx hx2 => ?_⟩
          by_cases e : x = i
          · subst e; exact fun g => by rw [q2.2 g] at g1; cases g1
          · exact g2 x (by omega) hx2
/-- 'ahead': no word, but a beginning of one. -/
theorem ahead_ev (kw : List ByteArray) (s : ByteArray) (hl : kw.length ≤ 2147483647) : ∃ c, Ev (fun k => laws_ahead.f k kw s) c ∧ (c = true → s ∉ kw ∧ ∃ u ∈ kw, pre s s.size u) ∧ (c = false → s ∉ kw → ∀ u ∈ kw, ¬ pre s s.size u) := by
  obtain ⟨c, ⟨K, hK⟩, h1, h2, h3⟩ := ahead_l0 kw s hl kw.length 0 false (by omega)
  refine ⟨c, ⟨K, fun k hk => by simp only [laws_ahead.f]; exact hK k hk⟩, fun h => ⟨fun hm => ?_, (h1 h).resolve_left (by simp)⟩, fun h hs u hu => ?_⟩
  · obtain ⟨x, hx, e⟩ := List.getElem_of_mem hm
    exact h2 h x (Nat.zero_le _) hx e
  · obtain ⟨x, hx, rfl⟩ := List.getElem_of_mem hu
    exact (h3 h hs).2 x (Nat.zero_le _) hx
theorem textB_of {s : ByteArray} (h : Clean1 80 s) : textB s := ⟨by have := h.1; omega, clean_nz h⟩
theorem find_ok (kw : List ByteArray) (ids : List Int) (s : ByteArray) (h : Fair kw ids) (ht : textB s) : impl_TrieFind.f kw ids s = some ((find kw (idsOr kw ids) s).1, (find kw (idsOr kw ids) s).2, true) := if_pos ⟨h.goodB, ht⟩
theorem finds_f : laws_finds.f = some true := by
  have h1 : goodB [(⟨#[97]⟩ : ByteArray)] (idsOr [(⟨#[97]⟩ : ByteArray)] [7]) := by decide
  have h2 : textB (⟨#[97]⟩ : ByteArray) := by decide
  have h3 : find [(⟨#[97]⟩ : ByteArray)] (idsOr [(⟨#[97]⟩ : ByteArray)] [7]) (⟨#[97]⟩ : ByteArray) = (7, true) := by decide
  unfold laws_finds.f impl_TrieFind.f
  rw [if_pos ⟨h1, h2⟩, h3]
  rfl
end Go.Proofs.Ytddcjmdcpkmnjab.X
namespace Go.Proofs.Ytddcjmdcpkmnjab.X
open Go.RowKit Go.Proofs.YtddcjmdcpkmnjabW.PrintWords Go.Proofs.YtddcjmdcpkmnjabW.PrintLast Go.Proofs.YtddcjmdcpkmnjabW.PrintMore Go.Proofs.Ytddcjmdcpkmnjab.P Go.Proofs.Ytddcjmdcpkmnjab.Da
theorem sameInts_l0 (a b : List Int) (hl : a.length = b.length) (hn : a.length ≤ 9223372036854775806) (d : Nat) : ∀ i : Nat, i + d = a.length → ∃ c, Ev (fun k => laws_sameInts.l0 k a b (a.length : Int) (i : Int)) c ∧ (c = true ↔ ∀ j, i ≤ j → ∀ (h : j < a.length) (h' : j < b.length), a[j] = b[j]) := by
  induction d with
  | zero => intro i hi; exact ⟨true, ev1 0 fun k _ => by simp only [laws_sameInts.l0]; rw [if_neg (by omega)], fun _ j h1 h2 => by omega, fun _ => rfl⟩
  | succ d ih =>
    intro i hi
    obtain ⟨c, ⟨K, hK⟩, hc⟩ := ih (i + 1) (by omega)
    have ha := rd_nat a i (by omega)
    have hb := rd_nat b i (by omega)
    by_cases he : a[i] = b[i]
    · refine ⟨c, ev1 K fun k hk => ?_, hc.trans ⟨fun h j h1 h2 h3 => ?_, fun h j h1 h2 h3 => h j (by omega) h2 h3⟩⟩
      · simp only [laws_sameInts.l0]
        rw [if_pos (by omega), if_pos (by omega), if_pos (by omega), if_pos (by omega), ha, hb, if_pos (by rw [he]), wr1 (by omega) (by omega)]
        exact hK k hk
      · by_cases e : j = i
        · subst e; exact he
        · exact h j (by omega) h2 h3
    · refine ⟨false, ev1 0 fun k _ => ?_, ⟨fun h => (by cases h), fun h => absurd (h i (Nat.le_refl _) (by omega) (by omega)) he⟩⟩
      simp only [laws_sameInts.l0]
      rw [if_pos (by omega), if_pos (by omega), if_pos (by omega), if_pos (by omega), ha, hb, if_neg (fun h => he (id h))]
theorem sameInts_ev (a b : List Int) (hn : a.length ≤ 9223372036854775806) : ∃ c, Ev (fun k => laws_sameInts.f k a b) c ∧ (c = true ↔ a = b) := by
  by_cases hl : a.length = b.length
  · obtain ⟨c, ⟨K, hK⟩, hc⟩ := sameInts_l0 a b hl hn a.length 0 (by omega)
    refine ⟨c, ⟨K, fun k hk => by simp only [laws_sameInts.f]; rw [if_pos (by omega)]; exact hK k hk⟩, hc.trans ⟨fun h => List.ext_getElem hl fun j h1 h2 => h j (by omega) h1 h2, fun h j _ h1 h2 => by subst h; rfl⟩⟩
  · exact ⟨false, ⟨0, fun k _ => by simp only [laws_sameInts.f]; rw [if_neg (by omega)]⟩, ⟨fun h => (by cases h), fun h => absurd (congrArg List.length h) hl⟩⟩
theorem sameInts_same (a : List Int) (hn : a.length ≤ 9223372036854775806) : Ev (fun k => laws_sameInts.f k a a) true := by
  obtain ⟨c, h, hc⟩ := sameInts_ev a a hn
  have : c = true := hc.2 rfl
  rw [← this]
  exact h
theorem prefixes_ok (kw : List ByteArray) (ids : List Int) (s : ByteArray) (h : X.Fair kw ids) (ht : textB s) : impl_TriePrefixes.f kw ids s = some ((pfx kw (idsOr kw ids) s s.size).map (·.1), (pfx kw (idsOr kw ids) s s.size).map (·.2), true) := if_pos ⟨h.goodB, ht⟩
theorem textB_cut {s : ByteArray} (h : textB s) (n : Nat) (hn : n ≤ s.size) : textB (s.extract 0 n) := by
  have hz : (s.extract 0 n).size = n := by rw [ByteArray.size_extract]; omega
  refine ⟨by have := h.1; omega, fun j hj => ?_⟩
  rw [extract_get s n j (by omega) hn]
  exact h.2 j (by omega)
theorem extract_cut (s : ByteArray) (n t : Nat) (h : t ≤ n) (hn : n ≤ s.size) : (s.extract 0 n).extract 0 t = s.extract 0 t := by
  have h1 : (s.extract 0 n).size = n := by rw [ByteArray.size_extract]; omega
  refine ext_bytes (by simp only [ByteArray.size_extract]; omega) (fun i hi => ?_)
  have hi2 : i < t := by rw [ByteArray.size_extract] at hi; omega
  rw [extract_get _ t i hi2 (by omega), extract_get s n i (by omega) hn, extract_get s t i hi2 (by omega)]
theorem pfx_cut (kw : List ByteArray) (ids : List Int) (s : ByteArray) (n : Nat) (hn : n ≤ s.size) : ∀ t, t ≤ n → pfx kw ids (s.extract 0 n) t = pfx kw ids s t := by
  intro t
  induction t with
  | zero => intro _; rw [pfx_zero, pfx_zero]
  | succ t ih =>
    intro ht
    have e := extract_cut s n (t + 1) ht hn
    have hi := ih (by omega)
    by_cases h : s.extract 0 (t + 1) ∈ kw
    · have h' : (s.extract 0 n).extract 0 (t + 1) ∈ kw := e.symm ▸ h
      have e1 := pfx_hit (kw := kw) (ids := ids) h
      have e2 := pfx_hit (kw := kw) (ids := ids) h'
      rw [e] at e2
      exact e2.trans ((congrArg (· ++ _) hi).trans e1.symm)
    · have h' : ¬ (s.extract 0 n).extract 0 (t + 1) ∈ kw := e.symm ▸ h
      have e1 := pfx_miss (kw := kw) (ids := ids) h
      have e2 := pfx_miss (kw := kw) (ids := ids) h'
      exact e2.trans (hi.trans e1.symm)
theorem pfx_lens (kw : List ByteArray) (ids : List Int) (s : ByteArray) : ∀ t, ∀ x ∈ pfx kw ids s t, 1 ≤ x.2 ∧ x.2 ≤ t := by
  intro t
  induction t with
  | zero => intro x hx; cases hx
  | succ t ih =>
    intro x hx
    by_cases h : s.extract 0 (t + 1) ∈ kw
    · rw [pfx_hit h] at hx
      rcases List.mem_append.1 hx with g | g
      · have := ih x g; omega
      · rw [List.mem_singleton.1 g]; dsimp only; omega
    · rw [pfx_miss h] at hx
      have := ih x hx; omega
theorem pfx_parts (kw : List ByteArray) (ids : List Int) (s : ByteArray) (n : Nat) : ∀ d, ∃ r, pfx kw ids s (n + d) = pfx kw ids s n ++ r ∧ ∀ x ∈ r, (n : Int) < x.2 := by
  intro d
  induction d with
  | zero => exact ⟨[], by simp, by simp⟩
  | succ d ih =>
    obtain ⟨r, h1, h2⟩ := ih
    rw [show n + (d + 1) = n + d + 1 by omega]
    by_cases h : s.extract 0 (n + d + 1) ∈ kw
    · refine ⟨r ++ [(idOf kw ids (s.extract 0 (n + d + 1)), ((n + d : Nat) : Int) + 1)], by rw [pfx_hit h, h1, List.append_assoc], fun x hx => ?_⟩
      rcases List.mem_append.1 hx with g | g
      · exact h2 x g
      · rw [List.mem_singleton.1 g]; dsimp only; omega
    · exact ⟨r, by rw [pfx_miss h, h1], h2⟩
end Go.Proofs.Ytddcjmdcpkmnjab.X
namespace Go.Proofs.Ytddcjmdcpkmnjab.X
open Go.RowKit Go.Proofs.YtddcjmdcpkmnjabW.PrintWords Go.Proofs.YtddcjmdcpkmnjabW.PrintLast Go.Proofs.YtddcjmdcpkmnjabW.PrintMore Go.Proofs.Ytddcjmdcpkmnjab.P Go.Proofs.Ytddcjmdcpkmnjab.Da
/-- The places of u in l, counted from o on. -/
def pl (u : ByteArray) : List ByteArray → Int → List Int
  | [], _ => []
  | x :: xs, o => if x = u then o :: pl u xs (o + 1) else pl u xs (o + 1)
theorem pl_none (u : ByteArray) : ∀ (l : List ByteArray) (o : Int), u ∉ l → pl u l o = [] := by
  intro l
  induction l with
  | nil => intro o _; rfl
  | cons x xs ih =>
    intro o h
    unfold pl
    rw [if_neg (fun e => h (by rw [e]; simp)), ih _ (fun g => h (List.mem_cons_of_mem _ g))]
theorem pl_some (u : ByteArray) : ∀ (l : List ByteArray) (o : Int), Srt l → u ∈ l → pl u l o = (List.range (l.count u)).map (fun i : Nat => o + (l.idxOf u : Int) + (i : Int)) := by
  intro l
  induction l with
  | nil => intro o _ h; cases h
  | cons x xs ih =>
    intro o hs hm
    have hs1 : Srt xs := (List.pairwise_cons.1 hs).2
    have hs2 := (List.pairwise_cons.1 hs).1
    unfold pl
    by_cases e : x = u
    · rw [if_pos e]
      subst e
      by_cases hx : x ∈ xs
      · have h0 : xs.idxOf x = 0 := by
          cases xs with
          | nil => cases hx
          | cons y ys =>
            have hxy := hs2 y (by simp)
            have hyx : y.data.toList ≤ x.data.toList := by
              rcases List.mem_cons.1 hx with g | g
              · rw [g]; exact Std.le_refl _
              · exact (List.pairwise_cons.1 hs1).1 x g
            have h3 : y = x := by
              have h3 := Std.le_antisymm hyx hxy
              cases x; cases y; simpa using h3
            rw [h3, List.idxOf_cons_self]
        rw [ih (o + 1) hs1 hx, h0, List.idxOf_cons_self, List.count_cons_self, List.range_succ_eq_map, List.map_cons, List.map_map]
        congr 1
        · omega
        · refine List.map_congr_left (fun i _ => ?_)
          simp only [Function.comp]
          omega
      · rw [pl_none _ _ _ hx, List.count_cons_self, List.count_eq_zero.2 hx, List.idxOf_cons_self]
        simp
    · rw [if_neg e]
      have hx : u ∈ xs := by
        rcases List.mem_cons.1 hm with g | g
        · exact absurd g.symm e
        · exact g
      have h1 : (x :: xs).count u = xs.count u := List.count_cons_of_ne e
      have h2 : (x :: xs).idxOf u = xs.idxOf u + 1 := by rw [List.idxOf_cons, beq_false_of_ne e]; rfl
      rw [ih (o + 1) hs1 hx, h1, h2]
      refine List.map_congr_left (fun i _ => ?_)
      omega
theorem span_pl {kw : List ByteArray} (hs : Srt kw) {u : ByteArray} (hu : u ∈ kw) : span kw (kw.idxOf u : Int) = pl u kw 0 := by
  rw [pl_some u kw 0 hs hu]
  unfold span cntAt
  have hl := List.idxOf_lt_length_of_mem hu
  have e : kw.getD (kw.idxOf u : Int).toNat ⟨#[]⟩ = u := by
    show kw.getD (kw.idxOf u) ⟨#[]⟩ = u
    rw [getD_at hl, List.getElem_idxOf hl]
  rw [e]
  refine List.map_congr_left (fun i _ => ?_)
  omega
theorem rising_l0 (kw : List ByteArray) (hl : kw.length ≤ 30) (d : Nat) : ∀ i : Nat, i + d = kw.length → ∃ c, Ev (fun k => laws_rising.l0 k kw kw (kw.length : Int) (i : Int)) c ∧ (c = true → ∀ x, i ≤ x → ∀ h : x < kw.length, 0 < kw[x].size ∧ (∀ h0 : 0 < x, (kw[x - 1]'(by omega)).data.toList ≤ kw[x].data.toList)) := by
  induction d with
  | zero => intro i hi; exact ⟨true, ev1 0 fun k _ => by simp only [laws_rising.l0]; rw [if_neg (by omega)], fun _ x h1 h2 => by omega⟩
  | succ d ih =>
    intro i hi
    have hr := rdOf_nat ByteArray.empty kw i (by omega)
    by_cases he : kw[i].toList = ([] : List UInt8)
    · exact ⟨false, ev1 0 fun k _ => by simp only [laws_rising.l0]; rw [if_pos (by omega), if_pos (by omega), if_pos (by omega), hr, if_pos he], fun h => by cases h⟩
    · have hz : 0 < kw[i].size := by
        rcases Nat.eq_zero_or_pos kw[i].size with g | g
        · exact absurd (bytes_nil.2 g) he
        · exact g
      obtain ⟨c, ⟨K, hK⟩, hc⟩ := ih (i + 1) (by omega)
      dsimp only at hK
      by_cases h0 : 0 < i
      · have hw : wrap64 ((i : Int) - 1) = ((i - 1 : Nat) : Int) := by unfold wrap64; omega
        have hr1 := rdOf_nat ByteArray.empty kw (i - 1) (by omega)
        have hb : Op.bytesLess kw[i].toList (kw[i - 1]'(by omega)).toList = decide (kw[i].data.toList < (kw[i - 1]'(by omega)).data.toList) := by
          simp [Go.ByteArray.toList_eq, Go.Proofs.bytesLess_eq]
        by_cases hlt : kw[i].data.toList < (kw[i - 1]'(by omega)).data.toList
        · exact ⟨false, ev1 0 fun k _ => by simp only [laws_rising.l0]; rw [if_pos (by omega), if_pos (by omega), if_pos (by omega), hr, if_neg he, if_pos (by omega), hw, if_pos (by omega), if_pos (by omega), hr1, hb, decide_eq_true hlt]; rfl, fun h => by cases h⟩
        · refine ⟨c, ev1 K fun k hk => by simp only [laws_rising.l0]; rw [if_pos (by omega), if_pos (by omega), if_pos (by omega), hr, if_neg he, if_pos (by omega), hw, if_pos (by omega), if_pos (by omega), hr1, hb, decide_eq_false hlt, if_neg (by simp), wr1 (by omega) (by omega)]; exact hK k hk, fun h x hx hx2 => ?_⟩
          by_cases e : x = i
          · subst e; exact ⟨hz, fun _ => List.not_lt.1 hlt⟩
          · exact hc h x (by omega) hx2
      · refine ⟨c, ev1 K fun k hk => by simp only [laws_rising.l0]; rw [if_pos (by omega), if_pos (by omega), if_pos (by omega), hr, if_neg he, if_neg (by omega), wr1 (by omega) (by omega)]; exact hK k hk, fun h x hx hx2 => ?_⟩
        by_cases e : x = i
        · subst e; exact ⟨hz, fun g => by omega⟩
        · exact hc h x (by omega) hx2
theorem rising_ev (kw : List ByteArray) (hf : Fit4 kw) : ∃ c, Ev (fun k => laws_rising.f k kw) c ∧ (c = true → goodIB kw) := by
  have hT : ∀ k, 1 ≤ k → laws_rising.j0 k kw true = some false := fun k hk => by
    obtain ⟨m, rfl⟩ : ∃ m, k = m + 1 := ⟨k - 1, by omega⟩
    simp only [laws_rising.j0]; rw [if_pos trivial]
  by_cases h0 : (kw.length : Int) = 0
  · exact ⟨false, ⟨1, fun k hk => by simp only [laws_rising.f]; rw [if_pos h0]; exact hT k hk⟩, fun h => by cases h⟩
  · by_cases h30 : (kw.length : Int) > 30
    · exact ⟨false, ⟨1, fun k hk => by simp only [laws_rising.f]; rw [if_neg h0, if_pos h30]; exact hT k hk⟩, fun h => by cases h⟩
    · obtain ⟨c, ⟨K2, hK2⟩, hc⟩ := clean_ev 40 kw hf
      dsimp only at hK2
      cases c with
      | false => exact ⟨false, ⟨max 1 K2, fun k hk => by simp only [laws_rising.f]; rw [if_neg h0, if_neg h30, hK2 k (by omega)]; exact hT k (by omega)⟩, fun h => by cases h⟩
      | true =>
        obtain ⟨c, ⟨K, hK⟩, hcc⟩ := rising_l0 kw (by omega) kw.length 0 (by omega)
        dsimp only at hK
        refine ⟨c, ⟨max (K + 1) K2, fun k hk => ?_⟩, fun h => ?_⟩
        · simp only [laws_rising.f]
          rw [if_neg h0, if_neg h30, hK2 k (by omega)]
          obtain ⟨m, rfl⟩ : ∃ m, k = m + 1 := ⟨k - 1, by omega⟩
          simp only [Option.bind_some, laws_rising.j0]
          rw [if_neg (by simp)]
          exact hK m (by omega)
        · have hall := hcc h
          refine ⟨by omega, by omega, Gn.srt_of kw (fun i hi => ?_), fun s hs => ?_, fun s hs => by have := (hc rfl s hs).1.1; omega, fun s hs => clean_nz (hc rfl s hs).1⟩
          · have := (hall (i + 1) (by omega) hi).2 (by omega)
            simpa using this
          · obtain ⟨x, hx, rfl⟩ := List.getElem_of_mem hs
            exact (hall x (Nat.zero_le _) hx).1
theorem rdL_nat (xs : List (List Int)) (i : Nat) (h : i < xs.length) : rd_L3 xs (i : Int) = xs[i] := by simp [rd_L3, h]
end Go.Proofs.Ytddcjmdcpkmnjab.X
namespace Go.Proofs.Ytddcjmdcpkmnjab.Pure
open Go.RowKit Go.Proofs.YtddcjmdcpkmnjabW.PrintWords Go.Proofs.YtddcjmdcpkmnjabW.PrintLast Go.Proofs.YtddcjmdcpkmnjabW.PrintMore Go.Proofs.Ytddcjmdcpkmnjab.P Go.Proofs.Ytddcjmdcpkmnjab.X Go.Proofs.Ytddcjmdcpkmnjab.Da
/-- The reference ends. -/
theorem fw_l2 (kw : List ByteArray) (ids : List Int) (x : ByteArray) (n i : Nat) (L : List ByteArray) (hL : L.length ≤ 1000) (hn : ∃ c, Ev (fun k => spec_FairWords.l0 k kw ids kw (n : Int) (wrap64 ((i : Int) + 1))) c) (d : Nat) : ∀ j : Nat, j + d = L.length → ∃ c, Ev (fun k => spec_FairWords.l2 k kw ids x kw (n : Int) (i : Int) L (L.length : Int) (j : Int)) c := by
  induction d with
  | zero =>
    intro j hj
    obtain ⟨c, K, hK⟩ := hn
    exact ⟨c, ev1 K fun k hk => by simp only [spec_FairWords.l2]; rw [if_neg (by omega)]; exact hK k hk⟩
  | succ d ih =>
    intro j hj
    obtain ⟨c, K, hK⟩ := ih (j + 1) (by omega)
    dsimp only at hK
    by_cases h : (rdOf ByteArray.empty L (j : Int)).toList = x.toList
    · exact ⟨false, ev1 0 fun k hk => by simp only [spec_FairWords.l2]; rw [if_pos (by omega), if_pos (by omega), if_pos (by omega), if_pos h]⟩
    · exact ⟨c, ev1 K fun k hk => by simp only [spec_FairWords.l2]; rw [if_pos (by omega), if_pos (by omega), if_pos (by omega), if_neg h, wr1 (by omega) (by omega)]; exact hK k hk⟩
theorem fw_l1 (kw : List ByteArray) (ids : List Int) (x : ByteArray) (i : Nat) (hi : i < kw.length) (hl : kw.length ≤ 1000) (hx : x.size ≤ 2147483647) (hn : ∃ c, Ev (fun k => spec_FairWords.l0 k kw ids kw (kw.length : Int) (wrap64 ((i : Int) + 1))) c) (d : Nat) : ∀ j : Nat, j + d = x.size → ∃ c, Ev (fun k => spec_FairWords.l1 k kw ids (i : Int) x kw (kw.length : Int) (i : Int) (x.size : Int) (j : Int)) c := by
  induction d with
  | zero =>
    intro j hj
    obtain ⟨c, K, hK⟩ := fw_l2 kw ids x kw.length i (kw.take i) (by rw [List.length_take]; omega) hn (kw.take i).length 0 (by omega)
    dsimp only at hK
    exact ⟨c, ev1 K fun k hk => by simp only [spec_FairWords.l1]; rw [if_neg (by omega), if_pos (by omega), if_pos (by omega), Int.toNat_natCast]; exact hK k hk⟩
  | succ d ih =>
    intro j hj
    obtain ⟨c, K, hK⟩ := ih (j + 1) (by omega)
    dsimp only at hK
    by_cases h : (bt x (j : Int)) = 0
    · exact ⟨false, ev1 0 fun k hk => by simp only [spec_FairWords.l1]; rw [if_pos (by omega), if_pos (by omega), if_pos (by omega), if_pos h]⟩
    · exact ⟨c, ev1 K fun k hk => by simp only [spec_FairWords.l1]; rw [if_pos (by omega), if_pos (by omega), if_pos (by omega), if_neg h, wr1 (by omega) (by omega)]; exact hK k hk⟩
theorem fw_l0 (kw : List ByteArray) (ids : List Int) (hl : kw.length ≤ 1000) (hf : Fit4 kw) (d : Nat) : ∀ i : Nat, i + d = kw.length → ∃ c, Ev (fun k => spec_FairWords.l0 k kw ids kw (kw.length : Int) (i : Int)) c := by
  induction d with
  | zero =>
    intro i hi
    by_cases h : (ids.length : Int) = 0
    · exact ⟨true, ev1 0 fun k hk => by simp only [spec_FairWords.l0]; rw [if_neg (by omega), if_pos h]⟩
    · exact ⟨_, ev1 0 fun k hk => by simp only [spec_FairWords.l0]; rw [if_neg (by omega), if_neg h]⟩
  | succ d ih =>
    intro i hi
    have hr := rdOf_nat ByteArray.empty kw i (by omega)
    have hz := hf.2 _ (List.getElem_mem (show i < kw.length by omega))
    obtain ⟨c, K, hK⟩ := fw_l1 kw ids (kw[i]'(by omega)) i (by omega) hl hz (by rw [wr1 (by omega) (by omega)]; exact ih (i + 1) (by omega)) _ 0 (Nat.zero_add _)
    dsimp only at hK
    by_cases h : (rdOf ByteArray.empty kw (i : Int)).toList = ([] : List UInt8)
    · exact ⟨false, ev1 0 fun k hk => by simp only [spec_FairWords.l0]; rw [if_pos (by omega), if_pos (by omega), if_pos (by omega), if_pos h]⟩
    · exact ⟨c, ev1 K fun k hk => by simp only [spec_FairWords.l0]; rw [if_pos (by omega), if_pos (by omega), if_pos (by omega), if_neg h, hr]; exact hK k hk⟩
theorem fw_ev (kw : List ByteArray) (ids : List Int) (hl : kw.length ≤ 1000) (hf : Fit4 kw) : ∃ c, Ev (fun k => spec_FairWords.f k kw ids) c := fw_l0 kw ids hl hf kw.length 0 (by omega)
theorem fi_l1 (kw : List ByteArray) (x : ByteArray) (i : Nat) (hx : x.size ≤ 2147483647) (hn : ∃ c, Ev (fun k => spec_FairIndex.l0 k kw kw (kw.length : Int) (wrap64 ((i : Int) + 1))) c) (d : Nat) : ∀ j : Nat, j + d = x.size → ∃ c, Ev (fun k => spec_FairIndex.l1 k kw x kw (kw.length : Int) (i : Int) (x.size : Int) (j : Int)) c := by
  induction d with
  | zero =>
    intro j hj
    obtain ⟨c, K, hK⟩ := hn
    exact ⟨c, ev1 K fun k hk => by simp only [spec_FairIndex.l1]; rw [if_neg (by omega)]; exact hK k hk⟩
  | succ d ih =>
    intro j hj
    obtain ⟨c, K, hK⟩ := ih (j + 1) (by omega)
    dsimp only at hK
    by_cases h : (bt x (j : Int)) = 0
    · exact ⟨false, ev1 0 fun k hk => by simp only [spec_FairIndex.l1]; rw [if_pos (by omega), if_pos (by omega), if_pos (by omega), if_pos h]⟩
    · exact ⟨c, ev1 K fun k hk => by simp only [spec_FairIndex.l1]; rw [if_pos (by omega), if_pos (by omega), if_pos (by omega), if_neg h, wr1 (by omega) (by omega)]; exact hK k hk⟩
theorem fi_l0 (kw : List ByteArray) (hl : kw.length ≤ 1000) (hf : Fit4 kw) (d : Nat) : ∀ i : Nat, i + d = kw.length → ∃ c, Ev (fun k => spec_FairIndex.l0 k kw kw (kw.length : Int) (i : Int)) c := by
  induction d with
  | zero =>
    intro i hi
    exact ⟨true, ev1 0 fun k hk => by simp only [spec_FairIndex.l0]; rw [if_neg (by omega)]⟩
  | succ d ih =>
    intro i hi
    have hr := rdOf_nat ByteArray.empty kw i (by omega)
    have hz := hf.2 _ (List.getElem_mem (show i < kw.length by omega))
    obtain ⟨c, K, hK⟩ := fi_l1 kw (kw[i]'(by omega)) i hz (by rw [wr1 (by omega) (by omega)]; exact ih (i + 1) (by omega)) _ 0 (Nat.zero_add _)
    dsimp only at hK
    have hj : ∀ b : Bool, ∃ c, Ev (fun k => spec_FairIndex.j1 k kw (kw[i]'(by omega)) kw (kw.length : Int) (i : Int) b) c := fun b => by
      cases b with
      | true => exact ⟨false, ev1 0 fun k hk => by simp only [spec_FairIndex.j1]; rw [if_pos trivial]⟩
      | false => exact ⟨c, ev1 K fun k hk => by simp only [spec_FairIndex.j1]; rw [if_neg (by simp)]; exact hK k hk⟩
    by_cases h : (rdOf ByteArray.empty kw (i : Int)).toList = ([] : List UInt8)
    · obtain ⟨c, K, hK⟩ := hj true
      dsimp only at hK
      exact ⟨c, ev1 K fun k hk => by simp only [spec_FairIndex.l0]; rw [if_pos (by omega), if_pos (by omega), if_pos (by omega), if_pos h, hr]; exact hK k hk⟩
    · by_cases h0 : (i : Int) > 0
      · have hw : wrap64 ((i : Int) - 1) = ((i - 1 : Nat) : Int) := by unfold wrap64; omega
        obtain ⟨c, K, hK⟩ := hj (Op.bytesLess ((rdOf ByteArray.empty kw (i : Int)).toList) ((rdOf ByteArray.empty kw (wrap64 ((i : Int) - 1))).toList))
        dsimp only at hK
        exact ⟨c, ev1 K fun k hk => by
          have := hK k hk
          simp only [spec_FairIndex.l0]; rw [if_pos (by omega), if_pos (by omega), if_pos (by omega), if_neg h, if_pos h0, if_pos (by omega), if_pos (by omega)]
          rw [← hr] at this
          exact this⟩
      · obtain ⟨c, K, hK⟩ := hj false
        dsimp only at hK
        exact ⟨c, ev1 K fun k hk => by simp only [spec_FairIndex.l0]; rw [if_pos (by omega), if_pos (by omega), if_pos (by omega), if_neg h, if_neg h0, hr]; exact hK k hk⟩
theorem fi_ev (kw : List ByteArray) (hl : kw.length ≤ 1000) (hf : Fit4 kw) : ∃ c, Ev (fun k => spec_FairIndex.f k kw) c := fi_l0 kw hl hf kw.length 0 (by omega)
/-- The reference's search. -/
theorem num_id (kw : List ByteArray) (ids : List Int) (h : X.Fair kw ids) (i : Nat) (hi : i < kw.length) : spec_number.f ids (i : Int) = some (idOf kw (idsOr kw ids) kw[i]) := by
  have hmost := h.most
  unfold spec_number.f idOf idsOr
  rw [h.nd.idxOf_getElem i hi]
  rcases h.len with e | e
  · rw [if_neg (by omega), if_pos e, wr1 (by omega) (by omega)]
    unfold Da.nums
    rw [List.getD_eq_getElem?_getD, List.getElem?_map, List.getElem?_range hi]; rfl
  · rw [if_pos (by omega), if_pos (by omega), if_neg (by have := h.pos; omega), rd_nat ids i (by omega), List.getD_eq_getElem?_getD, List.getElem?_eq_getElem (by omega)]
    rfl
theorem stf_l0 (kw : List ByteArray) (ids : List Int) (h : X.Fair kw ids) (u : ByteArray) (d : Nat) : ∀ i : Nat, i + d = kw.length → Ev (fun k => spec_TrieFind.l0 k ids u kw (kw.length : Int) (i : Int)) (if u ∈ kw.drop i then (idOf kw (idsOr kw ids) u, true) else (0, false)) := by
  have hmost := h.most
  induction d with
  | zero =>
    intro i hi
    rw [List.drop_of_length_le (by omega), if_neg (by simp)]
    exact ev1 0 fun k hk => by simp only [spec_TrieFind.l0]; rw [if_neg (by omega)]
  | succ d ih =>
    intro i hi
    have hlt : i < kw.length := by omega
    have hdr : kw.drop i = kw[i] :: kw.drop (i + 1) := List.drop_eq_getElem_cons hlt
    have hr := rdOf_nat ByteArray.empty kw i hlt
    obtain ⟨K, hK⟩ := ih (i + 1) (by omega)
    dsimp only at hK
    by_cases e : kw[i] = u
    · rw [if_pos (by rw [hdr, e]; exact List.mem_cons_self)]
      exact ev1 0 fun k hk => by
        simp only [spec_TrieFind.l0]
        rw [if_pos (by omega), if_pos (by omega), if_pos (by omega), if_pos (by rw [hr, e]), num_id kw ids h i hlt, ← e]
        rfl
    · have hiff : (u ∈ kw.drop i) ↔ u ∈ kw.drop (i + 1) := by
        rw [hdr, List.mem_cons]
        exact ⟨fun g => g.resolve_left (fun q => e q.symm), .inr⟩
      simp only [hiff]
      exact ev1 K fun k hk => by
        simp only [spec_TrieFind.l0]
        rw [if_pos (by omega), if_pos (by omega), if_pos (by omega), if_neg (fun g => e (by rw [hr] at g; exact toList_inj g)), wr1 (by omega) (by omega)]
        exact hK k hk
theorem stf_ev (kw : List ByteArray) (ids : List Int) (h : X.Fair kw ids) (u : ByteArray) : Ev (fun k => spec_TrieFind.f k kw ids u) (if u ∈ kw then (idOf kw (idsOr kw ids) u, true) else (0, false)) := stf_l0 kw ids h u kw.length 0 (by omega)
theorem stp_l0 (kw : List ByteArray) (ids : List Int) (h : X.Fair kw ids) (s : ByteArray) (hs : s.size ≤ 1000) (d : Nat) : ∀ n : Nat, n + d = s.size → Ev (fun k => spec_TriePrefixes.l0 k kw ids s ((pfx kw (idsOr kw ids) s n).map (·.1)) ((pfx kw (idsOr kw ids) s n).map (·.2)) ((n : Int) + 1)) ((pfx kw (idsOr kw ids) s s.size).map (·.1), (pfx kw (idsOr kw ids) s s.size).map (·.2)) := by
  induction d with
  | zero =>
    intro n hn
    obtain rfl : n = s.size := by omega
    exact ev1 0 fun k hk => by simp only [spec_TriePrefixes.l0]; rw [if_neg (by omega)]
  | succ d ih =>
    intro n hn
    have hlen := pfx_len kw (idsOr kw ids) s n
    obtain ⟨K, hK⟩ := ih (n + 1) (by omega)
    obtain ⟨K1, h1⟩ := stf_ev kw ids h (s.extract 0 (n + 1))
    dsimp only at hK h1
    have e0 : ((n : Int) + 1).toNat = n + 1 := by omega
    have hw : wrap64 ((n : Int) + 1 + 1) = ((n + 1 : Nat) : Int) + 1 := by unfold wrap64; omega
    refine ev1 (max K K1) fun k hk => ?_
    simp only [spec_TriePrefixes.l0]
    rw [if_pos (by omega), if_pos (by omega), e0, h1 k (by omega)]
    simp only [Option.bind_some]
    by_cases hm : s.extract 0 (n + 1) ∈ kw
    · rw [if_pos hm, if_pos rfl, if_pos (by rw [List.length_map]; omega), if_pos (by rw [List.length_map]; omega), hw]
      have := hK k (by omega)
      rw [pfx_hit hm] at this
      simpa using this
    · rw [if_neg hm, if_neg (by simp), hw]
      have := hK k (by omega)
      rw [pfx_miss hm] at this
      exact this
theorem stp_ev (kw : List ByteArray) (ids : List Int) (h : X.Fair kw ids) (s : ByteArray) (hs : s.size ≤ 1000) : Ev (fun k => spec_TriePrefixes.f k kw ids s) ((pfx kw (idsOr kw ids) s s.size).map (·.1), (pfx kw (idsOr kw ids) s s.size).map (·.2)) := stp_l0 kw ids h s hs s.size 0 (by omega)
theorem stl_ev (kw : List ByteArray) (ids : List Int) (h : X.Fair kw ids) (s : ByteArray) (hs : s.size ≤ 1000) : Ev (fun k => spec_TrieLongest.f k kw ids s) (longest (pfx kw (idsOr kw ids) s s.size)) := by
  obtain ⟨K, hK⟩ := stp_ev kw ids h s hs
  have hlen := pfx_len kw (idsOr kw ids) s s.size
  dsimp only at hK
  refine ⟨K, fun k hk => ?_⟩
  simp only [spec_TrieLongest.f]
  rw [hK k hk]
  simp only [Option.bind_some]
  generalize pfx kw (idsOr kw ids) s s.size = L at *
  rcases List.eq_nil_or_concat L with rfl | ⟨L', x, rfl⟩
  · simp [longest]
  · rw [List.concat_eq_append] at *
    rw [longest_app]
    have hn : ((List.map (fun x => x.1) (L' ++ [x])).length : Int) = (L'.length : Int) + 1 := by simp
    have hw : wrap64 (((L'.length : Int) + 1) - 1) = (L'.length : Int) := by rw [List.length_append] at hlen; unfold wrap64; omega
    rw [hn, hw, if_neg (by omega), if_pos (by omega), if_pos (by omega), rd_nat _ L'.length (by simp)]
    simp
theorem sis_l0 (kw : List ByteArray) (u : ByteArray) (hl : kw.length ≤ 1000) (d : Nat) : ∀ (i : Nat) (acc : List Int), i + d = kw.length → acc.length ≤ i → Ev (fun k => spec_IndexSearch.l0 k u acc kw (kw.length : Int) (i : Int)) (acc ++ pl u (kw.drop i) (i : Int)) := by
  induction d with
  | zero =>
    intro i acc hi ha
    rw [List.drop_of_length_le (by omega)]
    exact ev1 0 fun k hk => by simp only [spec_IndexSearch.l0]; rw [if_neg (by omega)]; simp [pl]
  | succ d ih =>
    intro i acc hi ha
    have hlt : i < kw.length := by omega
    have hdr : kw.drop i = kw[i] :: kw.drop (i + 1) := List.drop_eq_getElem_cons hlt
    have hr := rdOf_nat ByteArray.empty kw i hlt
    rw [hdr]
    by_cases e : kw[i] = u
    · obtain ⟨K, hK⟩ := ih (i + 1) (acc ++ [(i : Int)]) (by omega) (by simp; omega)
      dsimp only at hK
      exact ev1 K fun k hk => by
        simp only [spec_IndexSearch.l0]
        rw [if_pos (by omega), if_pos (by omega), if_pos (by omega), if_pos (by rw [hr, e]), if_pos (by omega), wr1 (by omega) (by omega)]
        have := hK k hk
        simp only [pl, e, if_true]
        simpa using this
    · obtain ⟨K, hK⟩ := ih (i + 1) acc (by omega) (by omega)
      dsimp only at hK
      exact ev1 K fun k hk => by
        simp only [spec_IndexSearch.l0]
        rw [if_pos (by omega), if_pos (by omega), if_pos (by omega), if_neg (fun g => e (by rw [hr] at g; exact toList_inj g)), wr1 (by omega) (by omega)]
        have := hK k hk
        simp only [pl, e, if_false]
        simpa using this
theorem sis_ev (kw : List ByteArray) (u : ByteArray) (hl : kw.length ≤ 1000) : Ev (fun k => spec_IndexSearch.f k kw u) (pl u kw 0) := by
  have := sis_l0 kw u hl kw.length 0 [] (by omega) (by simp)
  rw [List.drop_zero, List.nil_append] at this
  exact this
theorem pl_len {kw : List ByteArray} (hs : Srt kw) (hl : kw.length ≤ 1000) (u : ByteArray) : (pl u kw 0).length ≤ 1000 ∧ (0 < (pl u kw 0).length ↔ u ∈ kw) := by
  by_cases hm : u ∈ kw
  · rw [← span_pl hs hm]
    have h1 := (IdOk.cnt ⟨_, hm, rfl⟩ : _)
    unfold span
    rw [List.length_map, List.length_range]
    exact ⟨by omega, fun _ => hm, fun _ => by omega⟩
  · rw [pl_none _ _ _ hm]
    exact ⟨by simp, fun h => by simp at h, fun h => absurd h hm⟩
theorem sip_l0 (kw : List ByteArray) (hs : Srt kw) (hl : kw.length ≤ 1000) (s : ByteArray) (hz : s.size ≤ 1000) (d : Nat) : ∀ n : Nat, n + d = s.size → Ev (fun k => spec_IndexPrefixes.l0 k kw s ((pfx kw (iota kw.length) s n).map (·.2)) (spans kw (pfx kw (iota kw.length) s n)) ((n : Int) + 1)) ((pfx kw (iota kw.length) s s.size).map (·.2), spans kw (pfx kw (iota kw.length) s s.size)) := by
  induction d with
  | zero =>
    intro n hn
    obtain rfl : n = s.size := by omega
    exact ev1 0 fun k hk => by simp only [spec_IndexPrefixes.l0]; rw [if_neg (by omega)]
  | succ d ih =>
    intro n hn
    have hlen := pfx_len kw (iota kw.length) s n
    obtain ⟨K, hK⟩ := ih (n + 1) (by omega)
    obtain ⟨K1, h1⟩ := sis_ev kw (s.extract 0 (n + 1)) hl
    dsimp only at hK h1
    have e0 : ((n : Int) + 1).toNat = n + 1 := by omega
    have hw : wrap64 ((n : Int) + 1 + 1) = ((n + 1 : Nat) : Int) + 1 := by unfold wrap64; omega
    have hp := (pl_len hs hl (s.extract 0 (n + 1))).2
    refine ev1 (max K K1) fun k hk => ?_
    simp only [spec_IndexPrefixes.l0]
    rw [if_pos (by omega), if_pos (by omega), e0, h1 k (by omega)]
    simp only [Option.bind_some]
    by_cases hm : s.extract 0 (n + 1) ∈ kw
    · rw [if_pos (by have := hp.2 hm; omega), if_pos (by rw [List.length_map]; omega), if_pos (by unfold spans; rw [List.length_map]; omega), hw]
      have := hK k (by omega)
      rw [pfx_hit hm, iota_id hm] at this
      unfold spans at this ⊢
      rw [List.map_append, List.map_append] at this
      simp only [List.map_cons, List.map_nil] at this
      rw [span_pl hs hm] at this
      exact this
    · rw [if_neg (fun g => hm (hp.1 (by omega))), hw]
      have := hK k (by omega)
      rw [pfx_miss hm] at this
      exact this
theorem sip_ev (kw : List ByteArray) (hs : Srt kw) (hl : kw.length ≤ 1000) (s : ByteArray) (hz : s.size ≤ 1000) : Ev (fun k => spec_IndexPrefixes.f k kw s) ((pfx kw (iota kw.length) s s.size).map (·.2), spans kw (pfx kw (iota kw.length) s s.size)) := sip_l0 kw hs hl s hz s.size 0 (by omega)
theorem ts_isearch {kw : List ByteArray} (hg : goodIB kw) {s : ByteArray} (ha : s ∉ kw → ∀ u ∈ kw, ¬ pre s s.size u) : isearch kw s = pl s kw 0 := by
  by_cases hm : s ∈ kw
  · have hz := hg.2.2.2.1 s hm
    have hfd : find kw (iota kw.length) s = ((kw.idxOf s : Int), true) := by
      unfold find
      rw [if_neg (by omega), if_pos hm, iota_id hm]
    unfold isearch
    rw [hfd]
    exact span_pl hg.2.2.1 hm
  · rw [pl_none _ _ _ hm]
    have hfd : find kw (iota kw.length) s = (0, false) := by
      unfold find
      by_cases hz : s.size = 0
      · rw [if_pos hz]
      · rw [if_neg hz, if_neg hm]
        have : (kw.any fun u => decide (pre s s.size u)) = false := by
          rw [List.any_eq_false]
          intro u hu
          simpa using ha hm u hu
        rw [this]
    unfold isearch
    rw [hfd]
    rfl
theorem ts_find {kw : List ByteArray} {ids : List Int} (h : X.Fair kw ids) {s : ByteArray} (ha : s ∉ kw → ∀ u ∈ kw, ¬ pre s s.size u) : find kw (idsOr kw ids) s = if s ∈ kw then (idOf kw (idsOr kw ids) s, true) else (0, false) := by
  unfold find
  by_cases hm : s ∈ kw
  · have hz := h.ne s hm
    rw [if_neg (by omega)]
    simp only [hm, if_true]
  · rw [if_neg hm, if_neg hm]
    by_cases hz : s.size = 0
    · rw [if_pos hz]
    · rw [if_neg hz]
      have : (kw.any fun u => decide (pre s s.size u)) = false := by
        rw [List.any_eq_false]
        intro u hu
        simpa using ha hm u hu
      rw [this]
theorem ts_loop (l : List (List Int)) (hl : l.length ≤ 1000) (hx : ∀ x ∈ l, x.length ≤ 1000) (d : Nat) : ∀ i : Nat, i + d = l.length → Ev (fun k => laws_FnTriesSay.l0 k l l (l.length : Int) (i : Int)) true := by
  induction d with
  | zero => intro i hi; exact ev1 0 fun k hk => by simp only [laws_FnTriesSay.l0]; rw [if_neg (by omega)]
  | succ d ih =>
    intro i hi
    obtain ⟨K, hK⟩ := ih (i + 1) (by omega)
    have hr := rdL_nat l i (by omega)
    obtain ⟨K1, h1⟩ := sameInts_same (l[i]'(by omega)) (by have := hx _ (List.getElem_mem (show i < l.length by omega)); omega)
    dsimp only at hK h1
    exact ev1 (max K K1) fun k hk => by
      simp only [laws_FnTriesSay.l0]
      rw [if_pos (by omega), if_pos (by omega), if_pos (by omega), if_pos (by omega), hr, h1 k (by omega)]
      simp only [Option.bind_some, if_true]
      rw [wr1 (by omega) (by omega)]
      exact hK k (by omega)
theorem ts_j5 (kw : List ByteArray) (s : ByteArray) (hg : goodIB kw) (ht : textB s) (ha : s ∉ kw → ∀ u ∈ kw, ¬ pre s s.size u) : Ev (fun k => laws_FnTriesSay.j5 k kw s false) true := by
  have hs := hg.2.2.1
  have hmost := hg.2.1
  have hf1 : impl_IndexSearch.f kw s = some (isearch kw s, true) := if_pos ⟨hg, ht⟩
  have hf2 : impl_IndexPrefixes.f kw s = some ((pfx kw (iota kw.length) s s.size).map (·.2), spans kw (pfx kw (iota kw.length) s s.size), true) := if_pos ⟨hg, ht⟩
  have hlen := pfx_len kw (iota kw.length) s s.size
  have hz := ht.1
  rw [ts_isearch hg ha] at hf1
  obtain ⟨K1, h1⟩ := sip_ev kw hs (by omega) s ht.1
  obtain ⟨K2, h2⟩ := sis_ev kw s (by omega)
  obtain ⟨K3, h3⟩ := sameInts_same (pl s kw 0) (by have := (pl_len hs (by omega) s).1; omega)
  obtain ⟨K4, h4⟩ := sameInts_same ((pfx kw (iota kw.length) s s.size).map (·.2)) (by rw [List.length_map]; omega)
  obtain ⟨K5, h5⟩ := ts_loop (spans kw (pfx kw (iota kw.length) s s.size)) (by unfold spans; rw [List.length_map]; omega) (by
    intro x hx
    unfold spans at hx
    obtain ⟨y, hy, rfl⟩ := List.mem_map.1 hx
    have := (IdOk.cnt (pfx_ok_id y hy)).2.1
    unfold span
    rw [List.length_map, List.length_range]
    omega) _ 0 (Nat.zero_add _)
  dsimp only at h1 h2 h3 h4 h5
  exact ev1 (max (max K1 K2) (max (max K3 K4) K5) + 1) fun k hk => by
    obtain ⟨m, rfl⟩ : ∃ m, k = m + 1 := ⟨k - 1, by omega⟩
    simp only [laws_FnTriesSay.j5]
    rw [if_neg (by simp), hf1, hf2]
    simp only [Option.bind_some, if_true]
    rw [h1 (m + 1) (by omega), h2 (m + 1) (by omega)]
    simp only [Option.bind_some]
    rw [h3 (m + 1) (by omega), h4 (m + 1) (by omega)]
    simp only [Option.bind_some, if_true, bne_self_eq_false]
    simp only [laws_FnTriesSay.j6]
    rw [if_neg (by simp)]
    exact h5 m (by omega)
theorem ts_j4 (kw : List ByteArray) (s : ByteArray) (hf : Fit4 kw) (hl : kw.length ≤ 30) (ht : textB s) (ha : s ∉ kw → ∀ u ∈ kw, ¬ pre s s.size u) : Ev (fun k => laws_FnTriesSay.j4 k kw s) true := by
  obtain ⟨c1, K1, h1⟩ := fi_ev kw (by omega) hf
  obtain ⟨c2, ⟨K2, h2⟩, g2⟩ := rising_ev kw hf
  dsimp only at h1 h2
  have hT : ∀ k, 1 ≤ k → laws_FnTriesSay.j5 k kw s true = some true := fun k hk => by
    obtain ⟨m, rfl⟩ : ∃ m, k = m + 1 := ⟨k - 1, by omega⟩
    simp only [laws_FnTriesSay.j5]; rw [if_pos trivial]
  have key : ∃ K, c2 = true → ∀ k, K ≤ k → laws_FnTriesSay.j5 k kw s false = some true := by
    cases c2 with
    | false => exact ⟨0, fun h => by cases h⟩
    | true => obtain ⟨K, h⟩ := ts_j5 kw s (g2 rfl) ht ha; exact ⟨K, fun _ => h⟩
  obtain ⟨K3, h3⟩ := key
  exact ev1 (max (max K1 K2) (max K3 1)) fun k hk => by
    simp only [laws_FnTriesSay.j4]
    rw [h1 k (by omega)]
    simp only [Option.bind_some]
    cases c1 with
    | false => rw [if_neg (by simp)]; exact hT k (by omega)
    | true =>
      rw [if_pos rfl, h2 k (by omega)]
      simp only [Option.bind_some]
      cases c2 with
      | false => exact hT k (by omega)
      | true => exact h3 rfl k (by omega)
theorem ts_j3 (kw : List ByteArray) (ids : List Int) (s : ByteArray) (hf : Fit4 kw) (h : X.Fair kw ids) (ht : textB s) (ha : s ∉ kw → ∀ u ∈ kw, ¬ pre s s.size u) : Ev (fun k => laws_FnTriesSay.j3 k kw ids s false) true := by
  obtain ⟨K1, h1⟩ := ts_j4 kw s hf h.most ht ha
  obtain ⟨K2, h2⟩ := stl_ev kw ids h s ht.1
  have hl : impl_TrieLongest.f kw ids s = some ((longest (pfx kw (idsOr kw ids) s s.size)).1, (longest (pfx kw (idsOr kw ids) s s.size)).2, true) := if_pos ⟨h.goodB, ht⟩
  dsimp only at h1 h2
  exact ev1 (max K1 K2) fun k hk => by
    simp only [laws_FnTriesSay.j3]
    rw [if_neg (by simp), hl]
    simp only [Option.bind_some]
    rw [h2 k (by omega)]
    simp only [Option.bind_some, if_true, bne_self_eq_false]
    rw [h1 k (by omega)]
    simp
theorem ts_j2 (kw : List ByteArray) (ids : List Int) (s : ByteArray) (hf : Fit4 kw) (h : X.Fair kw ids) (ht : textB s) (ha : s ∉ kw → ∀ u ∈ kw, ¬ pre s s.size u) : Ev (fun k => laws_FnTriesSay.j2 k kw ids s true) true := by
  have hlen := pfx_len kw (idsOr kw ids) s s.size
  have hz := ht.1
  obtain ⟨K1, h1⟩ := stf_ev kw ids h s
  obtain ⟨K2, h2⟩ := stp_ev kw ids h s ht.1
  obtain ⟨K3, h3⟩ := ts_j3 kw ids s hf h ht ha
  have hfd := find_ok kw ids s h ht
  have hp := prefixes_ok kw ids s h ht
  rw [ts_find h ha] at hfd
  obtain ⟨K4, h4⟩ := sameInts_same ((pfx kw (idsOr kw ids) s s.size).map (·.1)) (by rw [List.length_map]; omega)
  obtain ⟨K5, h5⟩ := sameInts_same ((pfx kw (idsOr kw ids) s s.size).map (·.2)) (by rw [List.length_map]; omega)
  dsimp only at h1 h2 h3 h4 h5
  exact ev1 (max (max K1 K2) (max (max K3 K4) K5)) fun k hk => by
    simp only [laws_FnTriesSay.j2]
    rw [if_pos trivial, hfd, hp]
    simp only [Option.bind_some]
    rw [h1 k (by omega), h2 k (by omega)]
    simp only [Option.bind_some, if_true, bne_self_eq_false]
    rw [h4 k (by omega)]
    simp only [Option.bind_some, if_true]
    rw [h5 k (by omega)]
    simp only [Option.bind_some, Bool.not_true]
    rw [h3 k (by omega)]
    simp
theorem ts_j2f (kw : List ByteArray) (ids : List Int) (s : ByteArray) (hf : Fit4 kw) (hl : kw.length ≤ 30) (ht : textB s) (ha : s ∉ kw → ∀ u ∈ kw, ¬ pre s s.size u) : Ev (fun k => laws_FnTriesSay.j2 k kw ids s false) true := by
  obtain ⟨K1, h1⟩ := ts_j4 kw s hf hl ht ha
  dsimp only at h1
  exact ev1 K1 fun k hk => by
    simp only [laws_FnTriesSay.j2]
    rw [if_neg (by simp)]
    exact h1 k hk
theorem ts_j1 (kw : List ByteArray) (ids : List Int) (s : ByteArray) (hf : Fit4 kw) (hl : kw.length ≤ 30) (ht : textB s) : Ev (fun k => laws_FnTriesSay.j1 k kw ids s false) true := by
  obtain ⟨c3, ⟨K3, h3⟩, _, g3⟩ := ahead_ev kw s hf.1
  obtain ⟨c1, K1, h1⟩ := fw_ev kw ids (by omega) hf
  obtain ⟨c2, ⟨K2, h2⟩, g2⟩ := fair_ev kw ids hf
  dsimp only at h1 h2 h3
  cases c3 with
  | true =>
    exact ev1 K3 fun k hk => by
      simp only [laws_FnTriesSay.j1]
      rw [if_neg (by simp), h3 k hk]
      simp only [Option.bind_some, if_true]
  | false =>
    obtain ⟨K4, h4⟩ := ts_j2f kw ids s hf hl ht (g3 rfl)
    have key : ∃ K, ∀ k, K ≤ k → laws_FnTriesSay.j2 k kw ids s c2 = some true := by
      cases c2 with
      | false => exact ⟨K4, h4⟩
      | true => exact ts_j2 kw ids s hf (g2 rfl) ht (g3 rfl)
    obtain ⟨K5, h5⟩ := key
    dsimp only at h4
    exact ev1 (max (max K1 K2) (max (max K3 K4) K5)) fun k hk => by
      simp only [laws_FnTriesSay.j1]
      rw [if_neg (by simp), h3 k (by omega)]
      simp only [Option.bind_some]
      rw [if_neg (by simp), h1 k (by omega)]
      simp only [Option.bind_some]
      cases c1 with
      | false => rw [if_neg (by simp)]; exact h4 k (by omega)
      | true =>
        rw [if_pos rfl, h2 k (by omega)]
        simp only [Option.bind_some]
        exact h5 k (by omega)
theorem ts_j0 (kw : List ByteArray) (ids : List Int) (s : ByteArray) (hf : Fit4 kw) (hs : s.size ≤ 2147483647) : Ev (fun k => laws_FnTriesSay.j0 k kw ids s false) true := by
  have hT : ∀ k, 1 ≤ k → laws_FnTriesSay.j1 k kw ids s true = some true := fun k hk => by
    obtain ⟨m, rfl⟩ : ∃ m, k = m + 1 := ⟨k - 1, by omega⟩
    simp only [laws_FnTriesSay.j1]; rw [if_pos trivial]
  by_cases hl : (kw.length : Int) > 30
  · exact ev1 1 fun k hk => by
      simp only [laws_FnTriesSay.j0]
      rw [if_neg (by simp), finds_f]
      simp only [Option.bind_some, if_true]
      rw [if_pos hl]
      exact hT k hk
  · obtain ⟨c1, ⟨K1, h1⟩, _⟩ := clean_ev 40 kw hf
    obtain ⟨c2, ⟨K2, h2⟩, g2⟩ := clean_ev 80 [s] ⟨by simp, by simpa using hs⟩
    dsimp only at h1 h2
    have key : ∃ K, c2 = true → ∀ k, K ≤ k → laws_FnTriesSay.j1 k kw ids s false = some true := by
      cases c2 with
      | false => exact ⟨0, fun h => by cases h⟩
      | true => obtain ⟨K, h⟩ := ts_j1 kw ids s hf (by omega) (textB_of ((g2 rfl s (by simp)).1)); exact ⟨K, fun _ => h⟩
    obtain ⟨K3, h3⟩ := key
    exact ev1 (max (max K1 K2) (max K3 1)) fun k hk => by
      simp only [laws_FnTriesSay.j0]
      rw [if_neg (by simp), finds_f]
      simp only [Option.bind_some, if_true]
      rw [if_neg hl, h1 k (by omega)]
      simp only [Option.bind_some]
      cases c1 with
      | false => rw [if_neg (by simp)]; exact hT k (by omega)
      | true =>
        rw [if_pos rfl, h2 k (by omega)]
        simp only [Option.bind_some]
        cases c2 with
        | false => exact hT k (by omega)
        | true => exact h3 rfl k (by omega)
theorem FnTriesSay (x0 : List ByteArray) (x1 : List Int) (x2 : ByteArray) (g0 : x0.length ≤ 9223372036854775807 ∧ ∀ y0 ∈ x0, y0.size ≤ 9223372036854775807) (g1 : x1.length ≤ 9223372036854775807 ∧ ∀ y0 ∈ x1, (Lit.int .i64 y0).wf = true) (g2 : x2.size ≤ 9223372036854775807) : ∃ k, laws_FnTriesSay.f k x0 x1 x2 = some true := by
  obtain ⟨b, ⟨K, hK⟩, hb⟩ := fit4 x0
  dsimp only at hK
  have hT : ∀ k, 1 ≤ k → laws_FnTriesSay.j0 k x0 x1 x2 true = some true := fun k hk => by
    obtain ⟨m, rfl⟩ : ∃ m, k = m + 1 := ⟨k - 1, by omega⟩
    simp only [laws_FnTriesSay.j0]; rw [if_pos trivial]
  cases b with
  | false =>
    refine ⟨max K 1, ?_⟩
    simp only [laws_FnTriesSay.f]
    rw [hK _ (by omega)]
    simp only [Option.bind_some]
    rw [if_neg (by simp)]
    exact hT _ (by omega)
  | true =>
    by_cases h1 : (x1.length : Int) > 2147483647
    · refine ⟨max K 1, ?_⟩
      simp only [laws_FnTriesSay.f]
      rw [hK _ (by omega)]
      simp only [Option.bind_some]
      rw [if_pos trivial, if_pos h1]
      exact hT _ (by omega)
    · by_cases h2 : (x2.size : Int) > 2147483647
      · refine ⟨max K 1, ?_⟩
        simp only [laws_FnTriesSay.f]
        rw [hK _ (by omega)]
        simp only [Option.bind_some]
        rw [if_pos trivial, if_neg h1, decide_eq_true h2]
        exact hT _ (by omega)
      · obtain ⟨K2, hK2⟩ := ts_j0 x0 x1 x2 (hb rfl) (by omega)
        dsimp only at hK2
        refine ⟨max K K2, ?_⟩
        simp only [laws_FnTriesSay.f]
        rw [hK _ (by omega)]
        simp only [Option.bind_some]
        rw [if_pos trivial, if_neg h1, decide_eq_false h2]
        exact hK2 _ (by omega)
end Go.Proofs.Ytddcjmdcpkmnjab.Pure
