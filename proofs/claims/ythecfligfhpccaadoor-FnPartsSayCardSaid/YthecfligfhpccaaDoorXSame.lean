/- Plain facts: whether two lists are alike is told. -/
import Derived.Test.YthecfligfhpccaaDoorXEv
import Derived.Test.YthecfligfhpccaaDoorP11
import Derived.Test.YthecfligfhpccaaDoorP17
set_option linter.unusedVariables false
namespace Go.Proofs.YthecfligfhpccaaDoor.X
open Go.RowKit Go.Proofs.YthecfligfhpccaaDoorW.PrintWords Go.Proofs.YthecfligfhpccaaDoorW.PrintLast Go.Proofs.YthecfligfhpccaaDoorW.PrintMore Go.Proofs.YthecfligfhpccaaDoor.P

theorem sameTexts_l0 (a b : List ByteArray) (hl : a.length = b.length) (hn : a.length ≤ 9223372036854775806) (d : Nat) : ∀ i : Nat, i + d = a.length → ∃ c, Ev (fun k => laws_sameTexts.l0 k a b (a.length : Int) (i : Int)) c ∧ (c = true ↔ ∀ j, i ≤ j → ∀ (h : j < a.length) (h' : j < b.length), a[j] = b[j]) := by
  induction d with
  | zero => intro i hi; exact ⟨true, ev1 0 fun k _ => by simp only [laws_sameTexts.l0]; rw [if_neg (by omega)], fun _ j h1 h2 => by omega, fun _ => rfl⟩
  | succ d ih =>
    intro i hi
    obtain ⟨c, ⟨K, hK⟩, hc⟩ := ih (i + 1) (by omega)
    have ha := rdOf_nat ByteArray.empty a i (by omega)
    have hb := rdOf_nat ByteArray.empty b i (by omega)
    by_cases he : a[i] = b[i]
    · refine ⟨c, ev1 K fun k hk => ?_, hc.trans ⟨fun h j h1 h2 h3 => ?_, fun h j h1 h2 h3 => h j (by omega) h2 h3⟩⟩
      · simp only [laws_sameTexts.l0]
        rw [if_pos (by omega), if_pos (by omega), if_pos (by omega), if_pos (by omega), ha, hb, if_pos (by rw [he]), wr1 (by omega) (by omega)]
        exact hK k hk
      · by_cases e : j = i
        · subst e; exact he
        · exact h j (by omega) h2 h3
    · refine ⟨false, ev1 0 fun k _ => ?_, ⟨fun h => (by cases h), fun h => absurd (h i (Nat.le_refl _) (by omega) (by omega)) he⟩⟩
      simp only [laws_sameTexts.l0]
      rw [if_pos (by omega), if_pos (by omega), if_pos (by omega), if_pos (by omega), ha, hb, if_neg (fun h => he (toList_iff.1 h))]
theorem sameTexts_ev (a b : List ByteArray) (hn : a.length ≤ 9223372036854775806) : ∃ c, Ev (fun k => laws_sameTexts.f k a b) c ∧ (c = true ↔ a = b) := by
  by_cases hl : a.length = b.length
  · obtain ⟨c, ⟨K, hK⟩, hc⟩ := sameTexts_l0 a b hl hn a.length 0 (by omega)
    refine ⟨c, ⟨K, fun k hk => by simp only [laws_sameTexts.f]; rw [if_pos (by omega)]; exact hK k hk⟩, hc.trans ⟨fun h => List.ext_getElem hl fun j h1 h2 => h j (by omega) h1 h2, fun h j _ h1 h2 => by subst h; rfl⟩⟩
  · exact ⟨false, ⟨0, fun k _ => by simp only [laws_sameTexts.f]; rw [if_neg (by omega)]⟩, ⟨fun h => (by cases h), fun h => absurd (congrArg List.length h) hl⟩⟩
theorem sameTexts_same (a : List ByteArray) (hn : a.length ≤ 9223372036854775806) : Ev (fun k => laws_sameTexts.f k a a) true := by
  obtain ⟨c, h, hc⟩ := sameTexts_ev a a hn
  have : c = true := hc.2 rfl
  rw [← this]
  exact h

theorem sameInts_l0 (a b : List Int) (hl : a.length = b.length) (hn : a.length ≤ 9223372036854775806) (d : Nat) : ∀ i : Nat, i + d = a.length → ∃ c, Ev (fun k => laws_sameInts.l0 k a b (a.length : Int) (i : Int)) c ∧ (c = true ↔ ∀ j, i ≤ j → ∀ (h : j < a.length) (h' : j < b.length), a[j] = b[j]) := by
  induction d with
  | zero => intro i hi; exact ⟨true, ev1 0 fun k _ => by simp only [laws_sameInts.l0]; rw [if_neg (by omega)], fun _ j h1 h2 => by omega, fun _ => rfl⟩
  | succ d ih =>
    intro i hi
    obtain ⟨c, ⟨K, hK⟩, hc⟩ := ih (i + 1) (by omega)
    have ha := rd_nat a i (by omega)
    have hb := rd_nat b i (by omega)
    by_cases he : a[i] = b[i]
    · refine ⟨c, ev1 K fun k hk => ?_, hc.trans ⟨fun h j h1 h2 h3 => ?_, fun h j h1 h2 h3 => h j (by omega) h2 h3⟩⟩
      · simp only [laws_sameInts.l0]
        rw [if_pos (by omega), if_pos (by omega), if_pos (by omega), if_pos (by omega), ha, hb, if_pos (by rw [he]), wr1 (by omega) (by omega)]
        exact hK k hk
      · by_cases e : j = i
        · subst e; exact he
        · exact h j (by omega) h2 h3
    · refine ⟨false, ev1 0 fun k _ => ?_, ⟨fun h => (by cases h), fun h => absurd (h i (Nat.le_refl _) (by omega) (by omega)) he⟩⟩
      simp only [laws_sameInts.l0]
      rw [if_pos (by omega), if_pos (by omega), if_pos (by omega), if_pos (by omega), ha, hb, if_neg (fun h => he (id h))]
theorem sameInts_ev (a b : List Int) (hn : a.length ≤ 9223372036854775806) : ∃ c, Ev (fun k => laws_sameInts.f k a b) c ∧ (c = true ↔ a = b) := by
  by_cases hl : a.length = b.length
  · obtain ⟨c, ⟨K, hK⟩, hc⟩ := sameInts_l0 a b hl hn a.length 0 (by omega)
    refine ⟨c, ⟨K, fun k hk => by simp only [laws_sameInts.f]; rw [if_pos (by omega)]; exact hK k hk⟩, hc.trans ⟨fun h => List.ext_getElem hl fun j h1 h2 => h j (by omega) h1 h2, fun h j _ h1 h2 => by subst h; rfl⟩⟩
  · exact ⟨false, ⟨0, fun k _ => by simp only [laws_sameInts.f]; rw [if_neg (by omega)]⟩, ⟨fun h => (by cases h), fun h => absurd (congrArg List.length h) hl⟩⟩
theorem sameInts_same (a : List Int) (hn : a.length ≤ 9223372036854775806) : Ev (fun k => laws_sameInts.f k a a) true := by
  obtain ⟨c, h, hc⟩ := sameInts_ev a a hn
  have : c = true := hc.2 rfl
  rw [← this]
  exact h
end Go.Proofs.YthecfligfhpccaaDoor.X
