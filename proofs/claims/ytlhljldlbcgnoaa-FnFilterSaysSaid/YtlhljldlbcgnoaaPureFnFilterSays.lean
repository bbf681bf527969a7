/- A filter matches what the reference says. No condition. -/
import Derived.Test.YtlhljldlbcgnoaaFilPl
import Derived.Test.YtlhljldlbcgnoaaP8
set_option linter.unusedVariables false
namespace Go.Proofs.Ytlhljldlbcgnoaa.Pure
open Go.RowKit Go.Proofs.YtlhljldlbcgnoaaW.PrintWords Go.Proofs.YtlhljldlbcgnoaaW.PrintLast Go.Proofs.YtlhljldlbcgnoaaW.PrintMore Go.Proofs.Ytlhljldlbcgnoaa.P Go.Proofs.Ytlhljldlbcgnoaa.X

theorem fsays_l0 (l : List (List ByteArray)) (fs : List ByteArray) (h1 : l.length ≤ 8) (h2 : fs.length ≤ 8) (hf : Fit9 l) (d : Nat) : ∀ i : Nat, i + d = l.length → (∀ p, p < i → ∀ h : p < l.length, l[p].length ≤ 8 ∧ (1 < l.length → l[p].any (fun v => decide (v = Fil.ANY)) = false)) → Ev (fun k => laws_FnFilterSays.l0 k l fs l (l.length : Int) (i : Int)) true := by
  induction d with
  | zero =>
    intro i hi hsm
    have hall : ∀ x ∈ l, x.length ≤ 8 ∧ (1 < l.length → x.any (fun v => decide (v = Fil.ANY)) = false) := fun x hx => by
      obtain ⟨p, hp, rfl⟩ := List.getElem_of_mem hx
      exact hsm p (by omega) hp
    have hany : 1 < l.length → ∀ f ∈ l, f.any (fun v => decide (v = Fil.ANY)) = false := fun h f hf => (hall f hf).2 h
    obtain ⟨K, hK⟩ := match_ev l fs (by omega) (fun f hf => by have := (hall f hf).1; omega) hany
    dsimp only at hK
    refine ev1 K fun k hk => ?_
    simp only [laws_FnFilterSays.l0]
    rw [if_neg (by omega), hK k hk]
    simp only [Option.bind_some]
    rcases ans_eq fs l 0 with ⟨_, h⟩ | ⟨h0, h⟩
    · rw [h]; rfl
    · rw [impl_f l fs (by omega) (fun f hf => by have := (hall f hf).1; omega) (by omega), build_any l fs h0 hany, h]
      by_cases hw : (l.any fun f => Fil.wild f fs) = true
      · simp [hw]
      · simp [Bool.eq_false_iff.2 hw]
  | succ d ih =>
    intro i hi hsm
    have hlt : i < l.length := by omega
    have hr := rd_L1_nat l i hlt
    have hfx := hf.2 _ (List.getElem_mem hlt)
    have hw : wrap64 ((i : Int) + 1) = ((i + 1 : Nat) : Int) := by rw [wr1 (by omega) (by omega)]; omega
    by_cases hb : (l[i].length : Int) > 8
    · refine ev1 0 fun k hk => ?_
      simp only [laws_FnFilterSays.l0]
      rw [if_pos (by omega), if_pos (by omega), if_pos (by omega), hr, if_pos hb]
    · obtain ⟨K2, hK2⟩ := hasAny_ev l[i] hfx.1
      dsimp only at hK2
      by_cases h1 : (l.length : Int) > 1
      · by_cases ha : l[i].any (fun v => decide (v = Fil.ANY)) = true
        · refine ev1 K2 fun k hk => ?_
          simp only [laws_FnFilterSays.l0]
          rw [if_pos (by omega), if_pos (by omega), if_pos (by omega), hr, if_neg hb, if_pos h1, hK2 k hk, ha]
          rfl
        · obtain ⟨K, hK⟩ := ih (i + 1) (by omega) (fun p hp h => by
            by_cases e : p = i
            · subst e; exact ⟨by omega, fun _ => Bool.eq_false_iff.2 ha⟩
            · exact hsm p (by omega) h)
          dsimp only at hK
          refine ev1 (max K K2) fun k hk => ?_
          simp only [laws_FnFilterSays.l0]
          rw [if_pos (by omega), if_pos (by omega), if_pos (by omega), hr, if_neg hb, if_pos h1, hK2 k (by omega), Bool.eq_false_iff.2 ha, hw]
          exact hK k (by omega)
      · obtain ⟨K, hK⟩ := ih (i + 1) (by omega) (fun p hp h => by
          by_cases e : p = i
          · subst e; exact ⟨by omega, fun h => by omega⟩
          · exact hsm p (by omega) h)
        dsimp only at hK
        refine ev1 K fun k hk => ?_
        simp only [laws_FnFilterSays.l0]
        rw [if_pos (by omega), if_pos (by omega), if_pos (by omega), hr, if_neg hb, if_neg h1, hw]
        exact hK k (by omega)
theorem FnFilterSays (x0 : List (List ByteArray)) (x1 : List ByteArray) (g0 : (x0.length ≤ 9223372036854775807 ∧ ∀ y0 ∈ x0, (y0.length ≤ 9223372036854775807 ∧ ∀ y1 ∈ y0, y1.size ≤ 9223372036854775807))) (g1 : x1.length ≤ 9223372036854775807 ∧ ∀ y0 ∈ x1, y0.size ≤ 9223372036854775807) : ∃ k, laws_FnFilterSays.f k x0 x1 = some true := by
  obtain ⟨b, ⟨K, hK⟩, hb⟩ := fit9 x0
  dsimp only at hK
  cases b with
  | false => exact ⟨K + 1, by simp only [laws_FnFilterSays.f]; rw [hK _ (by omega)]; simp [laws_FnFilterSays.j0]⟩
  | true =>
    obtain ⟨b4, ⟨K4, hK4⟩, hb4⟩ := fit4 x1
    dsimp only at hK4
    cases b4 with
    | false =>
      refine ⟨max K K4 + 1, ?_⟩
      simp only [laws_FnFilterSays.f]
      rw [hK _ (by omega)]
      simp only [Option.bind_some]
      rw [if_pos trivial, hK4 _ (by omega)]
      simp [laws_FnFilterSays.j0]
    | true =>
      have hcan : impl_FilterMatch.f [[(⟨#[97]⟩ : ByteArray)]] [(⟨#[97]⟩ : ByteArray)] = some true := by
        rw [canary1 _ _ (by decide)]; simp
      by_cases h8 : (x0.length : Int) > 8
      · refine ⟨max K K4 + 2, ?_⟩
        simp only [laws_FnFilterSays.f]
        rw [hK _ (by omega)]
        simp only [Option.bind_some]
        rw [if_pos trivial, hK4 _ (by omega)]
        simp only [Option.bind_some, laws_FnFilterSays.j0]
        rw [if_neg (by simp), hcan]
        simp only [Option.bind_some]
        rw [if_pos trivial, if_pos h8]
        simp [laws_FnFilterSays.j1]
      · by_cases h9 : (x1.length : Int) > 8
        · refine ⟨max K K4 + 2, ?_⟩
          simp only [laws_FnFilterSays.f]
          rw [hK _ (by omega)]
          simp only [Option.bind_some]
          rw [if_pos trivial, hK4 _ (by omega)]
          simp only [Option.bind_some, laws_FnFilterSays.j0]
          rw [if_neg (by simp), hcan]
          simp only [Option.bind_some]
          rw [if_pos trivial, if_neg h8]
          simp [laws_FnFilterSays.j1, h9]
        · obtain ⟨K2, hK2⟩ := fsays_l0 x0 x1 (by omega) (by omega) (hb rfl) x0.length 0 (by omega) (fun p hp => by omega)
          dsimp only at hK2
          refine ⟨max (max K K4) K2 + 2, ?_⟩
          simp only [laws_FnFilterSays.f]
          rw [hK _ (by omega)]
          simp only [Option.bind_some]
          rw [if_pos trivial, hK4 _ (by omega)]
          simp only [Option.bind_some, laws_FnFilterSays.j0]
          rw [if_neg (by simp), hcan]
          simp only [Option.bind_some]
          rw [if_pos trivial, if_neg h8]
          simp only [laws_FnFilterSays.j1]
          rw [if_neg (by simp; omega)]
          exact hK2 _ (by omega)
end Go.Proofs.Ytlhljldlbcgnoaa.Pure
