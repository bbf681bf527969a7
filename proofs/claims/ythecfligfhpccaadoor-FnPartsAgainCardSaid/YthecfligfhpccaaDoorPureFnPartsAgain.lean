/- A part of a text, split by itself, is one part: for every text. No condition. -/
import Derived.Test.YthecfligfhpccaaDoorEPar
import Derived.Test.YthecfligfhpccaaDoorPaPl2
import Derived.Test.YthecfligfhpccaaDoorXClean4
import Derived.Test.YthecfligfhpccaaDoorP3
set_option linter.unusedVariables false
namespace Go.Proofs.YthecfligfhpccaaDoor.Pure
open Go.RowKit Go.Lib Go.Proofs.YthecfligfhpccaaDoorW.PrintWords Go.Proofs.YthecfligfhpccaaDoorW.PrintLast Go.Proofs.YthecfligfhpccaaDoorW.PrintMore Go.Proofs.YthecfligfhpccaaDoor.P Go.Proofs.YthecfligfhpccaaDoor.X Go.Proofs.YthecfligfhpccaaDoor.Pa
theorem parts_small (x : ByteArray) (o : Opt) (h : x.size ≤ 200) : (parts x o).length ≤ 402 ∧ ∀ p ∈ parts x o, p.size ≤ 200 := by
  obtain ⟨h1, h2⟩ := go_small x o (x.size + 1) 0 0 true
  exact ⟨by unfold parts; omega, fun p hp => by have := h2 p hp; omega⟩
theorem pa_l0 (a b : Bool) (l : List ByteArray) (hl : l.length ≤ 1000) (hs : ∀ p ∈ l, p.size ≤ 200 ∧ parts p ⟨false, a, b⟩ = [p]) (d : Nat) : ∀ i : Nat, i + d = l.length → Ev (fun k => laws_FnPartsAgain.l0 k a b l (l.length : Int) (i : Int)) true := by
  induction d with
  | zero =>
    intro i hi
    exact ev1 0 fun k hk => by
      simp only [laws_FnPartsAgain.l0]
      rw [if_neg (by omega)]
  | succ d ih =>
    intro i hi
    have hlt : i < l.length := by omega
    obtain ⟨K, hK⟩ := ih (i + 1) (by omega)
    dsimp only at hK
    obtain ⟨h1, h2⟩ := hs l[i] (List.getElem_mem _)
    have hf : impl_Parts.f l[i] false a b = some [l[i]] := by unfold impl_Parts.f; rw [if_pos (by omega), h2]
    refine ev1 K fun k hk => ?_
    simp only [laws_FnPartsAgain.l0]
    rw [if_pos (by omega), if_pos (by omega), if_pos (by omega), rdOf_nat _ _ _ hlt, hf]
    simp only [Option.bind_some]
    rw [if_pos (by simp), if_pos (by simp), if_pos (by rfl), wr1 (by omega) (by omega)]
    exact hK k hk
theorem abc : ∃ l, impl_Parts.f (⟨#[97, 98, 32, 99]⟩ : ByteArray) false false false = some l ∧ ¬ ((l.length : Int) = 0) := by
  refine ⟨_, by unfold impl_Parts.f; rw [if_pos (by decide)], ?_⟩
  have : parts (⟨#[97, 98, 32, 99]⟩ : ByteArray) ⟨false, false, false⟩ = [⟨#[97, 98]⟩, ⟨#[32]⟩, ⟨#[99]⟩] := by kernel_rfl
  rw [this]
  decide
theorem FnPartsAgain (x0 : ByteArray) (x1 : Bool) (x2 : Bool) (g0 : x0.size ≤ 9223372036854775807) : ∃ k, laws_FnPartsAgain.f k x0 x1 x2 = some true := by
  unfold laws_FnPartsAgain.f
  by_cases hb : (x0.size : Int) > 2147483647
  · exact ⟨0, by rw [if_pos hb]⟩
  · obtain ⟨l, hl1, hl2⟩ := abc
    obtain ⟨c, ⟨K1, h1⟩, hc⟩ := clean_ev 200 [x0] ⟨by simp, fun p hp => by rw [List.mem_singleton.1 hp]; omega⟩
    dsimp only at h1
    cases c with
    | false =>
      refine ⟨K1, ?_⟩
      rw [if_neg hb, hl1]
      simp only [Option.bind_some]
      rw [if_neg hl2, h1 K1 (Nat.le_refl _)]
      rfl
    | true =>
      have hx := (hc rfl x0 (by simp)).1.1
      obtain ⟨q1, q2⟩ := parts_small x0 ⟨false, x1, x2⟩ (by omega)
      obtain ⟨K2, h2⟩ := pa_l0 x1 x2 (parts x0 ⟨false, x1, x2⟩) (by omega) (fun p hp => ⟨q2 p hp, go_one rfl (x0.size + 1) 0 0 true (Nat.zero_le _) (fun _ => ⟨.nil _, .inl rfl⟩) p hp⟩) (parts x0 ⟨false, x1, x2⟩).length 0 (by omega)
      dsimp only at h2
      have hf : impl_Parts.f x0 false x1 x2 = some (parts x0 ⟨false, x1, x2⟩) := by unfold impl_Parts.f; rw [if_pos (by omega)]
      refine ⟨max K1 K2, ?_⟩
      rw [if_neg hb, hl1]
      simp only [Option.bind_some]
      rw [if_neg hl2, h1 _ (by omega)]
      simp only [Option.bind_some]
      rw [if_pos trivial, hf]
      simp only [Option.bind_some]
      exact h2 _ (by omega)
end Go.Proofs.YthecfligfhpccaaDoor.Pure
