/- The parts of a text are the text, one behind the other, but for the letters' case; none is empty: for every text. No condition. -/
import Derived.Test.YthecfligfhpccaaDoorELow
import Derived.Test.YthecfligfhpccaaDoorPaPl3
import Derived.Test.YthecfligfhpccaaDoorXClean4
import Derived.Test.YthecfligfhpccaaDoorP4
import Derived.KernelRfl
set_option linter.unusedVariables false
namespace Go.Proofs.YthecfligfhpccaaDoor.Pure
open Go.RowKit Go.Lib Go.Proofs.YthecfligfhpccaaDoorW.PrintWords Go.Proofs.YthecfligfhpccaaDoorW.PrintLast Go.Proofs.YthecfligfhpccaaDoorW.PrintMore Go.Proofs.YthecfligfhpccaaDoor.P Go.Proofs.YthecfligfhpccaaDoor.X Go.Proofs.YthecfligfhpccaaDoor.Pa
def tot : List ByteArray → Nat
  | [] => 0
  | p :: l => p.size + tot l
theorem tot_le (n : Nat) : ∀ l : List ByteArray, (∀ p ∈ l, p.size ≤ n) → tot l ≤ n * l.length
  | [], _ => Nat.zero_le _
  | p :: l, h => by
    have h1 := h p List.mem_cons_self
    have h2 := tot_le n l (fun q hq => h q (List.mem_cons_of_mem _ hq))
    unfold tot
    rw [List.length_cons, Nat.mul_succ]
    omega
theorem joined_l0 (l : List ByteArray) (hl : l.length ≤ 1000000) (d : Nat) : ∀ (i : Nat) (acc : ByteArray), i + d = l.length → acc.size + tot (l.drop i) ≤ 1000000 → ∃ r, Ev (fun k => laws_joined.l0 k acc l (l.length : Int) (i : Int)) r ∧ r.size = acc.size + tot (l.drop i) ∧ lo r = lo acc ++ los (l.drop i) := by
  induction d with
  | zero =>
    intro i acc hi hz
    obtain rfl : i = l.length := by omega
    rw [List.drop_length]
    exact ⟨acc, ev1 0 fun k hk => by simp only [laws_joined.l0]; rw [if_neg (by omega)], rfl, by simp [los]⟩
  | succ d ih =>
    intro i acc hi hz
    have hlt : i < l.length := by omega
    have hd : l.drop i = l[i] :: l.drop (i + 1) := List.drop_eq_getElem_cons hlt
    rw [hd] at hz ⊢
    unfold tot at hz ⊢
    have has : (acc ++ l[i]).size = acc.size + l[i].size := ByteArray.size_append
    obtain ⟨r, ⟨K, hK⟩, h1, h2⟩ := ih (i + 1) (acc ++ l[i]) (by omega) (by rw [has]; omega)
    dsimp only at hK
    refine ⟨r, ev1 K fun k hk => ?_, by rw [h1, has]; omega, ?_⟩
    · simp only [laws_joined.l0]
      rw [if_pos (by omega), if_pos (by omega), if_pos (by omega), rdOf_nat _ _ _ hlt, if_pos (by omega), wr1 (by omega) (by omega)]
      exact hK k hk
    · rw [h2]
      show _ = lo acc ++ (lo l[i] ++ los (l.drop (i + 1)))
      rw [← List.append_assoc]
      congr 1
      unfold lo
      rw [ByteArray.data_append, Array.toList_append, List.map_append]
theorem joined_ev (l : List ByteArray) (hl : l.length ≤ 1000000) (hz : tot l ≤ 1000000) : ∃ r, Ev (fun k => laws_joined.f k l) r ∧ r.size ≤ 1000000 ∧ lo r = los l := by
  obtain ⟨r, h, h1, h2⟩ := joined_l0 l hl l.length 0 ⟨#[]⟩ (by omega) (by rw [List.drop_zero]; show 0 + tot l ≤ 1000000; omega)
  rw [List.drop_zero] at h1 h2
  have e : (⟨#[]⟩ : ByteArray).size = 0 := rfl
  exact ⟨r, h, by omega, by rw [h2]; rfl⟩
theorem low_toList (s : ByteArray) : (low s).toList = lo s := by
  rw [Go.ByteArray.toList_eq]
  unfold low lo
  simp
theorem pj_l0 (x : ByteArray) (hx : x.size ≤ 1000000) (l : List ByteArray) (hl : l.length ≤ 1000000) (hz : tot l ≤ 1000000) (hj : los l = lo x) (hn : ∀ p ∈ l, 1 ≤ p.size) (d : Nat) : ∀ i : Nat, i + d = l.length → Ev (fun k => laws_FnPartsJoin.l0 k x l l (l.length : Int) (i : Int)) true := by
  induction d with
  | zero =>
    intro i hi
    obtain rfl : i = l.length := by omega
    obtain ⟨r, ⟨K, hK⟩, h1, h2⟩ := joined_ev l hl hz
    dsimp only at hK
    have q1 : laws_lowered.f r = some (low r) := by unfold laws_lowered.f; rw [if_pos h1]
    have q2 : laws_lowered.f x = some (low x) := by unfold laws_lowered.f; rw [if_pos hx]
    refine ev1 K fun k hk => ?_
    simp only [laws_FnPartsJoin.l0]
    rw [if_neg (by omega), hK k hk]
    simp only [Option.bind_some]
    rw [q1, q2]
    simp only [Option.bind_some]
    rw [low_toList, low_toList, h2, hj]
    simp
  | succ d ih =>
    intro i hi
    have hlt : i < l.length := by omega
    obtain ⟨K, hK⟩ := ih (i + 1) (by omega)
    dsimp only at hK
    have hne : ¬ l[i].toList = ([] : List UInt8) := fun e => by
      have h1 := hn l[i] (List.getElem_mem _)
      rw [Go.ByteArray.toList_eq] at e
      have := congrArg List.length e
      rw [Array.length_toList] at this
      have hs : l[i].size = l[i].data.size := rfl
      simp at this
      rw [hs, this] at h1
      simp at h1
    refine ev1 K fun k hk => ?_
    simp only [laws_FnPartsJoin.l0]
    rw [if_pos (by omega), if_pos (by omega), if_pos (by omega), rdOf_nat _ _ _ hlt, if_neg hne, wr1 (by omega) (by omega)]
    exact hK k hk
theorem Abc : impl_Parts.f (⟨#[65, 98, 32, 99]⟩ : ByteArray) false false false = some [⟨#[97, 98]⟩, ⟨#[32]⟩, ⟨#[99]⟩] := by
  unfold impl_Parts.f
  rw [if_pos (by decide)]
  have : parts (⟨#[65, 98, 32, 99]⟩ : ByteArray) ⟨false, false, false⟩ = [⟨#[97, 98]⟩, ⟨#[32]⟩, ⟨#[99]⟩] := by kernel_rfl
  rw [this]
theorem pj_j0 (x0 : ByteArray) (x1 x2 x3 : Bool) (hb : x0.size ≤ 2147483647) : Ev (fun k => laws_FnPartsJoin.j0 k x0 x1 x2 x3 false) true := by
  obtain ⟨c, ⟨K1, h1⟩, hc⟩ := clean_ev 300 [x0] ⟨by simp, fun p hp => by rw [List.mem_singleton.1 hp]; omega⟩
  dsimp only at h1
  cases c with
  | false =>
    refine ev1 K1 fun k hk => ?_
    simp only [laws_FnPartsJoin.j0]
    rw [if_neg (by simp), h1 k hk]
    rfl
  | true =>
    have hx := (hc rfl x0 (by simp)).1.1
    obtain ⟨s1, s2⟩ := go_small x0 ⟨x1, x2, x3⟩ (x0.size + 1) 0 0 true
    obtain ⟨j1, j2⟩ := parts_join x0 ⟨x1, x2, x3⟩
    have hlen : (parts x0 ⟨x1, x2, x3⟩).length ≤ 602 := by unfold parts; omega
    have htot : tot (parts x0 ⟨x1, x2, x3⟩) ≤ 1000000 := by
      have := tot_le 300 (parts x0 ⟨x1, x2, x3⟩) (fun p hp => by have := s2 p hp; omega)
      omega
    obtain ⟨K2, h2⟩ := pj_l0 x0 (by omega) (parts x0 ⟨x1, x2, x3⟩) (by omega) htot j1 j2 (parts x0 ⟨x1, x2, x3⟩).length 0 (by omega)
    dsimp only at h2
    have hf : impl_Parts.f x0 x1 x2 x3 = some (parts x0 ⟨x1, x2, x3⟩) := by unfold impl_Parts.f; rw [if_pos (by omega)]
    refine ev1 (max K1 K2) fun k hk => ?_
    simp only [laws_FnPartsJoin.j0]
    rw [if_neg (by simp), h1 k (by omega)]
    simp only [Option.bind_some]
    rw [if_pos trivial, hf]
    simp only [Option.bind_some]
    exact h2 k (by omega)
theorem FnPartsJoin (x0 : ByteArray) (x1 : Bool) (x2 : Bool) (x3 : Bool) (g0 : x0.size ≤ 9223372036854775807) : ∃ k, laws_FnPartsJoin.f k x0 x1 x2 x3 = some true := by
  unfold laws_FnPartsJoin.f
  by_cases hb : (x0.size : Int) > 2147483647
  · exact ⟨0, by rw [if_pos hb]⟩
  · obtain ⟨r, ⟨K1, h1⟩, h2, h3⟩ := joined_ev [⟨#[97, 98]⟩, ⟨#[32]⟩, ⟨#[99]⟩] (by simp) (by decide)
    obtain ⟨K2, h4⟩ := pj_j0 x0 x1 x2 x3 (by omega)
    dsimp only at h1 h4
    have q1 : laws_lowered.f r = some (low r) := by unfold laws_lowered.f; rw [if_pos h2]
    have q2 : (low r).toList = [97, 98, 32, 99] := by rw [low_toList, h3]; decide
    refine ⟨max K1 K2, ?_⟩
    rw [if_neg hb, Abc]
    simp only [Option.bind_some]
    rw [if_neg (by simp), h1 _ (by omega)]
    simp only [Option.bind_some]
    rw [q1]
    simp only [Option.bind_some]
    rw [q2]
    exact h4 _ (by omega)
end Go.Proofs.YthecfligfhpccaaDoor.Pure
