/- Plain facts on names' numbers: what the reference tells is what the map tells. -/
import Derived.Test.YtlhljldlbcgnoaaEPosC
import Derived.Test.YtlhljldlbcgnoaaXClean
import Derived.Test.YtlhljldlbcgnoaaXSame
import Derived.Test.YtlhljldlbcgnoaaP12
set_option linter.unusedVariables false
namespace Go.Proofs.Ytlhljldlbcgnoaa.X
open Go.RowKit Go.Proofs.YtlhljldlbcgnoaaW.PrintWords Go.Proofs.YtlhljldlbcgnoaaW.PrintLast Go.Proofs.YtlhljldlbcgnoaaW.PrintMore Go.Proofs.Ytlhljldlbcgnoaa.P

theorem posIds_f (l : List (List ByteArray)) (h : posOk l) : impl_POSIDs.f l = some (l.map (fun x => x.map (Pos.num (posAll l))), (⟨#[]⟩ : ByteArray) :: posAll l) := by
  unfold impl_POSIDs.f
  rw [if_pos h]

/-- One name: searched from place 1 on. -/
theorem spec_l2 (X : List (List Int)) (names : List ByteArray) (acc : List Int) (s : ByteArray) (l : List (List ByteArray)) (n i : Int) (x : List ByteArray) (m j : Int) (r : List (List Int) × List ByteArray)
    (hn : names.length ≤ 100000) (ha : acc.length ≤ 100000)
    (hnext : Ev (fun k => spec_POSIDs.l1 k X ((⟨#[]⟩ : ByteArray) :: Pos.step names s) (acc ++ [Pos.num (Pos.step names s) s]) l n i x m (wrap64 (j + 1))) r) (d : Nat) :
    ∀ q : Nat, q + d = names.length → (∀ p, p < q → ∀ h : p < names.length, names[p] ≠ s) → Ev (fun k => spec_POSIDs.l2 k X ((⟨#[]⟩ : ByteArray) :: names) acc s ((q : Int) + 1) l n i x m j) r := by
  obtain ⟨K, hK⟩ := hnext
  dsimp only at hK
  induction d with
  | zero =>
    intro q hq hne
    have hns : s ∉ names := by
      intro hm
      obtain ⟨p, hp, rfl⟩ := List.getElem_of_mem hm
      exact hne p (by omega) hp rfl
    have e1 : Pos.num (Pos.step names s) s = (q : Int) + 1 := by rw [Pos.num_new hns]; omega
    have e2 : Pos.step names s = names ++ [s] := by unfold Pos.step; rw [if_neg hns]
    rw [e1, e2] at hK
    refine ev1 K fun k hk => ?_
    simp only [spec_POSIDs.l2]
    rw [if_neg (by simp; omega), if_pos (by simp; omega), if_pos (by simp; omega), if_pos (by omega)]
    exact hK k hk
  | succ d ih =>
    intro q hq hne
    have hr : rdOf ByteArray.empty ((⟨#[]⟩ : ByteArray) :: names) ((q : Int) + 1) = names[q] := by
      have := rdOf_nat ByteArray.empty ((⟨#[]⟩ : ByteArray) :: names) (q + 1) (by simp; omega)
      simpa using this
    by_cases he : names[q] = s
    · have hmem : s ∈ names := by rw [← he]; exact List.getElem_mem _
      have e2 := Pos.num_old hmem
      have e1 : Pos.num (Pos.step names s) s = (q : Int) + 1 := by
        rw [e2]
        exact Pos.num_first (by omega) he hne
      rw [e1, e2] at hK
      refine ev1 K fun k hk => ?_
      simp only [spec_POSIDs.l2]
      rw [if_pos (by simp; omega), if_pos (by omega), hr, if_pos (by rw [he]), if_neg (by simp; omega), if_pos (by omega)]
      exact hK k hk
    · obtain ⟨K2, hK2⟩ := ih (q + 1) (by omega) (fun p hp h => by
        by_cases e : p = q
        · subst e; exact he
        · exact hne p (by omega) h)
      refine ev1 K2 fun k hk => ?_
      simp only [spec_POSIDs.l2]
      rw [if_pos (by simp; omega), if_pos (by omega), hr, if_neg (fun h => he (toList_inj h)), wr1 (by omega) (by omega)]
      exact hK2 k hk

/-- A row of names. -/
theorem spec_l1 (X : List (List Int)) (l : List (List ByteArray)) (n i : Int) (x : List ByteArray) (hx : x.length ≤ 1000) (hX : X.length ≤ 1000) (N : List ByteArray) (hN : N.length ≤ 60000) (r : List (List Int) × List ByteArray) (names0 : List ByteArray) (hp : Pos.fold names0 x <+: N)
    (hnext : Ev (fun k => spec_POSIDs.l0 k (X ++ [x.map (Pos.num N)]) ((⟨#[]⟩ : ByteArray) :: Pos.fold names0 x) l n (wrap64 (i + 1))) r) (d : Nat) :
    ∀ j : Nat, j + d = x.length → Ev (fun k => spec_POSIDs.l1 k X ((⟨#[]⟩ : ByteArray) :: Pos.fold names0 (x.take j)) ((x.take j).map (Pos.num N)) l n i x (x.length : Int) (j : Int)) r := by
  induction d with
  | zero =>
    intro j hj
    obtain ⟨K, hK⟩ := hnext
    dsimp only at hK
    have ht : x.take j = x := List.take_of_length_le (by omega)
    rw [ht]
    refine ev1 K fun k hk => ?_
    simp only [spec_POSIDs.l1]
    rw [if_neg (by omega), if_pos (by omega)]
    exact hK k hk
  | succ d ih =>
    intro j hj
    have hlt : j < x.length := by omega
    have hpj := (Pos.fold_take_pre names0 x j).trans hp
    have hpj1 := (Pos.fold_take_pre names0 x (j + 1)).trans hp
    have hft := Pos.fold_take names0 x j hlt
    have h1 := ih (j + 1) (by omega)
    have hmap : (x.take (j + 1)).map (Pos.num N) = (x.take j).map (Pos.num N) ++ [Pos.num (Pos.step (Pos.fold names0 (x.take j)) x[j]) x[j]] := by
      rw [List.take_succ_eq_append_getElem hlt, List.map_append, List.map_cons, List.map_nil, ← hft, Pos.num_pre hpj1 (by rw [hft]; exact Pos.mem_step _ _)]
    rw [hmap, hft] at h1
    have hl := hpj.length_le
    have hr := rdOf_nat ByteArray.empty x j hlt
    have hcast : ((j + 1 : Nat) : Int) = (j : Int) + 1 := by omega
    rw [hcast] at h1
    have h2 := spec_l2 X (Pos.fold names0 (x.take j)) ((x.take j).map (Pos.num N)) x[j] l n i x (x.length : Int) (j : Int) r (by omega) (by rw [List.length_map]; have := List.length_take_le j x; omega) (by rw [wr1 (by omega) (by omega)]; exact h1) (Pos.fold names0 (x.take j)).length 0 (by omega) (fun p hp => by omega)
    obtain ⟨K, hK⟩ := h2
    refine ev1 K fun k hk => ?_
    simp only [spec_POSIDs.l1]
    rw [if_pos (by omega), if_pos (by omega), if_pos (by omega), hr]
    exact hK k hk
theorem spec_l0 (l : List (List ByteArray)) (h : posOk l) (d : Nat) : ∀ i : Nat, i + d = l.length → Ev (fun k => spec_POSIDs.l0 k ((l.take i).map (fun x => x.map (Pos.num (posAll l)))) ((⟨#[]⟩ : ByteArray) :: Pos.fold [] (l.take i).flatten) l (l.length : Int) (i : Int)) (l.map (fun x => x.map (Pos.num (posAll l))), (⟨#[]⟩ : ByteArray) :: posAll l) := by
  obtain ⟨hl, hx, hN⟩ := h
  induction d with
  | zero =>
    intro i hi
    have ht : l.take i = l := List.take_of_length_le (by omega)
    rw [ht]
    refine ev1 0 fun k _ => ?_
    simp only [spec_POSIDs.l0]
    rw [if_neg (by omega)]
    rfl
  | succ d ih =>
    intro i hi
    have hlt : i < l.length := by omega
    have h1 := ih (i + 1) (by omega)
    have hft := flatten_take l i hlt
    have hpre := fold_flat_pre l (i + 1)
    rw [hft, Pos.fold_append] at hpre h1
    rw [List.take_succ_eq_append_getElem hlt, List.map_append, List.map_cons, List.map_nil] at h1
    have hr := rd_L1_nat l i hlt
    have hcast : ((i + 1 : Nat) : Int) = (i : Int) + 1 := by omega
    rw [hcast] at h1
    have h2 := spec_l1 ((l.take i).map (fun x => x.map (Pos.num (posAll l)))) l (l.length : Int) (i : Int) l[i] (hx _ (List.getElem_mem hlt)).1 (by rw [List.length_map]; have := List.length_take_le i l; omega) (posAll l) hN _ (Pos.fold [] (l.take i).flatten) hpre (by rw [wr1 (by omega) (by omega)]; exact h1) l[i].length 0 (by omega)
    obtain ⟨K, hK⟩ := h2
    refine ev1 K fun k hk => ?_
    simp only [spec_POSIDs.l0]
    rw [if_pos (by omega), if_pos (by omega), if_pos (by omega), hr]
    exact hK k hk
theorem spec_ev (l : List (List ByteArray)) (h : posOk l) : Ev (fun k => spec_POSIDs.f k l) (l.map (fun x => x.map (Pos.num (posAll l))), (⟨#[]⟩ : ByteArray) :: posAll l) := by
  obtain ⟨K, hK⟩ := spec_l0 l h l.length 0 (by omega)
  exact ⟨K, fun k hk => by simp only [spec_POSIDs.f]; exact hK k hk⟩

theorem rd_L4_nat (xs : List (List Int)) (i : Nat) (h : i < xs.length) : rd_L4 xs (i : Int) = xs[i] := by simp [rd_L4, h]
theorem hone : posOk [[(⟨#[120]⟩ : ByteArray)]] := by
  refine ⟨by simp, ?_, by decide⟩
  intro x hx
  simp at hx
  subst hx
  exact ⟨by simp, by intro s hs; simp at hs; subst hs; decide⟩
theorem canary_pos {a : List (List Int)} {b : List ByteArray} (h : impl_POSIDs.f [[(⟨#[120]⟩ : ByteArray)]] = some (a, b)) : a = [[1]] ∧ b = [⟨#[]⟩, ⟨#[120]⟩] := by
  rw [posIds_f _ hone] at h
  injection h with h
  injection h with h1 h2
  subst h1 h2
  exact ⟨by decide, by decide⟩
/-- Small lists of names without more are what POSIDs speaks of. -/
theorem posOk_of (l : List (List ByteArray)) (h1 : l.length ≤ 10) (h2 : ∀ x ∈ l, x.length ≤ 6) (h3 : ∀ x ∈ l, ∀ s ∈ x, s.size ≤ 9223372036854775807) : posOk l := by
  refine ⟨by omega, fun x hx => ⟨by have := h2 x hx; omega, h3 x hx⟩, ?_⟩
  have hf : ∀ m : List (List ByteArray), (∀ x ∈ m, x.length ≤ 6) → m.flatten.length ≤ 6 * m.length := by
    intro m
    induction m with
    | nil => intro _; simp
    | cons x m ih =>
      intro h
      have a := h x (by simp)
      have b := ih (fun y hy => h y (List.mem_cons_of_mem _ hy))
      simp only [List.flatten_cons, List.length_append, List.length_cons]
      omega
  have a := hf l h2
  have b := Pos.length_fold l.flatten []
  unfold posAll
  simp only [List.length_nil, Nat.zero_add] at b
  omega
end Go.Proofs.Ytlhljldlbcgnoaa.X
