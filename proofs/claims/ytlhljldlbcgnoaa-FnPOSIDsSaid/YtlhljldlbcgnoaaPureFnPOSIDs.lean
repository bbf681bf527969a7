/- Names get numbers, each its own, by which they are told again: for every list of lists of names. No condition. -/
import Derived.Test.YtlhljldlbcgnoaaPosPl
import Derived.Test.YtlhljldlbcgnoaaP3
set_option linter.unusedVariables false
namespace Go.Proofs.Ytlhljldlbcgnoaa.Pure
open Go.RowKit Go.Proofs.YtlhljldlbcgnoaaW.PrintWords Go.Proofs.YtlhljldlbcgnoaaW.PrintLast Go.Proofs.YtlhljldlbcgnoaaW.PrintMore Go.Proofs.Ytlhljldlbcgnoaa.P Go.Proofs.Ytlhljldlbcgnoaa.X

theorem names_at (N : List ByteArray) (s : ByteArray) (h : s ∈ N) : 0 ≤ Pos.num N s ∧ Pos.num N s < ((⟨#[]⟩ : ByteArray) :: N).length ∧ rdOf ByteArray.empty ((⟨#[]⟩ : ByteArray) :: N) (Pos.num N s) = s := by
  obtain ⟨i, hi, e1, e2⟩ := Pos.num_at h
  rw [e2]
  refine ⟨by omega, by simp; omega, ?_⟩
  rw [rdOf_nat _ _ _ (by simp; exact hi), List.getElem_cons_succ]
  exact e1
theorem ids_l5 (names : List ByteArray) (hn : names.Nodup) (hl : names.length ≤ 100000) (n : Int) (i : Nat) (hi : i < names.length) (hnext : Ev (fun k => laws_FnPOSIDs.l4 k names n (wrap64 ((i : Int) + 1))) true) (d : Nat) : ∀ j : Nat, j + d = i → Ev (fun k => laws_FnPOSIDs.l5 k names (i : Int) n (i : Int) (i : Int) (j : Int)) true := by
  obtain ⟨K0, hK0⟩ := hnext
  induction d with
  | zero => intro j hj; exact ev1 K0 fun k hk => by simp only [laws_FnPOSIDs.l5]; rw [if_neg (by omega)]; exact hK0 k hk
  | succ d ih =>
    intro j hj
    obtain ⟨K, hK⟩ := ih (j + 1) (by omega)
    have h1 := rdOf_nat ByteArray.empty names i hi
    have h2 := rdOf_nat ByteArray.empty names j (by omega)
    have hne : names[i] ≠ names[j] := fun e => by
      have := (List.getElem_inj hn).1 e
      omega
    refine ev1 K fun k hk => ?_
    simp only [laws_FnPOSIDs.l5]
    rw [if_pos (by omega), if_pos (by omega), if_pos (by omega), if_pos (by omega), if_pos (by omega), h1, h2, if_neg (fun h => hne (toList_inj h)), wr1 (by omega) (by omega)]
    exact hK k hk
theorem ids_l4 (names : List ByteArray) (hn : names.Nodup) (hl : names.length ≤ 100000) (d : Nat) : ∀ i : Nat, i + d = names.length → Ev (fun k => laws_FnPOSIDs.l4 k names (names.length : Int) (i : Int)) true := by
  induction d with
  | zero => intro i hi; exact ev1 0 fun k _ => by simp only [laws_FnPOSIDs.l4]; rw [if_neg (by omega)]
  | succ d ih =>
    intro i hi
    obtain ⟨K, hK⟩ := ids_l5 names hn hl (names.length : Int) i (by omega) (by rw [wr1 (by omega) (by omega)]; exact ih (i + 1) (by omega)) i 0 (by omega)
    refine ev1 K fun k hk => ?_
    simp only [laws_FnPOSIDs.l4]
    rw [if_pos (by omega)]
    exact hK k hk
theorem ids_l3 (l : List (List ByteArray)) (hok : posOk l) (i : Nat) (hi : i < l.length) (n : Int) (hnext : Ev (fun k => laws_FnPOSIDs.l2 k l (l.map (fun x => x.map (Pos.num (posAll l)))) ((⟨#[]⟩ : ByteArray) :: posAll l) n (wrap64 ((i : Int) + 1))) true) (d : Nat) :
    ∀ j : Nat, j + d = l[i].length → Ev (fun k => laws_FnPOSIDs.l3 k l (l.map (fun x => x.map (Pos.num (posAll l)))) ((⟨#[]⟩ : ByteArray) :: posAll l) (i : Int) n (i : Int) (l[i].map (Pos.num (posAll l))) (l[i].length : Int) (j : Int)) true := by
  obtain ⟨K0, hK0⟩ := hnext
  have hxl := (hok.2.1 _ (List.getElem_mem hi)).1
  induction d with
  | zero => intro j hj; exact ev1 K0 fun k hk => by simp only [laws_FnPOSIDs.l3]; rw [if_neg (by omega)]; exact hK0 k hk
  | succ d ih =>
    intro j hj
    obtain ⟨K, hK⟩ := ih (j + 1) (by omega)
    have hj2 : j < l[i].length := by omega
    have hr := rd_map (posAll l) l[i] j hj2
    have hmem : l[i][j] ∈ posAll l := Pos.mem_fold (List.mem_flatten.2 ⟨l[i], List.getElem_mem hi, List.getElem_mem hj2⟩)
    obtain ⟨h0, h1, h2⟩ := names_at _ _ hmem
    have hri := rd_L1_nat l i hi
    have hrj := rdOf_nat ByteArray.empty l[i] j hj2
    refine ev1 K fun k hk => ?_
    simp only [laws_FnPOSIDs.l3]
    rw [if_pos (by omega), if_pos (by omega), if_pos (by rw [List.length_map]; omega), hr, if_neg (by omega), if_neg (by omega), if_pos h0, if_pos h1, if_pos (by omega), if_pos (by omega), hri, if_pos (by omega), h2, hrj, if_pos rfl, wr1 (by omega) (by omega)]
    exact hK k hk
theorem ids_l2 (l : List (List ByteArray)) (hok : posOk l) (hne : (⟨#[]⟩ : ByteArray) ∉ posAll l) (d : Nat) : ∀ i : Nat, i + d = l.length → Ev (fun k => laws_FnPOSIDs.l2 k l (l.map (fun x => x.map (Pos.num (posAll l)))) ((⟨#[]⟩ : ByteArray) :: posAll l) (l.length : Int) (i : Int)) true := by
  have hl := hok.1
  induction d with
  | zero =>
    intro i hi
    obtain ⟨K, hK⟩ := ids_l4 ((⟨#[]⟩ : ByteArray) :: posAll l) (List.nodup_cons.2 ⟨hne, Pos.nodup_fold (by simp)⟩) (by have := hok.2.2; simp; omega) ((⟨#[]⟩ : ByteArray) :: posAll l).length 0 (by omega)
    exact ev1 K fun k hk => by simp only [laws_FnPOSIDs.l2]; rw [if_neg (by omega)]; exact hK k hk
  | succ d ih =>
    intro i hi
    have hlt : i < l.length := by omega
    obtain ⟨K, hK⟩ := ids_l3 l hok i hlt (l.length : Int) (by rw [wr1 (by omega) (by omega)]; exact ih (i + 1) (by omega)) l[i].length 0 (by omega)
    have hr : rd_L4 (l.map (fun x => x.map (Pos.num (posAll l)))) (i : Int) = l[i].map (Pos.num (posAll l)) := by
      rw [rd_L4_nat _ _ (by rw [List.length_map]; exact hlt), List.getElem_map]
    have hri := rd_L1_nat l i hlt
    refine ev1 K fun k hk => ?_
    simp only [laws_FnPOSIDs.l2]
    rw [if_pos (by omega), if_pos (by omega), if_pos (by rw [List.length_map]; omega), if_pos (by omega), hr, hri, if_pos (by rw [List.length_map]), List.length_map]
    exact hK k hk
theorem ids_l1 (l : List (List ByteArray)) (n i : Int) (x : List ByteArray) (hx : x.length ≤ 1000) (hnext : (∀ s ∈ x, s ≠ (⟨#[]⟩ : ByteArray)) → Ev (fun k => laws_FnPOSIDs.l0 k l l n (wrap64 (i + 1))) true) (d : Nat) : ∀ j : Nat, j + d = x.length → (∀ p, p < j → ∀ h : p < x.length, x[p] ≠ (⟨#[]⟩ : ByteArray)) → Ev (fun k => laws_FnPOSIDs.l1 k l l n i x (x.length : Int) (j : Int)) true := by
  induction d with
  | zero =>
    intro j hj hp
    obtain ⟨K0, hK0⟩ := hnext (fun s hs => by obtain ⟨p, h1, rfl⟩ := List.getElem_of_mem hs; exact hp p (by omega) h1)
    exact ev1 K0 fun k hk => by simp only [laws_FnPOSIDs.l1]; rw [if_neg (by omega)]; exact hK0 k hk
  | succ d ih =>
    intro j hj hp
    have hr := rdOf_nat ByteArray.empty x j (by omega)
    by_cases he : (rdOf ByteArray.empty x (j : Int)).toList = ([] : List UInt8)
    · exact ev1 0 fun k _ => by simp only [laws_FnPOSIDs.l1]; rw [if_pos (by omega), if_pos (by omega), if_pos (by omega), if_pos he]
    · obtain ⟨K, hK⟩ := ih (j + 1) (by omega) (fun p hp1 hp2 => by
        by_cases e : p = j
        · subst e
          intro e2
          rw [hr, e2] at he
          exact he (by rw [ByteArray.toList_eq])
        · exact hp p (by omega) hp2)
      refine ev1 K fun k hk => ?_
      simp only [laws_FnPOSIDs.l1]
      rw [if_pos (by omega), if_pos (by omega), if_pos (by omega), if_neg he, wr1 (by omega) (by omega)]
      exact hK k hk
theorem ids_l0 (l : List (List ByteArray)) (h1 : l.length ≤ 10) (hf : Fit9 l) (d : Nat) : ∀ i : Nat, i + d = l.length → (∀ p, p < i → ∀ h : p < l.length, l[p].length ≤ 6 ∧ ∀ s ∈ l[p], s ≠ (⟨#[]⟩ : ByteArray)) → Ev (fun k => laws_FnPOSIDs.l0 k l l (l.length : Int) (i : Int)) true := by
  induction d with
  | zero =>
    intro i hi hsm
    have hok : posOk l := posOk_of l h1 (fun x hx => by obtain ⟨p, hp, rfl⟩ := List.getElem_of_mem hx; exact (hsm p (by omega) hp).1) (fun x hx s hs => by have := (hf.2 x hx).2 s hs; omega)
    have hne : (⟨#[]⟩ : ByteArray) ∉ posAll l := by
      intro hm
      rcases Pos.of_fold hm with hm | hm
      · cases hm
      · obtain ⟨x, hx, hs⟩ := List.mem_flatten.1 hm
        obtain ⟨p, hp, rfl⟩ := List.getElem_of_mem hx
        exact (hsm p (by omega) hp).2 _ hs rfl
    obtain ⟨K, hK⟩ := ids_l2 l hok hne l.length 0 (by omega)
    refine ev1 K fun k hk => ?_
    simp only [laws_FnPOSIDs.l0]
    rw [if_neg (by omega), posIds_f l hok]
    simp only [Option.bind_some]
    rw [if_pos (by rw [List.length_map])]
    exact hK k hk
  | succ d ih =>
    intro i hi hsm
    have hlt : i < l.length := by omega
    have hr := rd_L1_nat l i hlt
    by_cases hb : (l[i].length : Int) > 6
    · refine ev1 1 fun k hk => ?_
      obtain ⟨m, rfl⟩ : ∃ m, k = m + 1 := ⟨k - 1, by omega⟩
      simp only [laws_FnPOSIDs.l0]
      rw [if_pos (by omega), if_pos (by omega), if_pos (by omega), hr, if_pos hb]
      simp only [laws_FnPOSIDs.j2]
      rw [if_pos trivial]
    · obtain ⟨c, ⟨K1, hK1⟩, _⟩ := clean_ev 40 l[i] (hf.2 _ (List.getElem_mem hlt))
      dsimp only at hK1
      obtain ⟨K2, hK2⟩ := ids_l1 l (l.length : Int) (i : Int) l[i] (by omega) (fun hnn => by
        rw [wr1 (by omega) (by omega)]
        exact ih (i + 1) (by omega) (fun p hp h => by
          by_cases e : p = i
          · subst e; exact ⟨by omega, hnn⟩
          · exact hsm p (by omega) h)) l[i].length 0 (by omega) (fun p hp => by omega)
      refine ev1 (max K1 (K2 + 1)) fun k hk => ?_
      obtain ⟨m, rfl⟩ : ∃ m, k = m + 1 := ⟨k - 1, by omega⟩
      simp only [laws_FnPOSIDs.l0]
      rw [if_pos (by omega), if_pos (by omega), if_pos (by omega), hr, if_neg hb, hK1 (m + 1) (by omega)]
      simp only [Option.bind_some, laws_FnPOSIDs.j2]
      cases c with
      | false => rw [if_pos (by rfl)]
      | true => rw [if_neg (by simp)]; exact hK2 m (by omega)
theorem canary_f : impl_POSIDs.f [[(⟨#[120]⟩ : ByteArray)]] = some ([[1]], [⟨#[]⟩, ⟨#[120]⟩]) := by
  have h := posIds_f _ hone
  obtain ⟨h1, h2⟩ := canary_pos h
  rw [h, h1, h2]
theorem FnPOSIDs (x0 : List (List ByteArray)) (g0 : (x0.length ≤ 9223372036854775807 ∧ ∀ y0 ∈ x0, (y0.length ≤ 9223372036854775807 ∧ ∀ y1 ∈ y0, y1.size ≤ 9223372036854775807))) : ∃ k, laws_FnPOSIDs.f k x0 = some true := by
  obtain ⟨b, ⟨K, hK⟩, hb⟩ := fit9 x0
  dsimp only at hK
  cases b with
  | false => exact ⟨K, by simp only [laws_FnPOSIDs.f]; rw [hK K (Nat.le_refl _)]; rfl⟩
  | true =>
    have hf := hb rfl
    have hj : ∃ K, ∀ k, K ≤ k → laws_FnPOSIDs.j0 k x0 false = some true := by
      by_cases hl : (x0.length : Int) > 10
      · exact ev1 (g := fun k => laws_FnPOSIDs.j0 k x0 false) 0 fun k _ => by simp only [laws_FnPOSIDs.j0]; rw [if_neg (by decide), if_pos hl]
      · obtain ⟨K2, hK2⟩ := ids_l0 x0 (by omega) hf x0.length 0 (by omega) (fun p hp => by omega)
        exact ev1 (g := fun k => laws_FnPOSIDs.j0 k x0 false) K2 fun k hk => by simp only [laws_FnPOSIDs.j0]; rw [if_neg (by decide), if_neg hl]; exact hK2 k hk
    obtain ⟨K3, hK3⟩ := hj
    refine ⟨max K K3, ?_⟩
    simp only [laws_FnPOSIDs.f]
    rw [hK _ (by omega)]
    simp only [Option.bind_some]
    rw [if_pos trivial, canary_f]
    simp only [Option.bind_some]
    rw [if_pos (by decide), if_pos (by decide), if_pos (by decide), if_pos (by decide), if_pos (by decide), if_neg (by decide), if_neg (by decide), if_pos (by decide), if_pos (by decide)]
    have e : ((rdOf ByteArray.empty [(⟨#[]⟩ : ByteArray), ⟨#[120]⟩] (Go.Proofs.YtlhljldlbcgnoaaW.PrintWords.rd (rd_L4 [[1]] 0) 0)).toList != ([120] : List UInt8)) = false := by
      have : rdOf ByteArray.empty [(⟨#[]⟩ : ByteArray), ⟨#[120]⟩] (Go.Proofs.YtlhljldlbcgnoaaW.PrintWords.rd (rd_L4 [[1]] 0) 0) = ⟨#[120]⟩ := rfl
      rw [this, ByteArray.toList_eq]
      decide
    rw [e]
    exact hK3 _ (by omega)
end Go.Proofs.Ytlhljldlbcgnoaa.Pure
