/- Names are numbered in the order in which they come, as the reference says: for every list of lists of names. No condition. -/
import Derived.Test.YtlhljldlbcgnoaaPosPl
import Derived.Test.YtlhljldlbcgnoaaP4
set_option linter.unusedVariables false
namespace Go.Proofs.Ytlhljldlbcgnoaa.Pure
open Go.RowKit Go.Proofs.YtlhljldlbcgnoaaW.PrintWords Go.Proofs.YtlhljldlbcgnoaaW.PrintLast Go.Proofs.YtlhljldlbcgnoaaW.PrintMore Go.Proofs.Ytlhljldlbcgnoaa.P Go.Proofs.Ytlhljldlbcgnoaa.X

theorem says_l2 (a : List (List Int)) (hn : a.length ≤ 1000) (ha : ∀ x ∈ a, x.length ≤ 1000) (d : Nat) : ∀ i : Nat, i + d = a.length → Ev (fun k => laws_FnPOSSays.l2 k a a (a.length : Int) (i : Int)) true := by
  induction d with
  | zero => intro i hi; exact ev1 0 fun k _ => by simp only [laws_FnPOSSays.l2]; rw [if_neg (by omega)]
  | succ d ih =>
    intro i hi
    obtain ⟨K, hK⟩ := ih (i + 1) (by omega)
    have hlt : i < a.length := by omega
    have hr := rd_L4_nat a i hlt
    obtain ⟨K2, hK2⟩ := sameInts_same a[i] (by have := ha _ (List.getElem_mem hlt); omega)
    dsimp only at hK2
    refine ev1 (max K K2) fun k hk => ?_
    simp only [laws_FnPOSSays.l2]
    rw [if_pos (by omega), if_pos (by omega), if_pos (by omega), if_pos (by omega), hr, hK2 k (by omega), wr1 (by omega) (by omega)]
    exact hK k (by omega)
theorem says_l1 (l0 x34 : List (List ByteArray)) (n i : Int) (x : List ByteArray) (hx : x.length ≤ 1000) (hnext : Ev (fun k => laws_FnPOSSays.l0 k l0 x34 n (wrap64 (i + 1))) true) (d : Nat) : ∀ j : Nat, j + d = x.length → Ev (fun k => laws_FnPOSSays.l1 k l0 x34 n i x (x.length : Int) (j : Int)) true := by
  obtain ⟨K0, hK0⟩ := hnext
  induction d with
  | zero => intro j hj; exact ev1 K0 fun k hk => by simp only [laws_FnPOSSays.l1]; rw [if_neg (by omega)]; exact hK0 k hk
  | succ d ih =>
    intro j hj
    obtain ⟨K, hK⟩ := ih (j + 1) (by omega)
    by_cases he : (rdOf ByteArray.empty x (j : Int)).toList = ([] : List UInt8)
    · exact ev1 0 fun k _ => by simp only [laws_FnPOSSays.l1]; rw [if_pos (by omega), if_pos (by omega), if_pos (by omega), if_pos he]
    · refine ev1 K fun k hk => ?_
      simp only [laws_FnPOSSays.l1]
      rw [if_pos (by omega), if_pos (by omega), if_pos (by omega), if_neg he, wr1 (by omega) (by omega)]
      exact hK k hk
theorem says_l0 (l : List (List ByteArray)) (h1 : l.length ≤ 10) (hf : Fit9 l) (d : Nat) : ∀ i : Nat, i + d = l.length → (∀ p, p < i → ∀ h : p < l.length, l[p].length ≤ 6) → Ev (fun k => laws_FnPOSSays.l0 k l l (l.length : Int) (i : Int)) true := by
  induction d with
  | zero =>
    intro i hi hsm
    have hok : posOk l := posOk_of l h1 (fun x hx => by obtain ⟨p, hp, rfl⟩ := List.getElem_of_mem hx; exact hsm p (by omega) hp) (fun x hx s hs => by have := (hf.2 x hx).2 s hs; omega)
    obtain ⟨K1, hK1⟩ := spec_ev l hok
    dsimp only at hK1
    have hl := hok.2.2
    obtain ⟨K2, hK2⟩ := sameTexts_same ((⟨#[]⟩ : ByteArray) :: posAll l) (by simp; omega)
    dsimp only at hK2
    obtain ⟨K3, hK3⟩ := says_l2 (l.map (fun x => x.map (Pos.num (posAll l)))) (by simp; omega) (fun x hx => by
      obtain ⟨y, hy, rfl⟩ := List.mem_map.1 hx
      rw [List.length_map]
      exact (hok.2.1 y hy).1) (l.map (fun x => x.map (Pos.num (posAll l)))).length 0 (by omega)
    refine ev1 (max (max K1 K2) (K3 + 1)) fun k hk => ?_
    obtain ⟨m, rfl⟩ : ∃ m, k = m + 1 := ⟨k - 1, by omega⟩
    simp only [laws_FnPOSSays.l0]
    rw [if_neg (by omega), posIds_f l hok]
    simp only [Option.bind_some]
    rw [hK1 (m + 1) (by omega)]
    simp only [Option.bind_some]
    rw [if_pos trivial, hK2 (m + 1) (by omega)]
    simp only [Option.bind_some, laws_FnPOSSays.j4]
    rw [if_neg (by simp)]
    exact hK3 m (by omega)
  | succ d ih =>
    intro i hi hsm
    have hlt : i < l.length := by omega
    have hr := rd_L1_nat l i hlt
    by_cases hb : (l[i].length : Int) > 6
    · refine ev1 1 fun k hk => ?_
      obtain ⟨m, rfl⟩ : ∃ m, k = m + 1 := ⟨k - 1, by omega⟩
      simp only [laws_FnPOSSays.l0]
      rw [if_pos (by omega), if_pos (by omega), if_pos (by omega), hr, if_pos hb]
      simp only [laws_FnPOSSays.j2]
      rw [if_pos trivial]
    · obtain ⟨c, ⟨K1, hK1⟩, _⟩ := clean_ev 40 l[i] (hf.2 _ (List.getElem_mem hlt))
      dsimp only at hK1
      obtain ⟨K2, hK2⟩ := says_l1 l l (l.length : Int) (i : Int) l[i] (by omega) (by
        rw [wr1 (by omega) (by omega)]
        exact ih (i + 1) (by omega) (fun p hp h => by
          by_cases e : p = i
          · subst e; omega
          · exact hsm p (by omega) h)) l[i].length 0 (by omega)
      refine ev1 (max K1 (K2 + 1)) fun k hk => ?_
      obtain ⟨m, rfl⟩ : ∃ m, k = m + 1 := ⟨k - 1, by omega⟩
      simp only [laws_FnPOSSays.l0]
      rw [if_pos (by omega), if_pos (by omega), if_pos (by omega), hr, if_neg hb, hK1 (m + 1) (by omega)]
      simp only [Option.bind_some, laws_FnPOSSays.j2]
      cases c with
      | false => rw [if_pos (by rfl)]
      | true => rw [if_neg (by simp)]; exact hK2 m (by omega)
theorem FnPOSSays (x0 : List (List ByteArray)) (g0 : (x0.length ≤ 9223372036854775807 ∧ ∀ y0 ∈ x0, (y0.length ≤ 9223372036854775807 ∧ ∀ y1 ∈ y0, y1.size ≤ 9223372036854775807))) : ∃ k, laws_FnPOSSays.f k x0 = some true := by
  obtain ⟨b, ⟨K, hK⟩, hb⟩ := fit9 x0
  dsimp only at hK
  cases b with
  | false => exact ⟨K, by simp only [laws_FnPOSSays.f]; rw [hK K (Nat.le_refl _)]; rfl⟩
  | true =>
    have hf := hb rfl
    have hone : posOk [[(⟨#[120]⟩ : ByteArray)]] := posOk_of _ (by simp) (by simp) (by
      intro x hx s hs
      simp at hx
      subst hx
      simp at hs
      subst hs
      decide)
    by_cases hl : (x0.length : Int) > 10
    · refine ⟨K + 1, ?_⟩
      simp only [laws_FnPOSSays.f]
      rw [hK _ (by omega)]
      simp only [Option.bind_some]
      rw [if_pos trivial, posIds_f _ hone]
      simp only [Option.bind_some, laws_FnPOSSays.j0]
      rw [if_pos (by simp), if_neg (by decide), if_pos hl]
    · obtain ⟨K2, hK2⟩ := says_l0 x0 (by omega) hf x0.length 0 (by omega) (fun p hp => by omega)
      refine ⟨max K K2 + 1, ?_⟩
      simp only [laws_FnPOSSays.f]
      rw [hK _ (by omega)]
      simp only [Option.bind_some]
      rw [if_pos trivial, posIds_f _ hone]
      simp only [Option.bind_some, laws_FnPOSSays.j0]
      rw [if_pos (by simp), if_neg (by decide), if_neg hl]
      exact hK2 _ (by omega)
end Go.Proofs.Ytlhljldlbcgnoaa.Pure
