/- The text of filters, of which none begins with another one, has each of their features. No condition. -/
import Derived.Test.YthecfligfhpccaaFtPl
import Derived.Test.YthecfligfhpccaaXFits
import Derived.Test.YthecfligfhpccaaP4
set_option linter.unusedVariables false
namespace Go.Proofs.Ythecfligfhpccaa.Pure
open Go.RowKit Go.Proofs.YthecfligfhpccaaW.PrintWords Go.Proofs.YthecfligfhpccaaW.PrintLast Go.Proofs.YthecfligfhpccaaW.PrintMore Go.Proofs.Ythecfligfhpccaa.P Go.Proofs.Ythecfligfhpccaa.X

theorem not_any (s : ByteArray) (h : ∀ j : Nat, j < s.size → bt s (j : Int) ≠ 0) : s ≠ Fil.ANY := by
  rintro rfl
  exact h 0 (by decide) (by decide)
def apartAt (l : List (List ByteArray)) (i : Nat) : Prop := ∀ (h : i < l.length) (q : Nat) (hq : q < l.length), q ≠ i → ¬ l[q] <+: l[i]
theorem text_f (l : List (List ByteArray)) (h : filChk l) : impl_FilterText.f l = some ⟨(Fil.rend (Fil.buildA l) 9 0 0).toArray⟩ := by
  unfold impl_FilterText.f
  rw [if_pos h]
theorem chk_of (l : List (List ByteArray)) (h8 : l.length ≤ 8) (hf : ∀ f ∈ l, fil1 f) (hap : ∀ i, apartAt l i) : filChk l := by
  refine ⟨h8, hf, ?_⟩
  rw [List.pairwise_iff_getElem]
  intro i j hi hj hij
  exact ⟨hap j hj i hi (by omega), hap i hi j hj (by omega)⟩
theorem ft_l5 (t : ByteArray) (ht : t.size ≤ 99999999999999) (x90 : List (List ByteArray)) (x91 x92 : Int) (f : List ByteArray) (hl : f.length ≤ 8) (hf : ∀ s ∈ f, s.data.toList <:+: t.data.toList) (hnext : Ev (fun k => laws_FnFilterText.l4 k t x90 x91 (wrap64 (x92 + 1))) true) (d : Nat) : ∀ j : Nat, j + d = f.length → Ev (fun k => laws_FnFilterText.l5 k t x90 x91 x92 f (f.length : Int) (j : Int)) true := by
  obtain ⟨K0, hK0⟩ := hnext
  induction d with
  | zero => intro j hj; exact ev1 K0 fun k hk => by simp only [laws_FnFilterText.l5]; rw [if_neg (by omega)]; exact hK0 k hk
  | succ d ih =>
    intro j hj
    obtain ⟨K, hK⟩ := ih (j + 1) (by omega)
    have hlt : j < f.length := by omega
    have hr := rdOf_nat ByteArray.empty f j hlt
    obtain ⟨K2, hK2⟩ := stands_ev t f[j] (by omega) (hf _ (List.getElem_mem hlt))
    dsimp only at hK2
    refine ev1 (max K K2) fun k hk => ?_
    simp only [laws_FnFilterText.l5]
    rw [if_pos (by omega), if_pos (by omega), if_pos (by omega), hr, hK2 k (by omega)]
    simp only [Option.bind_some]
    rw [if_pos trivial, wr1 (by omega) (by omega)]
    exact hK k (by omega)
theorem ft_l4 (t : ByteArray) (ht : t.size ≤ 99999999999999) (l : List (List ByteArray)) (hn : l.length ≤ 8) (hl : ∀ f ∈ l, f.length ≤ 8) (hf : ∀ f ∈ l, ∀ s ∈ f, s.data.toList <:+: t.data.toList) (d : Nat) : ∀ i : Nat, i + d = l.length → Ev (fun k => laws_FnFilterText.l4 k t l (l.length : Int) (i : Int)) true := by
  induction d with
  | zero => intro i hi; exact ev1 0 fun k hk => by simp only [laws_FnFilterText.l4]; rw [if_neg (by omega)]
  | succ d ih =>
    intro i hi
    have hlt : i < l.length := by omega
    have hr := rd_L1_nat l i hlt
    obtain ⟨K, hK⟩ := ft_l5 t ht l (l.length : Int) (i : Int) l[i] (hl _ (List.getElem_mem hlt)) (hf _ (List.getElem_mem hlt)) (by rw [wr1 (by omega) (by omega)]; exact ih (i + 1) (by omega)) l[i].length 0 (by omega)
    refine ev1 K fun k hk => ?_
    simp only [laws_FnFilterText.l4]
    rw [if_pos (by omega), if_pos (by omega), if_pos (by omega), hr]
    exact hK k hk
theorem ft_l3 (l : List (List ByteArray)) (hn : l.length ≤ 8) (hl : ∀ f ∈ l, f.length ≤ 8) (i : Nat) (hi : i < l.length) (hnext : apartAt l i → Ev (fun k => laws_FnFilterText.l2 k l (l.length : Int) (wrap64 ((i : Int) + 1))) true) (d : Nat) : ∀ j : Nat, j + d = l.length → (∀ q, q < j → ∀ hq : q < l.length, q ≠ i → ¬ l[q] <+: l[i]) → Ev (fun k => laws_FnFilterText.l3 k l (i : Int) (l.length : Int) (i : Int) (l.length : Int) (j : Int)) true := by
  induction d with
  | zero =>
    intro j hj hq
    obtain ⟨K, hK⟩ := hnext (fun _ q hq2 hne => hq q (by omega) hq2 hne)
    exact ev1 K fun k hk => by simp only [laws_FnFilterText.l3]; rw [if_neg (by omega)]; exact hK k hk
  | succ d ih =>
    intro j hj hq
    have hlt : j < l.length := by omega
    by_cases e : (i : Int) = (j : Int)
    · obtain ⟨K, hK⟩ := ih (j + 1) (by omega) (fun q h hq2 hne => hq q (by omega) hq2 hne)
      refine ev1 K fun k hk => ?_
      simp only [laws_FnFilterText.l3]
      rw [if_pos (by omega), if_pos e, wr1 (by omega) (by omega)]
      exact hK k hk
    · have hr := rd_L1_nat l j hlt
      have hr2 := rd_L1_nat l i hi
      obtain ⟨c, ⟨K2, hK2⟩, hc⟩ := heads_ev l[i] l[j] (by have := hl _ (List.getElem_mem hi); omega)
      dsimp only at hK2
      cases c with
      | true =>
        refine ev1 K2 fun k hk => ?_
        simp only [laws_FnFilterText.l3]
        rw [if_pos (by omega), if_neg e, if_pos (by omega), if_pos (by omega), if_pos (by omega), if_pos (by omega), hr, hr2, hK2 k hk]
        rfl
      | false =>
        obtain ⟨K, hK⟩ := ih (j + 1) (by omega) (fun q h hq2 hne => by
          by_cases e2 : q = j
          · subst e2; exact hc rfl
          · exact hq q (by omega) hq2 hne)
        refine ev1 (max K K2) fun k hk => ?_
        simp only [laws_FnFilterText.l3]
        rw [if_pos (by omega), if_neg e, if_pos (by omega), if_pos (by omega), if_pos (by omega), if_pos (by omega), hr, hr2, hK2 k (by omega)]
        simp only [Option.bind_some]
        rw [if_neg (by simp), wr1 (by omega) (by omega)]
        exact hK k (by omega)
theorem ft_l2 (l : List (List ByteArray)) (hn : l.length ≤ 8) (hf : ∀ f ∈ l, fil1 f) (d : Nat) : ∀ i : Nat, i + d = l.length → (∀ p, p < i → apartAt l p) → Ev (fun k => laws_FnFilterText.l2 k l (l.length : Int) (i : Int)) true := by
  induction d with
  | zero =>
    intro i hi hp
    have h1 : filChk l := chk_of l hn hf (fun q h => hp q (by omega) h)
    obtain ⟨_, h2, h3⟩ := tree l h1
    have hsz : (⟨(Fil.rend (Fil.buildA l) 9 0 0).toArray⟩ : ByteArray).size = (Fil.rend (Fil.buildA l) 9 0 0).length := by simp [ByteArray.size]
    obtain ⟨K, hK⟩ := ft_l4 (⟨(Fil.rend (Fil.buildA l) 9 0 0).toArray⟩ : ByteArray) (by omega) l hn (fun f hfl => (hf f hfl).1) (fun f hfl s hs => by
      show s.data.toList <:+: (Fil.rend (Fil.buildA l) 9 0 0).toArray.toList
      rw [List.toList_toArray]
      exact h2 f hfl s hs) l.length 0 (by omega)
    refine ev1 K fun k hk => ?_
    simp only [laws_FnFilterText.l2]
    rw [if_neg (by omega), text_f l h1]
    exact hK k hk
  | succ d ih =>
    intro i hi hp
    have hlt : i < l.length := by omega
    obtain ⟨K, hK⟩ := ft_l3 l hn (fun f hfl => (hf f hfl).1) i hlt (fun ha => by
      rw [wr1 (by omega) (by omega)]
      exact ih (i + 1) (by omega) (fun p h => by
        by_cases e : p = i
        · subst e; exact ha
        · exact hp p (by omega))) l.length 0 (by omega) (fun q h => by omega)
    refine ev1 K fun k hk => ?_
    simp only [laws_FnFilterText.l2]
    rw [if_pos (by omega)]
    exact hK k hk
theorem ft_l1 (l x26 : List (List ByteArray)) (x27 x28 : Int) (f : List ByteArray) (hl : f.length ≤ 8) (hs : ∀ s ∈ f, s.size ≤ 2147483647) (hnext : Ev (fun k => laws_FnFilterText.l0 k l x26 x27 (wrap64 (x28 + 1))) true) (d : Nat) : ∀ j : Nat, j + d = f.length → Ev (fun k => laws_FnFilterText.l1 k l x26 x27 x28 f (f.length : Int) (j : Int)) true := by
  obtain ⟨K0, hK0⟩ := hnext
  induction d with
  | zero => intro j hj; exact ev1 K0 fun k hk => by simp only [laws_FnFilterText.l1]; rw [if_neg (by omega)]; exact hK0 k hk
  | succ d ih =>
    intro j hj
    obtain ⟨K, hK⟩ := ih (j + 1) (by omega)
    have hlt : j < f.length := by omega
    have hr := rdOf_nat ByteArray.empty f j hlt
    have hsz := hs _ (List.getElem_mem hlt)
    obtain ⟨r, ⟨K1, hK1⟩, _⟩ := signs_len f[j] hsz
    dsimp only at hK1
    by_cases h0 : (r.1.length : Int) = 0
    · refine ev1 K1 fun k hk => ?_
      simp only [laws_FnFilterText.l1]
      rw [if_pos (by omega), if_pos (by omega), if_pos (by omega), hr, hK1 k hk]
      simp only [Option.bind_some]
      rw [if_pos h0]
    · obtain ⟨b, K2, hK2⟩ := plain_ev f[j] (⟨#[120]⟩ : ByteArray) hsz (by decide)
      dsimp only at hK2
      refine ev1 (max (max K K1) K2) fun k hk => ?_
      simp only [laws_FnFilterText.l1]
      rw [if_pos (by omega), if_pos (by omega), if_pos (by omega), hr, hK1 k (by omega)]
      simp only [Option.bind_some]
      rw [if_neg h0, hK2 k (by omega)]
      simp only [Option.bind_some]
      cases b with
      | false => rfl
      | true =>
        rw [if_pos rfl, wr1 (by omega) (by omega)]
        exact hK k (by omega)
theorem ft_l0 (l : List (List ByteArray)) (hn : l.length ≤ 8) (hf : Fit9 l) (d : Nat) : ∀ i : Nat, i + d = l.length → (∀ p, p < i → ∀ h : p < l.length, fil1 l[p]) → Ev (fun k => laws_FnFilterText.l0 k l l (l.length : Int) (i : Int)) true := by
  induction d with
  | zero =>
    intro i hi hp
    obtain ⟨K, hK⟩ := ft_l2 l hn (fun f hfl => by
      obtain ⟨p, hp2, rfl⟩ := List.getElem_of_mem hfl
      exact hp p (by omega) hp2) l.length 0 (by omega) (fun p h => by omega)
    exact ev1 K fun k hk => by simp only [laws_FnFilterText.l0]; rw [if_neg (by omega)]; exact hK k hk
  | succ d ih =>
    intro i hi hp
    have hlt : i < l.length := by omega
    have hr := rd_L1_nat l i hlt
    have hfx := hf.2 _ (List.getElem_mem hlt)
    by_cases hb : (l[i].length : Int) > 8
    · refine ev1 1 fun k hk => ?_
      obtain ⟨m, rfl⟩ : ∃ m, k = m + 1 := ⟨k - 1, by omega⟩
      simp only [laws_FnFilterText.l0]
      rw [if_pos (by omega), if_pos (by omega), if_pos (by omega), hr, if_pos hb]
      simp only [laws_FnFilterText.j1]
      rw [if_pos trivial]
    · obtain ⟨c, ⟨K1, hK1⟩, hc⟩ := clean_ev 40 l[i] hfx
      dsimp only at hK1
      cases c with
      | false =>
        refine ev1 (max K1 1) fun k hk => ?_
        have e1 := hK1 k (by omega)
        obtain ⟨m, rfl⟩ : ∃ m, k = m + 1 := ⟨k - 1, by omega⟩
        simp only [laws_FnFilterText.l0]
        rw [if_pos (by omega), if_pos (by omega), if_pos (by omega), hr, if_neg hb, e1]
        simp only [Option.bind_some, laws_FnFilterText.j1]
        rw [if_pos (by rfl)]
      | true =>
        have hcl := hc rfl
        obtain ⟨K2, hK2⟩ := ft_l1 l l (l.length : Int) (i : Int) l[i] (by omega) (fun s hs => by have := (hcl s hs).1.1; omega) (by
          rw [wr1 (by omega) (by omega)]
          exact ih (i + 1) (by omega) (fun p hp2 h => by
            by_cases e : p = i
            · subst e
              exact ⟨by omega, fun s hs => ⟨by have := (hcl s hs).1.1; omega, not_any s (hcl s hs).1.2⟩⟩
            · exact hp p (by omega) h)) l[i].length 0 (by omega)
        refine ev1 (max K1 (K2 + 1)) fun k hk => ?_
        have e1 := hK1 k (by omega)
        obtain ⟨m, rfl⟩ : ∃ m, k = m + 1 := ⟨k - 1, by omega⟩
        simp only [laws_FnFilterText.l0]
        rw [if_pos (by omega), if_pos (by omega), if_pos (by omega), hr, if_neg hb, e1]
        simp only [Option.bind_some, laws_FnFilterText.j1]
        rw [if_neg (by simp)]
        exact hK2 m (by omega)
theorem FnFilterText (x0 : List (List ByteArray)) (g0 : (x0.length ≤ 9223372036854775807 ∧ ∀ y0 ∈ x0, (y0.length ≤ 9223372036854775807 ∧ ∀ y1 ∈ y0, y1.size ≤ 9223372036854775807))) : ∃ k, laws_FnFilterText.f k x0 = some true := by
  obtain ⟨b, ⟨K, hK⟩, hb⟩ := fit9 x0
  dsimp only at hK
  cases b with
  | false => exact ⟨K, by simp only [laws_FnFilterText.f]; rw [hK K (Nat.le_refl _)]; rfl⟩
  | true =>
    have h1 : filChk [[(⟨#[97]⟩ : ByteArray)]] := chk_of _ (by simp) (fun f hf => by
      rw [List.mem_singleton.1 hf]
      exact ⟨by simp, fun s hs => by rw [List.mem_singleton.1 hs]; exact ⟨by decide, by decide⟩⟩) (fun i h q hq hne => by simp at h hq; omega)
    have hcan := text_f _ h1
    have htx : Fil.rend (Fil.buildA [[(⟨#[97]⟩ : ByteArray)]]) 9 0 0 = [97, 10] := by decide
    rw [htx] at hcan
    have hne : ¬ (⟨([97, 10] : List UInt8).toArray⟩ : ByteArray).toList = ([] : List UInt8) := by rw [ByteArray.toList_eq]; simp
    by_cases hl : (x0.length : Int) > 8
    · refine ⟨K, ?_⟩
      simp only [laws_FnFilterText.f]
      rw [hK _ (by omega)]
      simp only [Option.bind_some]
      rw [if_pos trivial, hcan]
      simp only [Option.bind_some]
      rw [if_neg hne, if_pos hl]
    · obtain ⟨K2, hK2⟩ := ft_l0 x0 (by omega) (hb rfl) x0.length 0 (by omega) (fun p hp => by omega)
      refine ⟨max K K2, ?_⟩
      simp only [laws_FnFilterText.f]
      rw [hK _ (by omega)]
      simp only [Option.bind_some]
      rw [if_pos trivial, hcan]
      simp only [Option.bind_some]
      rw [if_neg hne, if_neg hl]
      exact hK2 _ (by omega)
end Go.Proofs.Ythecfligfhpccaa.Pure
