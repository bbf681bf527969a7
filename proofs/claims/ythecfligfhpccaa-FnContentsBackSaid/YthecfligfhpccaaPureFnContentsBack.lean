/- Contents of two rows and more that are written as a text are read again. No condition. -/
import Derived.Test.YthecfligfhpccaaCtPl2
import Derived.Test.YthecfligfhpccaaXClean
import Derived.Test.YthecfligfhpccaaXSame
import Derived.Test.YthecfligfhpccaaP3
set_option linter.unusedVariables false
namespace Go.Proofs.Ythecfligfhpccaa.Pure
open Go.RowKit Go.Proofs.YthecfligfhpccaaW.PrintWords Go.Proofs.YthecfligfhpccaaW.PrintLast Go.Proofs.YthecfligfhpccaaW.PrintMore Go.Proofs.Ythecfligfhpccaa.P Go.Proofs.Ythecfligfhpccaa.X

def goodRow (x : List ByteArray) : Prop := x ≠ [] ∧ x.length ≤ 6 ∧ ∀ s ∈ x, s.size ≤ 40 ∧ noSep s
theorem goodRow_text {x : List ByteArray} (h : goodRow x) : x.length ≤ 10 ∧ (joined x BEL).size ≤ 1000000 := by
  refine ⟨by have := h.2.1; omega, ?_⟩
  rw [← rowB_length, rowB_join]
  have := join_len 7 40 (x.map (·.data.toList)) (fun y hy => by
    obtain ⟨s, hs, rfl⟩ := List.mem_map.1 hy
    rw [list_size]
    exact (h.2.2 s hs).1)
  rw [List.length_map] at this
  have := h.2.1
  omega
theorem noSep_of (s : ByteArray) (h : ∀ q : Nat, q < s.size → bt s (q : Int) ≠ 10 ∧ bt s (q : Int) ≠ 7) : noSep s := by
  constructor
  all_goals
    intro hm
    obtain ⟨q, hq, he⟩ := List.getElem_of_mem hm
    have hq2 : q < s.size := by rw [← list_size]; exact hq
    have h1 := h q hq2
    have h2 := bt_at s (q : Int) (by rw [Int.toNat_natCast]; exact hq2)
    have h3 : s[((q : Int)).toNat]'(by rw [Int.toNat_natCast]; exact hq2) = s.data.toList[q] := by simp; rfl
    rw [h3, he] at h2
    simp at h2
    omega
theorem cb_l2 (x0 : List (List ByteArray)) (x6 : List ByteArray) (s : ByteArray) (x41 : List (List ByteArray)) (x42 x43 : Int) (x60 : List ByteArray) (x61 x62 : Int) (hs : s.size ≤ 2147483647) (hnext : noSep s → Ev (fun k => laws_FnContentsBack.l1 k x0 x6 x41 x42 x43 x60 x61 (wrap64 (x62 + 1))) true) (d : Nat) : ∀ j : Nat, j + d = s.size → (∀ q : Nat, q < j → bt s (q : Int) ≠ 10 ∧ bt s (q : Int) ≠ 7) → Ev (fun k => laws_FnContentsBack.l2 k x0 x6 s x41 x42 x43 x60 x61 x62 (s.size : Int) (j : Int)) true := by
  induction d with
  | zero =>
    intro j hj hq
    obtain ⟨K, hK⟩ := hnext (noSep_of s (fun q h => hq q (by omega)))
    exact ev1 K fun k hk => by simp only [laws_FnContentsBack.l2]; rw [if_neg (by omega)]; exact hK k hk
  | succ d ih =>
    intro j hj hq
    by_cases h10 : bt s (j : Int) = 10
    · exact ev1 0 fun k _ => by simp only [laws_FnContentsBack.l2]; rw [if_pos (by omega), if_pos (by omega), if_pos (by omega), if_pos h10]
    · by_cases h7 : bt s (j : Int) = 7
      · exact ev1 0 fun k _ => by simp only [laws_FnContentsBack.l2]; rw [if_pos (by omega), if_pos (by omega), if_pos (by omega), if_neg h10, if_pos h7]
      · obtain ⟨K, hK⟩ := ih (j + 1) (by omega) (fun q h => by
          by_cases e : q = j
          · subst e; exact ⟨h10, h7⟩
          · exact hq q (by omega))
        refine ev1 K fun k hk => ?_
        simp only [laws_FnContentsBack.l2]
        rw [if_pos (by omega), if_pos (by omega), if_pos (by omega), if_neg h10, if_neg h7, wr1 (by omega) (by omega)]
        exact hK k hk
theorem cb_l1 (x0 : List (List ByteArray)) (x : List ByteArray) (x41 : List (List ByteArray)) (x42 x43 : Int) (hx : x.length ≤ 2147483647) (hs : ∀ s ∈ x, s.size ≤ 2147483647) (hnext : (∀ s ∈ x, noSep s) → Ev (fun k => laws_FnContentsBack.l0 k x0 x41 x42 (wrap64 (x43 + 1))) true) (d : Nat) : ∀ j : Nat, j + d = x.length → (∀ q : Nat, q < j → ∀ h : q < x.length, noSep x[q]) → Ev (fun k => laws_FnContentsBack.l1 k x0 x x41 x42 x43 x (x.length : Int) (j : Int)) true := by
  induction d with
  | zero =>
    intro j hj hq
    obtain ⟨K, hK⟩ := hnext (fun s hs => by
      obtain ⟨q, hq2, rfl⟩ := List.getElem_of_mem hs
      exact hq q (by omega) hq2)
    refine ev1 K fun k hk => ?_
    simp only [laws_FnContentsBack.l1]
    rw [if_neg (by omega)]
    split
    · rw [if_pos (by omega)]
      split
      · rfl
      · exact hK k hk
    · exact hK k hk
  | succ d ih =>
    intro j hj hq
    have hlt : j < x.length := by omega
    have hr := rdOf_nat ByteArray.empty x j hlt
    obtain ⟨K, hK⟩ := cb_l2 x0 x x[j] x41 x42 x43 x (x.length : Int) (j : Int) (hs _ (List.getElem_mem hlt)) (fun hns => by
      rw [wr1 (by omega) (by omega)]
      exact ih (j + 1) (by omega) (fun q h hl => by
        by_cases e : q = j
        · subst e; exact hns
        · exact hq q (by omega) hl)) x[j].size 0 (by omega) (fun q h => by omega)
    refine ev1 K fun k hk => ?_
    simp only [laws_FnContentsBack.l1]
    rw [if_pos (by omega), if_pos (by omega), if_pos (by omega), hr]
    exact hK k hk
theorem cb_l3 (l : List (List ByteArray)) (hl : l.length ≤ 10) (hx : ∀ x ∈ l, x.length ≤ 6) (d : Nat) : ∀ i : Nat, i + d = l.length → Ev (fun k => laws_FnContentsBack.l3 k l l (l.length : Int) (i : Int)) true := by
  induction d with
  | zero => intro i hi; exact ev1 0 fun k _ => by simp only [laws_FnContentsBack.l3]; rw [if_neg (by omega)]
  | succ d ih =>
    intro i hi
    obtain ⟨K, hK⟩ := ih (i + 1) (by omega)
    have hlt : i < l.length := by omega
    have hr := rd_L1_nat l i hlt
    obtain ⟨K2, hK2⟩ := sameTexts_same l[i] (by have := hx _ (List.getElem_mem hlt); omega)
    dsimp only at hK2
    refine ev1 (max K K2) fun k hk => ?_
    simp only [laws_FnContentsBack.l3]
    rw [if_pos (by omega), if_pos (by omega), if_pos (by omega), if_pos (by omega), hr, hK2 k (by omega)]
    simp only [Option.bind_some]
    rw [if_pos trivial, wr1 (by omega) (by omega)]
    exact hK k (by omega)
theorem text_f (l : List (List ByteArray)) (hok : textOk l) : impl_ContentsText.f l = some (⟨(textB l).toArray⟩, ((textB l).length : Int)) := by
  unfold impl_ContentsText.f
  rw [if_pos hok]
theorem cb_l0 (l : List (List ByteArray)) (h2 : 2 ≤ l.length) (h10 : l.length ≤ 10) (hf : Fit9 l) (d : Nat) : ∀ i : Nat, i + d = l.length → (∀ p, p < i → ∀ h : p < l.length, goodRow l[p]) → Ev (fun k => laws_FnContentsBack.l0 k l l (l.length : Int) (i : Int)) true := by
  induction d with
  | zero =>
    intro i hi hsm
    have hall : ∀ x ∈ l, goodRow x := fun x hx => by
      obtain ⟨p, hp, rfl⟩ := List.getElem_of_mem hx
      exact hsm p (by omega) hp
    have hok : textOk l := ⟨h2, h10, fun x hx => goodRow_text (hall x hx)⟩
    obtain ⟨K1, hK1⟩ := contents_ev l hok (fun x hx => ⟨(hall x hx).1, fun s hs => ((hall x hx).2.2 s hs).2⟩)
    obtain ⟨K2, hK2⟩ := cb_l3 l h10 (fun x hx => (hall x hx).2.1) l.length 0 (by omega)
    refine ev1 (max K1 (K2 + 1)) fun k hk => ?_
    have e1 := hK1 k (by omega)
    dsimp only at e1
    obtain ⟨m, rfl⟩ : ∃ m, k = m + 1 := ⟨k - 1, by omega⟩
    simp only [laws_FnContentsBack.l0]
    rw [if_neg (by omega), text_f l hok]
    simp only [Option.bind_some]
    rw [e1]
    simp only [Option.bind_some]
    rw [if_pos (by simp [ByteArray.size])]
    simp only [laws_FnContentsBack.j6]
    rw [if_neg (by simp)]
    exact hK2 m (by omega)
  | succ d ih =>
    intro i hi hsm
    have hlt : i < l.length := by omega
    have hr := rd_L1_nat l i hlt
    have hfx := hf.2 _ (List.getElem_mem hlt)
    by_cases h0 : (l[i].length : Int) = 0
    · refine ev1 1 fun k hk => ?_
      obtain ⟨m, rfl⟩ : ∃ m, k = m + 1 := ⟨k - 1, by omega⟩
      simp only [laws_FnContentsBack.l0]
      rw [if_pos (by omega), if_pos (by omega), if_pos (by omega), hr, if_pos h0]
      simp only [laws_FnContentsBack.j3]
      rw [if_pos trivial]
    · by_cases hb : (l[i].length : Int) > 6
      · refine ev1 1 fun k hk => ?_
        obtain ⟨m, rfl⟩ : ∃ m, k = m + 1 := ⟨k - 1, by omega⟩
        simp only [laws_FnContentsBack.l0]
        rw [if_pos (by omega), if_pos (by omega), if_pos (by omega), hr, if_neg h0, if_pos hb]
        simp only [laws_FnContentsBack.j3]
        rw [if_pos trivial]
      · obtain ⟨c, ⟨K1, hK1⟩, hc⟩ := clean_ev 40 l[i] hfx
        dsimp only at hK1
        cases c with
        | false =>
          refine ev1 (max K1 1) fun k hk => ?_
          have e1 := hK1 k (by omega)
          obtain ⟨m, rfl⟩ : ∃ m, k = m + 1 := ⟨k - 1, by omega⟩
          simp only [laws_FnContentsBack.l0]
          rw [if_pos (by omega), if_pos (by omega), if_pos (by omega), hr, if_neg h0, if_neg hb, e1]
          simp only [Option.bind_some, laws_FnContentsBack.j3]
          rw [if_pos (by rfl)]
        | true =>
          have hcl := hc rfl
          obtain ⟨K2, hK2⟩ := cb_l1 l l[i] l (l.length : Int) (i : Int) (by omega) (fun s hs => by have := (hcl s hs).1.1; omega) (fun hns => by
            rw [wr1 (by omega) (by omega)]
            exact ih (i + 1) (by omega) (fun p hp h => by
              by_cases e : p = i
              · subst e
                exact ⟨fun e2 => h0 (by rw [e2]; rfl), by omega, fun s hs => ⟨by have := (hcl s hs).1.1; omega, hns s hs⟩⟩
              · exact hsm p (by omega) h)) l[i].length 0 (by omega) (fun q h => by omega)
          refine ev1 (max K1 (K2 + 1)) fun k hk => ?_
          have e1 := hK1 k (by omega)
          obtain ⟨m, rfl⟩ : ∃ m, k = m + 1 := ⟨k - 1, by omega⟩
          simp only [laws_FnContentsBack.l0]
          rw [if_pos (by omega), if_pos (by omega), if_pos (by omega), hr, if_neg h0, if_neg hb, e1]
          simp only [Option.bind_some, laws_FnContentsBack.j3]
          rw [if_neg (by simp)]
          exact hK2 m (by omega)
theorem FnContentsBack (x0 : List (List ByteArray)) (g0 : (x0.length ≤ 9223372036854775807 ∧ ∀ y0 ∈ x0, (y0.length ≤ 9223372036854775807 ∧ ∀ y1 ∈ y0, y1.size ≤ 9223372036854775807))) : ∃ k, laws_FnContentsBack.f k x0 = some true := by
  obtain ⟨b, ⟨K, hK⟩, hb⟩ := fit9 x0
  dsimp only at hK
  cases b with
  | false => exact ⟨K, by simp only [laws_FnContentsBack.f]; rw [hK K (Nat.le_refl _)]; rfl⟩
  | true =>
    have hgood : ∀ x ∈ [[(⟨#[97]⟩ : ByteArray), (⟨#[98]⟩ : ByteArray)], [(⟨#[99]⟩ : ByteArray)]], x.length ≤ 10 ∧ (joined x BEL).size ≤ 1000000 := by
      intro x hx
      rcases List.mem_cons.1 hx with rfl | hx
      · exact ⟨by decide, by decide⟩
      · rcases List.mem_cons.1 hx with rfl | hx
        · exact ⟨by decide, by decide⟩
        · cases hx
    have hcan := text_f [[(⟨#[97]⟩ : ByteArray), (⟨#[98]⟩ : ByteArray)], [(⟨#[99]⟩ : ByteArray)]] ⟨by decide, by decide, hgood⟩
    have htx : textB [[(⟨#[97]⟩ : ByteArray), (⟨#[98]⟩ : ByteArray)], [(⟨#[99]⟩ : ByteArray)]] = [97, 7, 98, 10, 99] := by decide
    rw [htx] at hcan
    by_cases hs : (x0.length : Int) < 2
    · refine ⟨K + 2, ?_⟩
      simp only [laws_FnContentsBack.f]
      rw [hK _ (by omega)]
      simp only [Option.bind_some]
      rw [if_pos trivial, hcan]
      simp only [Option.bind_some]
      rw [if_neg (by decide)]
      simp only [laws_FnContentsBack.j0]
      rw [if_neg (by decide), if_pos hs]
      simp [laws_FnContentsBack.j1]
    · by_cases hl : (x0.length : Int) > 10
      · refine ⟨K + 2, ?_⟩
        simp only [laws_FnContentsBack.f]
        rw [hK _ (by omega)]
        simp only [Option.bind_some]
        rw [if_pos trivial, hcan]
        simp only [Option.bind_some]
        rw [if_neg (by decide)]
        simp only [laws_FnContentsBack.j0]
        rw [if_neg (by decide), if_neg hs]
        simp [laws_FnContentsBack.j1, hl]
      · obtain ⟨K2, hK2⟩ := cb_l0 x0 (by omega) (by omega) (hb rfl) x0.length 0 (by omega) (fun p hp => by omega)
        dsimp only at hK2
        refine ⟨max K K2 + 2, ?_⟩
        simp only [laws_FnContentsBack.f]
        rw [hK _ (by omega)]
        simp only [Option.bind_some]
        rw [if_pos trivial, hcan]
        simp only [Option.bind_some]
        rw [if_neg (by decide)]
        simp only [laws_FnContentsBack.j0]
        rw [if_neg (by decide), if_neg hs]
        simp only [laws_FnContentsBack.j1]
        rw [if_neg (by simp; omega)]
        exact hK2 _ (by omega)
end Go.Proofs.Ythecfligfhpccaa.Pure
