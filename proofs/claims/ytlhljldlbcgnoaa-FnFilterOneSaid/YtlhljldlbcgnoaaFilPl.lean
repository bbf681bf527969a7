/- Plain words on filters: what the reference says of them, and when it is open. -/
import Derived.Test.YtlhljldlbcgnoaaEFilD
import Derived.Test.YtlhljldlbcgnoaaXFits
import Derived.Test.YtlhljldlbcgnoaaP17
import Derived.Test.YtlhljldlbcgnoaaP24
import Derived.Test.YtlhljldlbcgnoaaP18
set_option linter.unusedVariables false
namespace Go.Proofs.Ytlhljldlbcgnoaa.X
open Go.RowKit Go.Proofs.YtlhljldlbcgnoaaW.PrintWords Go.Proofs.YtlhljldlbcgnoaaW.PrintLast Go.Proofs.YtlhljldlbcgnoaaW.PrintMore Go.Proofs.Ytlhljldlbcgnoaa.P

theorem any_iff {s : ByteArray} : s.toList = ([0] : List UInt8) ↔ s = Fil.ANY := by
  have : Fil.ANY.toList = ([0] : List UInt8) := by rw [ByteArray.toList_eq]; rfl
  rw [← this]
  exact toList_iff
theorem hasAny_l0 (xs : List ByteArray) (hn : xs.length ≤ 2147483647) (d : Nat) : ∀ i : Nat, i + d = xs.length → Ev (fun k => laws_hasAny.l0 k xs (xs.length : Int) (i : Int)) ((xs.drop i).any (fun v => decide (v = Fil.ANY))) := by
  induction d with
  | zero => intro i hi; exact ev1 0 fun k _ => by simp only [laws_hasAny.l0]; rw [if_neg (by omega), List.drop_eq_nil_of_le (by omega)]; simp
  | succ d ih =>
    intro i hi
    obtain ⟨K, hK⟩ := ih (i + 1) (by omega)
    have hlt : i < xs.length := by omega
    have hr := rdOf_nat ByteArray.empty xs i hlt
    refine ev1 K fun k hk => ?_
    simp only [laws_hasAny.l0]
    rw [if_pos (by omega), if_pos (by omega), if_pos (by omega), hr, List.drop_eq_getElem_cons hlt]
    by_cases he : xs[i] = Fil.ANY
    · rw [if_pos (any_iff.2 he)]; simp [he]
    · rw [if_neg (fun h => he (any_iff.1 h)), wr1 (by omega) (by omega)]
      have := hK k hk
      dsimp only at this
      rw [show ((i : Int) + 1) = ((i + 1 : Nat) : Int) by omega, this, List.any_cons]
      simp [he]
theorem hasAny_ev (xs : List ByteArray) (hn : xs.length ≤ 2147483647) : Ev (fun k => laws_hasAny.f k xs) (xs.any (fun v => decide (v = Fil.ANY))) := by
  have := hasAny_l0 xs hn xs.length 0 (by omega)
  rw [List.drop_zero] at this
  exact this
theorem anyIn_l0 (xs : List ByteArray) (hn : xs.length ≤ 2147483647) (d : Nat) : ∀ i : Nat, i + d = xs.length → Ev (fun k => spec_anyIn.l0 k xs (xs.length : Int) (i : Int)) ((xs.drop i).any (fun v => decide (v = Fil.ANY))) := by
  induction d with
  | zero => intro i hi; exact ev1 0 fun k _ => by simp only [spec_anyIn.l0]; rw [if_neg (by omega), List.drop_eq_nil_of_le (by omega)]; simp
  | succ d ih =>
    intro i hi
    obtain ⟨K, hK⟩ := ih (i + 1) (by omega)
    have hlt : i < xs.length := by omega
    have hr := rdOf_nat ByteArray.empty xs i hlt
    refine ev1 K fun k hk => ?_
    simp only [spec_anyIn.l0]
    rw [if_pos (by omega), if_pos (by omega), if_pos (by omega), hr, List.drop_eq_getElem_cons hlt]
    by_cases he : xs[i] = Fil.ANY
    · rw [if_pos (any_iff.2 he)]; simp [he]
    · rw [if_neg (fun h => he (any_iff.1 h)), wr1 (by omega) (by omega)]
      have := hK k hk
      dsimp only at this
      rw [show ((i : Int) + 1) = ((i + 1 : Nat) : Int) by omega, this, List.any_cons]
      simp [he]
theorem anyIn_ev (xs : List ByteArray) (hn : xs.length ≤ 2147483647) : Ev (fun k => spec_anyIn.f k xs) (xs.any (fun v => decide (v = Fil.ANY))) := by
  have := anyIn_l0 xs hn xs.length 0 (by omega)
  rw [List.drop_zero] at this
  exact this
theorem wild_len (f : List ByteArray) : ∀ xs, Fil.wild f xs = true → f.length ≤ xs.length := by
  induction f with
  | nil => intro xs _; simp
  | cons v f ih =>
    intro xs h
    cases xs with
    | nil => simp [Fil.wild] at h
    | cons x xs =>
      simp only [Fil.wild, Bool.and_eq_true] at h
      have := ih xs h.2
      simp
      omega
/-- What the reference answers: 2 where it is open. -/
def ans (xs : List ByteArray) : List (List ByteArray) → Int → Int
  | [], a => a
  | f :: fs, a => if f = [] then 2 else ans xs fs (if Fil.wild f xs then 1 else a)
theorem ans_eq (xs : List ByteArray) (fs : List (List ByteArray)) : ∀ a, ((∃ f ∈ fs, f = []) ∧ ans xs fs a = 2) ∨ ((∀ f ∈ fs, f ≠ []) ∧ ans xs fs a = if fs.any (fun f => Fil.wild f xs) then 1 else a) := by
  induction fs with
  | nil => intro a; exact .inr ⟨by simp, rfl⟩
  | cons f fs ih =>
    intro a
    by_cases hf : f = []
    · exact .inl ⟨⟨f, by simp, hf⟩, by simp [ans, hf]⟩
    · rcases ih (if Fil.wild f xs then 1 else a) with ⟨⟨g, hg, h1⟩, h2⟩ | ⟨h1, h2⟩
      · exact .inl ⟨⟨g, List.mem_cons_of_mem _ hg, h1⟩, by simp [ans, hf, h2]⟩
      · refine .inr ⟨fun g hg => ?_, ?_⟩
        · rcases List.mem_cons.1 hg with rfl | hg
          · exact hf
          · exact h1 g hg
        · simp only [ans, if_neg hf, h2, List.any_cons]
          by_cases hw : Fil.wild f xs = true
          · simp [hw]
          · simp [Bool.eq_false_iff.2 hw]
theorem match_l1 (x0 : List (List ByteArray)) (x1 : List ByteArray) (x5 : Int) (f : List ByteArray) (x10 : List (List ByteArray)) (x11 x12 : Int) (r1 r5 : Int) (hlen : f.length ≤ x1.length) (hf : f.length ≤ 2147483647) (h1 : Ev (fun k => spec_FilterMatch.l0 k x0 x1 1 x10 x11 (wrap64 (x12 + 1))) r1) (h5 : Ev (fun k => spec_FilterMatch.l0 k x0 x1 x5 x10 x11 (wrap64 (x12 + 1))) r5) (d : Nat) : ∀ i : Nat, i + d = f.length → Ev (fun k => spec_FilterMatch.l1 k x0 x1 x5 f true (i : Int) x10 x11 x12) (cond (Fil.wild (f.drop i) (x1.drop i)) r1 r5) := by
  obtain ⟨K1, h1⟩ := h1
  obtain ⟨K5, h5⟩ := h5
  dsimp only at h1 h5
  induction d with
  | zero => intro i hi; exact ev1 K1 fun k hk => by simp only [spec_FilterMatch.l1]; rw [if_neg (by omega), if_pos trivial, List.drop_eq_nil_of_le (by omega)]; exact h1 k hk
  | succ d ih =>
    intro i hi
    obtain ⟨K, hK⟩ := ih (i + 1) (by omega)
    dsimp only at hK
    have hlt : i < f.length := by omega
    have hlt1 : i < x1.length := by omega
    have hr := rdOf_nat ByteArray.empty f i hlt
    have hr1 := rdOf_nat ByteArray.empty x1 i hlt1
    refine ev1 (max (K + 1) (K5 + 1)) fun k hk => ?_
    have hk1 := hK k (by omega)
    rw [show (((i + 1 : Nat)) : Int) = (i : Int) + 1 by omega] at hk1
    have hk5 : spec_FilterMatch.l1 k x0 x1 x5 f false ((i : Int) + 1) x10 x11 x12 = some r5 := by
      obtain ⟨m, rfl⟩ : ∃ m, k = m + 1 := ⟨k - 1, by omega⟩
      simp only [spec_FilterMatch.l1]
      split
      · exact h5 m (by omega)
      · exact h5 m (by omega)
    rw [List.drop_eq_getElem_cons hlt, List.drop_eq_getElem_cons hlt1]
    simp only [spec_FilterMatch.l1, Fil.wild]
    rw [if_pos (by omega), if_pos trivial, if_pos (by omega), hr, hr1]
    by_cases he : f[i] = Fil.ANY
    · rw [if_pos (any_iff.2 he), wr1 (by omega) (by omega), hk1]
      simp [he]
    · rw [if_neg (fun h => he (any_iff.1 h)), if_pos (by omega), wr1 (by omega) (by omega)]
      by_cases hx : f[i] = x1[i]
      · have hb : (f[i].toList == x1[i].toList) = true := by simp [hx]
        rw [hb, hk1]
        simp [hx]
      · have hb : (f[i].toList == x1[i].toList) = false := beq_eq_false_iff_ne.2 fun h => hx (toList_inj h)
        rw [hb, hk5]
        simp [he, hx]
/-- The reference, where of several filters none has the sign for any. -/
theorem match_l0 (x0 : List (List ByteArray)) (x1 : List ByteArray) (hn : x0.length ≤ 2147483647) (hf : ∀ f ∈ x0, f.length ≤ 2147483647) (hany : 1 < x0.length → ∀ f ∈ x0, f.any (fun v => decide (v = Fil.ANY)) = false) (d : Nat) : ∀ (i : Nat) (a : Int), i + d = x0.length → Ev (fun k => spec_FilterMatch.l0 k x0 x1 a x0 (x0.length : Int) (i : Int)) (ans x1 (x0.drop i) a) := by
  induction d with
  | zero => intro i a hi; exact ev1 0 fun k _ => by simp only [spec_FilterMatch.l0]; rw [if_neg (by omega), List.drop_eq_nil_of_le (by omega)]; rfl
  | succ d ih =>
    intro i a hi
    have hlt : i < x0.length := by omega
    have hr := rd_L1_nat x0 i hlt
    have hfl := hf _ (List.getElem_mem hlt)
    have hw : wrap64 ((i : Int) + 1) = ((i + 1 : Nat) : Int) := by rw [wr1 (by omega) (by omega)]; omega
    rw [List.drop_eq_getElem_cons hlt]
    by_cases h0 : x0[i] = []
    · refine ev1 1 fun k hk => ?_
      obtain ⟨m, rfl⟩ : ∃ m, k = m + 1 := ⟨k - 1, by omega⟩
      simp only [spec_FilterMatch.l0]
      rw [if_pos (by omega), if_pos (by omega), if_pos (by omega), hr, if_pos (by simp [h0])]
      simp only [spec_FilterMatch.j1]
      rw [if_pos trivial]
      simp [ans, h0]
    · have hlen : x0[i].length ≠ 0 := fun h => h0 (List.length_eq_zero_iff.1 h)
      have hj : Ev (fun k => spec_FilterMatch.j1 k x0 x1 a x0[i] x0 (x0.length : Int) (i : Int) false) (ans x1 (x0.drop (i + 1)) (if Fil.wild x0[i] x1 then 1 else a)) := by
        by_cases hle : x0[i].length ≤ x1.length
        · obtain ⟨K, hK⟩ := match_l1 x0 x1 a x0[i] x0 (x0.length : Int) (i : Int) _ _ hle hfl (by rw [hw]; exact ih (i + 1) 1 (by omega)) (by rw [hw]; exact ih (i + 1) a (by omega)) x0[i].length 0 (by omega)
          refine ev1 K fun k hk => ?_
          simp only [spec_FilterMatch.j1]
          have hd : decide ((x0[i].length : Int) ≤ (x1.length : Int)) = true := decide_eq_true (by omega)
          rw [if_neg (by simp), hd]
          have := hK k hk
          dsimp only at this
          rw [show ((0 : Nat) : Int) = 0 from rfl, List.drop_zero, List.drop_zero] at this
          rw [this]
          cases Fil.wild x0[i] x1 <;> rfl
        · have hwf : Fil.wild x0[i] x1 = false := by
            cases h : Fil.wild x0[i] x1 with
            | false => rfl
            | true => exact absurd (wild_len _ _ h) hle
          obtain ⟨K, hK⟩ := ih (i + 1) a (by omega)
          dsimp only at hK
          refine ev1 (K + 1) fun k hk => ?_
          obtain ⟨m, rfl⟩ : ∃ m, k = m + 1 := ⟨k - 1, by omega⟩
          simp only [spec_FilterMatch.j1, spec_FilterMatch.l1]
          have hd : decide ((x0[i].length : Int) ≤ (x1.length : Int)) = false := decide_eq_false (by omega)
          rw [if_neg (by simp), if_pos (by omega), if_neg (by rw [hd]; simp), hw, hK m (by omega), hwf]
          rfl
      obtain ⟨K, hK⟩ := hj
      dsimp only at hK
      obtain ⟨K2, hK2⟩ := anyIn_ev x0[i] hfl
      dsimp only at hK2
      refine ev1 (max K K2) fun k hk => ?_
      simp only [spec_FilterMatch.l0, ans, if_neg h0]
      rw [if_pos (by omega), if_pos (by omega), if_pos (by omega), hr, if_neg (by omega)]
      by_cases h1 : (x0.length : Int) > 1
      · rw [if_pos h1, hK2 k (by omega), hany (by omega) _ (List.getElem_mem hlt)]
        exact hK k (by omega)
      · rw [if_neg h1]
        exact hK k (by omega)
theorem match_ev (x0 : List (List ByteArray)) (x1 : List ByteArray) (hn : x0.length ≤ 2147483647) (hf : ∀ f ∈ x0, f.length ≤ 2147483647) (hany : 1 < x0.length → ∀ f ∈ x0, f.any (fun v => decide (v = Fil.ANY)) = false) : Ev (fun k => spec_FilterMatch.f k x0 x1) (ans x1 x0 0) := by
  have := match_l0 x0 x1 hn hf hany x0.length 0 0 (by omega)
  rw [List.drop_zero] at this
  exact this
theorem wild_pre (f : List ByteArray) (h : f.any (fun v => decide (v = Fil.ANY)) = false) : ∀ xs, Fil.wild f xs = Fil.pre f xs := by
  induction f with
  | nil => intro xs; rfl
  | cons v f ih =>
    intro xs
    simp only [List.any_cons, Bool.or_eq_false_iff] at h
    cases xs with
    | nil => rfl
    | cons x xs =>
      simp only [Fil.wild, Fil.pre, h.1, Bool.false_or, ih h.2]
/-- What the program tells is any filter's own word. -/
theorem build_any (x0 : List (List ByteArray)) (x1 : List ByteArray) (h0 : ∀ f ∈ x0, f ≠ []) (hany : 1 < x0.length → ∀ f ∈ x0, f.any (fun v => decide (v = Fil.ANY)) = false) : Fil.matchA (Fil.buildA x0) 0 x1 = x0.any (fun f => Fil.wild f x1) := by
  match x0, h0, hany with
  | [], _, _ => rw [Fil.many [] (by simp)]; rfl
  | [f], h0, _ => rw [Fil.one f x1 (h0 f (by simp))]; simp
  | f :: g :: l, h0, hany =>
    have ha := hany (by simp)
    rw [Fil.many _ (fun q hq => ⟨h0 q hq, fun v hv e => by
      have := ha q hq
      rw [List.any_eq_false] at this
      exact this v hv (by simp [e])⟩)]
    have hcong : ∀ (l : List (List ByteArray)), (∀ q ∈ l, q.any (fun v => decide (v = Fil.ANY)) = false) → l.any (fun f => Fil.pre f x1) = l.any (fun f => Fil.wild f x1) := by
      intro l hl
      induction l with
      | nil => rfl
      | cons q l ih =>
        simp only [List.any_cons]
        rw [wild_pre q (hl q (by simp)), ih (fun q hq => hl q (List.mem_cons_of_mem _ hq))]
    exact hcong _ ha
theorem impl_f (x0 : List (List ByteArray)) (x1 : List ByteArray) (h1 : x0.length ≤ 1000) (h2 : ∀ f ∈ x0, f.length ≤ 1000) (h3 : x1.length ≤ 1000000) : impl_FilterMatch.f x0 x1 = some (Fil.matchA (Fil.buildA x0) 0 x1) := by
  unfold impl_FilterMatch.f
  rw [if_pos ⟨h1, h2, h3⟩]
theorem canary1 (a b : ByteArray) (h1 : a ≠ Fil.ANY) : impl_FilterMatch.f [[a]] [b] = some (decide (a = b)) := by
  rw [impl_f _ _ (by simp) (by simp) (by simp), build_any _ _ (by simp) (by simp)]
  simp [Fil.wild, h1]
end Go.Proofs.Ytlhljldlbcgnoaa.X
