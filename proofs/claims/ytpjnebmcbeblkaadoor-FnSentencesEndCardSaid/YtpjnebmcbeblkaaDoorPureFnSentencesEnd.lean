/- The plain law of FnSentencesEnd. -/
import Derived.Test.YtpjnebmcbeblkaaDoorQSe
import Derived.Test.YtpjnebmcbeblkaaDoorXStructs
import Derived.Test.YtpjnebmcbeblkaaDoorP5
set_option linter.unusedVariables false
namespace Go.Proofs.YtpjnebmcbeblkaaDoor.Pure
open Go.RowKit Go.Lib Go.Proofs.YtpjnebmcbeblkaaDoorW.PrintWords Go.Proofs.YtpjnebmcbeblkaaDoorW.PrintLast Go.Proofs.YtpjnebmcbeblkaaDoorW.PrintMore Go.Proofs.YtpjnebmcbeblkaaDoor.P Go.Proofs.YtpjnebmcbeblkaaDoor.X Go.Proofs.YtpjnebmcbeblkaaDoor.Sn
theorem end_l1 {a f : ByteArray} {la lf : List ByteArray} (ha : ∀ c, Ev (fun k => laws_has.f k a c) (hasB la c)) (hf : ∀ c, Ev (fun k => laws_has.f k f c) (hasB lf c)) (mx : Int) (x5 xs : List ByteArray) (n0 i : Int) (m : List ByteArray) (hl : m.length ≤ 2147483647) (q : Nat) (hq0 : ∃ h : q < m.length, hasB la m[q] = true) (hq : ∀ (j : Nat) (hj : j < m.length), q ≤ j → (hasB la m[j] || hasB lf m[j]) = true)
    (hnext : Ev (fun k => laws_FnSentencesEnd.l0 k x5 xs n0 (wrap64 (i + 1)) a f false false mx) true) : ∀ n : Nat, n ≤ m.length → q < n → Ev (fun k => laws_FnSentencesEnd.l1 k x5 m (n : Int) xs n0 i a f false false mx) true
  | 0, hn, hqn => by omega
  | n + 1, hn, hqn => by
    obtain ⟨K1, hK1⟩ := ha m[n]
    obtain ⟨K2, hK2⟩ := hf m[n]
    obtain ⟨K3, hK3⟩ := hnext
    dsimp only at hK1 hK2 hK3
    have hw : wrap64 (((n + 1 : Nat) : Int) - 1) = (n : Int) := by rw [wrM (by omega) (by omega)]; omega
    have hrd := rdOf_nat ByteArray.empty m n (by omega)
    cases c2 : hasB lf m[n] with
    | true =>
      cases c1 : hasB la m[n] with
      | true =>
        refine ev1 (max K1 (max K2 K3)) fun k hk => ?_
        rw [laws_FnSentencesEnd.l1, if_pos (by omega), hw, if_pos (by omega), if_pos (by omega), hrd, hK2 k (by omega), c2]
        simp only [Option.bind_some]
        rw [if_pos trivial, hK1 k (by omega), c1]
        simp only [Option.bind_some]
        rw [if_pos trivial, if_neg (by omega), if_pos trivial]
        exact hK3 k (by omega)
      | false =>
        have hqn2 : q < n := by
          by_cases e : q = n
          · subst e; obtain ⟨h1, h2⟩ := hq0; rw [c1] at h2; cases h2
          · omega
        obtain ⟨K, hK⟩ := end_l1 ha hf mx x5 xs n0 i m hl q hq0 hq ⟨K3, hK3⟩ n (by omega) hqn2
        dsimp only at hK
        refine ev1 (max K (max K1 K2)) fun k hk => ?_
        rw [laws_FnSentencesEnd.l1, if_pos (by omega), hw, if_pos (by omega), if_pos (by omega), hrd, hK2 k (by omega), c2]
        simp only [Option.bind_some]
        rw [if_pos trivial, hK1 k (by omega), c1]
        simp only [Option.bind_some]
        rw [if_neg (by decide)]
        exact hK k (by omega)
    | false =>
      have c1 : hasB la m[n] = true := by
        have := hq n (by omega) (by omega)
        rwa [c2, Bool.or_false] at this
      refine ev1 (max K1 (max K2 K3)) fun k hk => ?_
      rw [laws_FnSentencesEnd.l1, if_pos (by omega), hw, if_pos (by omega), if_pos (by omega), hrd, hK2 k (by omega), c2]
      simp only [Option.bind_some]
      rw [if_neg (by decide), if_neg (by omega), hK1 k (by omega), c1]
      simp only [Option.bind_some]
      rw [if_pos trivial]
      exact hK3 k (by omega)
theorem end_l0 {a f : ByteArray} {la lf : List ByteArray} (ha : ∀ c, Ev (fun k => laws_has.f k a c) (hasB la c)) (hf : ∀ c, Ev (fun k => laws_has.f k f c) (hasB lf c)) (mx : Int) (xs : List (List ByteArray)) (hl : xs.length ≤ 2147483647) (hp : ∀ m ∈ xs, m.length ≤ 2147483647 ∧ ∀ c ∈ m, Piece c)
    (h : ∀ (i : Nat) (hi : i < xs.length), i + 1 < xs.length → ((xs[i].length : Int) ≥ mx) ∨ ∃ (q : Nat) (hq : q < xs[i].length), hasB la xs[i][q] = true ∧ ∀ (j : Nat) (hj : j < xs[i].length), q ≤ j → (hasB la xs[i][j] || hasB lf xs[i][j]) = true) (d : Nat) : ∀ i : Nat, i + d = xs.length →
    Ev (fun k => laws_FnSentencesEnd.l0 k (xs.map catB) (xs.map catB) ((xs.map catB).length : Int) (i : Int) a f false false mx) true := by
  have hn : (xs.map catB).length = xs.length := List.length_map _
  induction d with
  | zero =>
    intro i hi
    exact ev1 0 fun k hk => by rw [laws_FnSentencesEnd.l0, if_neg (by omega)]
  | succ d ih =>
    intro i hi
    obtain ⟨K, hK⟩ := ih (i + 1) (by omega)
    have hrd := rdOf_nat ByteArray.empty (xs.map catB) i (by omega)
    rw [List.getElem_map] at hrd
    obtain ⟨p1, p2⟩ := hp xs[i] (List.getElem_mem _)
    obtain ⟨K2, hK2⟩ := signs_catB xs[i] p2 p1
    dsimp only at hK hK2
    have hw : wrap64 ((i : Int) + 1) = ((i + 1 : Nat) : Int) := by rw [wr1 (by omega) (by omega)]; rfl
    have hnext : Ev (fun k => laws_FnSentencesEnd.l0 k (xs.map catB) (xs.map catB) ((xs.map catB).length : Int) (wrap64 ((i : Int) + 1)) a f false false mx) true := ⟨K, fun k hk => by dsimp only; rw [hw]; exact hK k hk⟩
    have hwm : wrap64 (((xs.map catB).length : Int) - 1) = ((xs.map catB).length : Int) - 1 := wrM (by omega) (by omega)
    by_cases hlast : i + 1 = xs.length
    · refine ev1 (max K K2 + 1) fun k hk => ?_
      obtain ⟨k, rfl⟩ : ∃ k', k = k' + 1 := ⟨k - 1, by omega⟩
      rw [laws_FnSentencesEnd.l0, if_pos (by omega), if_pos (by omega), if_pos (by omega), hrd, hK2 _ (by omega)]
      simp only [Option.bind_some]
      rw [hwm, if_pos (by omega), laws_FnSentencesEnd.j2, if_pos rfl, hw]
      exact hK k (by omega)
    · rcases h i (by omega) (by omega) with hb | ⟨q, q1, q2, q3⟩
      · refine ev1 (max K K2 + 1) fun k hk => ?_
        obtain ⟨k, rfl⟩ : ∃ k', k = k' + 1 := ⟨k - 1, by omega⟩
        rw [laws_FnSentencesEnd.l0, if_pos (by omega), if_pos (by omega), if_pos (by omega), hrd, hK2 _ (by omega)]
        simp only [Option.bind_some]
        rw [hwm, if_neg (by omega), decide_eq_true hb, laws_FnSentencesEnd.j2, if_pos rfl, hw]
        exact hK k (by omega)
      · obtain ⟨K3, hK3⟩ := end_l1 ha hf mx (xs.map catB) (xs.map catB) ((xs.map catB).length : Int) (i : Int) xs[i] p1 q ⟨q1, q2⟩ q3 hnext xs[i].length (Nat.le_refl _) q1
        dsimp only at hK3
        refine ev1 (max K (max K3 K2) + 1) fun k hk => ?_
        obtain ⟨k, rfl⟩ : ∃ k', k = k' + 1 := ⟨k - 1, by omega⟩
        rw [laws_FnSentencesEnd.l0, if_pos (by omega), if_pos (by omega), if_pos (by omega), hrd, hK2 _ (by omega)]
        simp only [Option.bind_some]
        rw [hwm, if_neg (by omega)]
        by_cases hb : (xs[i].length : Int) ≥ mx
        · rw [decide_eq_true hb, laws_FnSentencesEnd.j2, if_pos rfl, hw]
          exact hK k (by omega)
        · rw [decide_eq_false hb, laws_FnSentencesEnd.j2, if_neg (by decide)]
          exact hK3 k (by omega)
theorem FnSentencesEnd (x0 : ByteArray) (x1 : S23) (g0 : x0.size ≤ 9223372036854775807) (g1 : good_T23 x1) : ∃ k, laws_FnSentencesEnd.f k x0 x1.f0 x1.f1 x1.f2 x1.f3 x1.f4 = some true := by
  obtain ⟨a, f, sk, ln, mx⟩ := x1
  simp only
  by_cases c0 : (x0.size : Int) > 2147483647
  · exact ⟨1, by rw [laws_FnSentencesEnd.f, if_pos c0, laws_FnSentencesEnd.j0, if_pos rfl]⟩
  · by_cases c1 : (a.size : Int) > 2147483647
    · exact ⟨1, by rw [laws_FnSentencesEnd.f, if_neg c0, laws_zzFits10.f, if_pos c1]; simp only [Option.bind_some]; rw [laws_FnSentencesEnd.j0, if_pos (by decide)]⟩
    · by_cases c2 : (f.size : Int) > 2147483647
      · exact ⟨1, by rw [laws_FnSentencesEnd.f, if_neg c0, laws_zzFits10.f, if_neg c1, if_pos c2]; simp only [Option.bind_some]; rw [laws_FnSentencesEnd.j0, if_pos (by decide)]⟩
      · have top : ∀ k, laws_FnSentencesEnd.j0 k x0 (!true) a f sk ln mx = some true → laws_FnSentencesEnd.f k x0 a f sk ln mx = some true := fun k h => by
          rw [laws_FnSentencesEnd.f, if_neg c0, laws_zzFits10.f, if_neg c1, if_neg c2]
          exact h
        obtain ⟨KS, hS⟩ := splits_val
        obtain ⟨c, ⟨K, hK⟩, hc⟩ := calm_val x0 a f false false mx (by omega) (by omega) (by omega)
        dsimp only at hK hS
        cases c with
        | false =>
          refine ⟨max KS K + 1, top _ ?_⟩
          rw [laws_FnSentencesEnd.j0, if_neg (by decide), hS _ (by omega)]
          simp only [Option.bind_some]
          rw [if_pos trivial, hK _ (by omega)]
          simp only [Option.bind_some]
          rw [if_neg (by decide)]
        | true =>
          obtain ⟨hm, ⟨⟨z0, _⟩, l0, K0, h0⟩, ⟨⟨z1, _⟩, la, KA, hA⟩, ⟨⟨z2, _⟩, lf, KF, hF⟩⟩ := hc rfl
          dsimp only at h0 hA hF
          have ck0 := signs_chk (h0 K0 (Nat.le_refl _))
          have cka := signs_chk (hA KA (Nat.le_refl _))
          have ckf := signs_chk (hF KF (Nat.le_refl _))
          have n0 := chk_len _ _ ck0
          have na := chk_len _ _ cka
          have nf := chk_len _ _ ckf
          obtain ⟨e0, hp⟩ := chk_cat _ _ ck0
          have hlt : l0.length < x0.size + 1 := by omega
          obtain ⟨hl1, hl2⟩ := sentL_len (dR (spOf a f false false mx)) (fR (spOf a f false false mx)) mx hlt
          have hmem := fun m hm c hc => sentL_mem (dR (spOf a f false false mx)) (fR (spOf a f false false mx)) mx hlt (m := m) hm (c := c) hc
          have hend := sentL_end (dR (spOf a f false false mx)) (fR (spOf a f false false mx)) mx (x0.size + 1) l0
          have htk := toks_calm ck0 cka ckf mx
          generalize sentL (dR (spOf a f false false mx)) (fR (spOf a f false false mx)) mx (x0.size + 1) l0 = S at *
          obtain ⟨KL, hL⟩ := end_l0 (fun c => has_val ⟨KA, hA⟩ (by omega) c) (fun c => has_val ⟨KF, hF⟩ (by omega) c) mx S (by omega) (fun m hmm => ⟨by have := hl2 m hmm; omega, fun c hc => hp c (hmem m hmm c hc)⟩)
            (fun i hi hi2 => by
              have hd : ∀ (j : Nat) (hj : j < S[i].length), Piece S[i][j] := fun j hj => hp _ (hmem _ (List.getElem_mem hi) _ (List.getElem_mem hj))
              rcases hend i hi hi2 with hb | ⟨q, q1, q2, q3⟩
              · exact .inl hb
              · refine .inr ⟨q, q1, ?_, fun j hj g => ?_⟩
                · rwa [dR_has cka _ _ _ (hd q q1)] at q2
                · have := q3 j hj g
                  rwa [dR_has cka _ _ _ (hd j hj), fR_has ckf _ _ _ (hd j hj)] at this) _ 0 (Nat.zero_add _)
          dsimp only at hL
          refine ⟨max KS (max K KL) + 1, top _ ?_⟩
          rw [laws_FnSentencesEnd.j0, if_neg (by decide), hS _ (by omega)]
          simp only [Option.bind_some]
          rw [if_pos trivial, hK _ (by omega)]
          simp only [Option.bind_some]
          rw [if_pos trivial, sentences_val _ _ _ _ _ _ (by omega) (by omega) (by omega), htk]
          simp only [Option.bind_some]
          rw [if_pos trivial]
          exact hL _ (by omega)
end Go.Proofs.YtpjnebmcbeblkaaDoor.Pure
