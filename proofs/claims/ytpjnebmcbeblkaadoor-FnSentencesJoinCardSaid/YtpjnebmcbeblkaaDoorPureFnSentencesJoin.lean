/- The plain law of FnSentencesJoin. -/
import Derived.Test.YtpjnebmcbeblkaaDoorSnPb
import Derived.Test.YtpjnebmcbeblkaaDoorXStructs
import Derived.Test.YtpjnebmcbeblkaaDoorP6
set_option linter.unusedVariables false
namespace Go.Proofs.YtpjnebmcbeblkaaDoor.Pure
open Go.RowKit Go.Lib Go.Proofs.YtpjnebmcbeblkaaDoorW.PrintWords Go.Proofs.YtpjnebmcbeblkaaDoorW.PrintLast Go.Proofs.YtpjnebmcbeblkaaDoorW.PrintMore Go.Proofs.YtpjnebmcbeblkaaDoor.P Go.Proofs.YtpjnebmcbeblkaaDoor.X Go.Proofs.YtpjnebmcbeblkaaDoor.Sn
theorem join_l0 (x0 : ByteArray) (xs : List (List ByteArray)) (a f : ByteArray) (mx : Int) (hx : catB (xs.map catB) = x0) (hz : x0.size ≤ 2147483647) (hl : xs.length ≤ 2147483647)
    (h : ∀ m ∈ xs, (catB m).toList ≠ [] ∧ ∃ r : Int, Ev (fun k => laws_body.f k (catB m) a f false false mx) r ∧ r ≤ mx) (d : Nat) : ∀ i : Nat, i + d = xs.length →
    Ev (fun k => laws_FnSentencesJoin.l0 k x0 (xs.map catB) true (xs.map catB) ((xs.map catB).length : Int) (i : Int) a f false false mx) true := by
  have hn : (xs.map catB).length = xs.length := List.length_map _
  induction d with
  | zero =>
    intro i hi
    obtain ⟨K, hK⟩ := joined_val (xs.map catB) (by rw [hx]; exact hz) (by rw [hn]; exact hl)
    dsimp only at hK
    refine ev1 K fun k hk => ?_
    rw [laws_FnSentencesJoin.l0, if_neg (by omega), if_pos rfl, hK k hk, hx]
    simp only [Option.bind_some]
    simp
  | succ d ih =>
    intro i hi
    obtain ⟨K, hK⟩ := ih (i + 1) (by omega)
    have hrd := rdOf_nat ByteArray.empty (xs.map catB) i (by omega)
    rw [List.getElem_map] at hrd
    obtain ⟨h1, r, ⟨K2, hK2⟩, h3⟩ := h xs[i] (List.getElem_mem _)
    dsimp only at hK hK2
    refine ev1 (max K K2) fun k hk => ?_
    rw [laws_FnSentencesJoin.l0, if_pos (by omega), if_pos (by omega), if_pos (by omega), hrd, if_neg h1, hK2 k (by omega)]
    simp only [Option.bind_some]
    rw [if_neg (by omega), wr1 (by omega) (by omega)]
    exact hK k (by omega)
theorem FnSentencesJoin (x0 : ByteArray) (x1 : S23) (g0 : x0.size ≤ 9223372036854775807) (g1 : good_T23 x1) : ∃ k, laws_FnSentencesJoin.f k x0 x1.f0 x1.f1 x1.f2 x1.f3 x1.f4 = some true := by
  obtain ⟨a, f, sk, ln, mx⟩ := x1
  simp only
  by_cases c0 : (x0.size : Int) > 2147483647
  · exact ⟨1, by rw [laws_FnSentencesJoin.f, if_pos c0, laws_FnSentencesJoin.j0, if_pos rfl]⟩
  · by_cases c1 : (a.size : Int) > 2147483647
    · exact ⟨1, by rw [laws_FnSentencesJoin.f, if_neg c0, laws_zzFits10.f, if_pos c1]; simp only [Option.bind_some]; rw [laws_FnSentencesJoin.j0, if_pos (by decide)]⟩
    · by_cases c2 : (f.size : Int) > 2147483647
      · exact ⟨1, by rw [laws_FnSentencesJoin.f, if_neg c0, laws_zzFits10.f, if_neg c1, if_pos c2]; simp only [Option.bind_some]; rw [laws_FnSentencesJoin.j0, if_pos (by decide)]⟩
      · have top : ∀ k, laws_FnSentencesJoin.j0 k x0 (!true) a f sk ln mx = some true → laws_FnSentencesJoin.f k x0 a f sk ln mx = some true := fun k h => by
          rw [laws_FnSentencesJoin.f, if_neg c0, laws_zzFits10.f, if_neg c1, if_neg c2]
          exact h
        obtain ⟨KS, hS⟩ := splits_val
        obtain ⟨c, ⟨K, hK⟩, hc⟩ := calm_val x0 a f false false mx (by omega) (by omega) (by omega)
        dsimp only at hK hS
        cases c with
        | false =>
          refine ⟨max KS K + 1, top _ ?_⟩
          rw [laws_FnSentencesJoin.j0, if_neg (by decide), hS _ (by omega)]
          simp only [Option.bind_some]
          rw [if_pos trivial, hK _ (by omega)]
          simp only [Option.bind_some]
          rw [if_neg (by decide)]
        | true =>
          obtain ⟨hm, ⟨⟨z0, _⟩, l0, K0, h0⟩, ⟨⟨z1, _⟩, la, KA, hA⟩, ⟨⟨z2, _⟩, lf, KF, hF⟩⟩ := hc rfl
          dsimp only at h0 hA hF
          have ck0 := signs_chk (h0 K0 (Nat.le_refl _))
          have cka := signs_chk (hA KA (Nat.le_refl _))
          have ckf := signs_chk (hF KF (Nat.le_refl _))
          have n0 := chk_len _ _ ck0
          have na := chk_len _ _ cka
          have nf := chk_len _ _ ckf
          obtain ⟨e0, hp⟩ := chk_cat _ _ ck0
          have hlt : l0.length < x0.size + 1 := by omega
          obtain ⟨hfl, hne⟩ := sentL_flat (dR (spOf a f false false mx)) (fR (spOf a f false false mx)) mx (x0.size + 1) l0 hlt
          obtain ⟨hl1, hl2⟩ := sentL_len (dR (spOf a f false false mx)) (fR (spOf a f false false mx)) mx hlt
          have hmem := fun m hm c hc => sentL_mem (dR (spOf a f false false mx)) (fR (spOf a f false false mx)) mx hlt (m := m) hm (c := c) hc
          have hfew := sentL_few (dR (spOf a f false false mx)) (fR (spOf a f false false mx)) mx hm (x0.size + 1) l0
          have htk := toks_calm ck0 cka ckf mx
          obtain ⟨KL, hL⟩ := join_l0 x0 (sentL (dR (spOf a f false false mx)) (fR (spOf a f false false mx)) mx (x0.size + 1) l0) a f mx (by rw [cat_flat, hfl, ← e0]) (by omega) (by omega)
            (fun m hmm => ⟨catB_ne (hne m hmm) (fun c hc => hp c (hmem m hmm c hc)), by
              obtain ⟨q, q1, q2⟩ := hfew m hmm
              obtain ⟨r, hr, hr2⟩ := body_val (a := a) (f := f) (fun c => has_val ⟨KA, hA⟩ (by omega) c) (fun c => has_val ⟨KF, hF⟩ (by omega) c) false false mx m (fun c hc => hp c (hmem m hmm c hc)) (by have := hl2 m hmm; omega) q (fun j hj g => by
                have hpc := hp _ (hmem m hmm _ (List.getElem_mem hj))
                have := q2 j hj g
                rwa [dR_has cka _ _ _ hpc, fR_has ckf _ _ _ hpc] at this)
              exact ⟨r, hr, by omega⟩⟩) _ 0 (Nat.zero_add _)
          dsimp only at hL
          refine ⟨max KS (max K KL) + 1, top _ ?_⟩
          rw [laws_FnSentencesJoin.j0, if_neg (by decide), hS _ (by omega)]
          simp only [Option.bind_some]
          rw [if_pos trivial, hK _ (by omega)]
          simp only [Option.bind_some]
          rw [if_pos trivial, sentences_val _ _ _ _ _ _ (by omega) (by omega) (by omega), htk]
          exact hL _ (by omega)
end Go.Proofs.YtpjnebmcbeblkaaDoor.Pure
