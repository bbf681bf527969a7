/- The plain law of FnSentenceTaken. -/
import Derived.Test.YtpjnebmcbeblkaaDoorSnPq
import Derived.Test.YtpjnebmcbeblkaaDoorXStructs
import Derived.Test.YtpjnebmcbeblkaaDoorP3
set_option linter.unusedVariables false
namespace Go.Proofs.YtpjnebmcbeblkaaDoor.Sn
open Go.RowKit Go.Lib Go.Proofs.YtpjnebmcbeblkaaDoorW.PrintWords Go.Proofs.YtpjnebmcbeblkaaDoorW.PrintLast Go.Proofs.YtpjnebmcbeblkaaDoorW.PrintMore Go.Proofs.YtpjnebmcbeblkaaDoor.P Go.Proofs.YtpjnebmcbeblkaaDoor.X
theorem calm_ev (s a f : ByteArray) (sk ln : Bool) (mx : Int) (hs : s.size ≤ 2147483647) (ha : a.size ≤ 2147483647) (hf : f.size ≤ 2147483647) :
    ∃ c, Ev (fun k => laws_calm.f k s a f sk ln mx) c ∧ (c = true → (Clean1 300 s ∧ SignsOk s) ∧ (Clean1 40 a ∧ SignsOk a) ∧ (Clean1 40 f ∧ SignsOk f)) := by
  obtain ⟨c1, ⟨K1, h1⟩, t1⟩ := clean_ev 300 [s] ⟨by simp, fun x hx => by simp at hx; subst hx; exact hs⟩
  obtain ⟨c2, ⟨K2, h2⟩, t2⟩ := clean_ev 40 [a, f] ⟨by simp, fun x hx => by simp at hx; rcases hx with rfl | rfl; exact ha; exact hf⟩
  dsimp only at h1 h2
  cases c1 with
  | false => exact ⟨false, ⟨K1, fun k hk => by simp only [laws_calm.f]; rw [h1 k hk]; rfl⟩, fun h => by cases h⟩
  | true =>
    cases c2 with
    | false => exact ⟨false, ⟨max K1 K2, fun k hk => by simp only [laws_calm.f]; rw [h1 k (by omega), h2 k (by omega)]; rfl⟩, fun h => by cases h⟩
    | true =>
      have q1 := t1 rfl s (by simp)
      have q2 := t2 rfl a (by simp)
      have q3 := t2 rfl f (by simp)
      by_cases hm : mx ≥ 1
      · exact ⟨decide (mx ≤ 1000), ⟨max K1 K2, fun k hk => by simp only [laws_calm.f]; rw [h1 k (by omega), h2 k (by omega)]; simp only [Option.bind_some]; rw [if_pos trivial, if_pos trivial, if_pos hm]⟩, fun _ => ⟨q1, q2, q3⟩⟩
      · exact ⟨false, ⟨max K1 K2, fun k hk => by simp only [laws_calm.f]; rw [h1 k (by omega), h2 k (by omega)]; simp only [Option.bind_some]; rw [if_pos trivial, if_pos trivial, if_neg hm]⟩, fun h => by cases h⟩
/-- The last check, where nothing is left out. -/
def fin (x0 : ByteArray) (r : Int × ByteArray × Bool × ByteArray) : Option Bool :=
  if r.1 ≥ 0 then (if r.1 ≤ (x0.size : Int) then (if r.2.2.2.toList = x0.toList then (if r.2.2.1 = true then ((laws_begins.f x0 r.2.1).bind fun t => (if t = true then (some ((r.2.1.size : Int) == r.1)) else (some false))) else (if r.2.1.toList = ([] : List UInt8) then (some true) else (some false))) else (some false)) else (some false)) else (some false)
theorem fin_none (s : ByteArray) : fin s (0, ByteArray.empty, false, s) = some true := by
  unfold fin
  simp only
  rw [if_pos (by omega), if_pos (by omega), if_pos trivial, if_neg (by decide), if_pos empty_list]
theorem fin_some (s : ByteArray) (q : Nat) (h : q ≤ s.size) : fin s ((q : Int), cut s 0 q, true, s) = some true := by
  have hz := cut_size s 0 q h
  rw [Nat.sub_zero] at hz
  unfold fin
  simp only
  rw [if_pos (by omega), if_pos (by omega), if_pos trivial, if_pos trivial]
  unfold laws_begins.f
  rw [hz, if_pos (by omega), if_pos (by omega), Int.toNat_natCast]
  simp only [Option.bind_some]
  have : ((s.extract 0 q).toList == (cut s 0 q).toList) = true := by unfold cut; exact beq_self_eq_true _
  rw [this, if_pos rfl]
  simp
end Go.Proofs.YtpjnebmcbeblkaaDoor.Sn
namespace Go.Proofs.YtpjnebmcbeblkaaDoor.Pure
open Go.RowKit Go.Lib Go.Proofs.YtpjnebmcbeblkaaDoorW.PrintWords Go.Proofs.YtpjnebmcbeblkaaDoorW.PrintLast Go.Proofs.YtpjnebmcbeblkaaDoorW.PrintMore Go.Proofs.YtpjnebmcbeblkaaDoor.P Go.Proofs.YtpjnebmcbeblkaaDoor.X Go.Proofs.YtpjnebmcbeblkaaDoor.Sn
theorem FnSentenceTaken (x0 : ByteArray) (x1 : S23) (x2 : Bool) (g0 : x0.size ≤ 9223372036854775807) (g1 : good_T23 x1) : ∃ k, laws_FnSentenceTaken.f k x0 x1.f0 x1.f1 x1.f2 x1.f3 x1.f4 x2 = some true := by
  obtain ⟨a, f, sk, ln, mx⟩ := x1
  simp only
  by_cases c0 : (x0.size : Int) > 2147483647
  · exact ⟨1, by rw [laws_FnSentenceTaken.f, if_pos c0, laws_FnSentenceTaken.j0, if_pos rfl]⟩
  · by_cases c1 : (a.size : Int) > 2147483647
    · exact ⟨1, by rw [laws_FnSentenceTaken.f, if_neg c0, laws_zzFits10.f, if_pos c1]; simp only [Option.bind_some]; rw [laws_FnSentenceTaken.j0, if_pos (by decide)]⟩
    · by_cases c2 : (f.size : Int) > 2147483647
      · exact ⟨1, by rw [laws_FnSentenceTaken.f, if_neg c0, laws_zzFits10.f, if_neg c1, if_pos c2]; simp only [Option.bind_some]; rw [laws_FnSentenceTaken.j0, if_pos (by decide)]⟩
      · have top : ∀ k, laws_FnSentenceTaken.j0 k x0 x2 (!true) a f sk ln mx = some true → laws_FnSentenceTaken.f k x0 a f sk ln mx x2 = some true := fun k h => by
          rw [laws_FnSentenceTaken.f, if_neg c0, laws_zzFits10.f, if_neg c1, if_neg c2]
          exact h
        obtain ⟨c, ⟨K, hK⟩, hc⟩ := calm_ev x0 a f sk ln mx (by omega) (by omega) (by omega)
        dsimp only at hK
        have step : ∀ k, laws_FnSentenceTaken.j1 k x0 x2 false a f sk ln mx = some true → laws_FnSentenceTaken.j0 (k + 1) x0 x2 (!true) a f sk ln mx = some true := fun k h => by
          rw [laws_FnSentenceTaken.j0, if_neg (by decide), Sentence_canary]
          simp only [Option.bind_some]
          rw [if_pos trivial, if_pos (by rw [ByteArray.toList_eq]), if_pos trivial, show ((⟨#[97, 46, 98]⟩ : ByteArray).toList != ([97, 46, 98] : List UInt8)) = false by rw [ByteArray.toList_eq]; decide]
          exact h
        cases c with
        | false => exact ⟨K + 2, top _ (step (K + 1) (by rw [laws_FnSentenceTaken.j1, if_neg (by decide), hK K (Nat.le_refl _)]; simp only [Option.bind_some]; rw [if_neg (by decide)]))⟩
        | true =>
          obtain ⟨⟨⟨z0, _⟩, l0, KS, hS⟩, ⟨⟨z1, _⟩, la, KA, hA⟩, ⟨⟨z2, _⟩, lf, KF, hF⟩⟩ := hc rfl
          dsimp only at hS hA hF
          have ck0 := signs_chk (hS KS (Nat.le_refl _))
          have cka := signs_chk (hA KA (Nat.le_refl _))
          have ckf := signs_chk (hF KF (Nat.le_refl _))
          have n0 := chk_len _ _ ck0
          have na := chk_len _ _ cka
          have nf := chk_len _ _ ckf
          obtain ⟨t, ⟨KH, hH⟩, ht⟩ := hasOf_ev ⟨KA, hA⟩ (by omega) ⟨KF, hF⟩ (by omega) sk ln mx l0 (by omega)
          dsimp only at hH
          have hf : impl_Sentence.f x0 a f sk ln mx x2 = some (((call (spOf a f sk ln mx) x0 x2).adv : Int), tokOf (call (spOf a f sk ln mx) x0 x2), (call (spOf a f sk ln mx) x0 x2).tok.isSome, (call (spOf a f sk ln mx) x0 x2).data) := by
            unfold impl_Sentence.f
            rw [if_pos ⟨by omega, by omega, by omega⟩]
          have tl := Sentence_told hf
          refine ⟨max K (max KS KH) + 2, top _ (step _ ?_)⟩
          rw [laws_FnSentenceTaken.j1, if_neg (by decide), hK _ (by omega)]
          simp only [Option.bind_some]
          rw [if_pos trivial]
          cases sk with
          | true =>
            rw [hf, hS _ (by omega)]
            simp only [Option.bind_some]
            rw [if_pos trivial, if_pos tl.1.1, if_pos tl.1.2]
            by_cases e : (call (spOf a f true ln mx) x0 x2).tok.isSome = true
            · rw [if_pos e]
            · rw [if_neg e, if_pos (tl.2.1 (Bool.eq_false_iff.2 e))]
          | false =>
            obtain ⟨r, hr, hfin⟩ : ∃ r, impl_Sentence.f x0 a f false ln mx x2 = some r ∧ fin x0 r = some true := by
              refine ⟨_, hf, ?_⟩
              rcases call_plain (o := spOf a f false ln mx) rfl x0 x2 with ⟨q, hq, e⟩ | e
              · rw [e]; exact fin_some x0 q hq
              · rw [e]; exact fin_none x0
            unfold fin at hfin
            rw [hr, hS _ (by omega)]
            simp only [Option.bind_some]
            rw [if_neg (by decide)]
            cases ln with
            | true =>
              first | rw [if_pos trivial] | rw [if_pos rfl]
              by_cases d1 : r.1 ≥ 0
              · rw [if_pos d1] at hfin ⊢
                by_cases d2 : r.1 ≤ (x0.size : Int)
                · rw [if_pos d2] at hfin ⊢
                  by_cases d3 : r.2.2.2.toList = x0.toList
                  · rw [if_pos d3] at hfin ⊢
                    by_cases d4 : r.2.2.1 = true
                    · rw [if_pos d4]
                    · rw [if_neg d4] at hfin ⊢; exact hfin
                  · rw [if_neg d3] at hfin; cases hfin
                · rw [if_neg d2] at hfin; cases hfin
              · rw [if_neg d1] at hfin; cases hfin
            | false =>
              rw [if_neg (by decide)]
              by_cases d1 : (l0.length : Int) > 0
              · rw [if_pos d1]
                by_cases d2 : (l0.length : Int) < mx
                · rw [if_pos d2, hH _ (by omega)]
                  simp only [Option.bind_some]
                  cases t with
                  | true => first | (rw [if_pos trivial]; exact hfin) | (rw [if_pos rfl]; exact hfin)
                  | false =>
                    have hcs := call_short (o := spOf a f false false mx) rfl rfl x2 x0 l0 ck0 (fun c hc' x hx hv he => isD_off (a := a) rfl cka hx hv he (ht rfl c hc')) (by omega) d2
                    rw [if_neg (by decide)]
                    have hr2 := hf.symm.trans hr
                    injection hr2 with hr2
                    rw [hcs] at hr2
                    cases x2 with
                    | true =>
                      rw [if_pos rfl] at hr2
                      subst hr2
                      rw [if_neg (by simp), if_pos (by simp only [tokOf]; rw [cut_all]), if_pos rfl, if_pos (by simp only [tokOf]; rw [cut_all])]
                      exact hfin
                    | false =>
                      rw [if_neg (by decide)] at hr2
                      subst hr2
                      rw [if_neg (by simp), if_pos (by simp only [tokOf]; rfl), if_neg (by decide)]
                      exact hfin
                · rw [if_neg d2]; exact hfin
              · rw [if_neg d1]; exact hfin
end Go.Proofs.YtpjnebmcbeblkaaDoor.Pure
