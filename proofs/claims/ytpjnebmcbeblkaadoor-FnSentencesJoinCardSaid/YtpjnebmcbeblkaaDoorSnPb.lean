/- What the law on bodies of sentences looks at; plain. -/
import Derived.Test.YtpjnebmcbeblkaaDoorQSe
import Derived.Test.YtpjnebmcbeblkaaDoorP22
set_option linter.unusedVariables false
namespace Go.Proofs.YtpjnebmcbeblkaaDoor.Sn
open Go.RowKit Go.Lib Go.Proofs.YtpjnebmcbeblkaaDoorW.PrintWords Go.Proofs.YtpjnebmcbeblkaaDoorW.PrintLast Go.Proofs.YtpjnebmcbeblkaaDoorW.PrintMore Go.Proofs.YtpjnebmcbeblkaaDoor.P Go.Proofs.YtpjnebmcbeblkaaDoor.X
theorem body_l0 {a f : ByteArray} {la lf : List ByteArray} (ha : ∀ c, Ev (fun k => laws_has.f k a c) (hasB la c)) (hf : ∀ c, Ev (fun k => laws_has.f k f c) (hasB lf c)) (sk ln : Bool) (mx : Int) (m : List ByteArray) (hl : m.length ≤ 2147483647) (q : Nat) (hq : ∀ (j : Nat) (hj : j < m.length), q ≤ j → (hasB la m[j] || hasB lf m[j]) = true) :
    ∀ n : Nat, n ≤ m.length → ∃ r : Int, Ev (fun k => laws_body.l0 k m (n : Int) a f sk ln mx) r ∧ r ≤ q
  | 0, hn => ⟨0, ev1 0 fun k _ => by rw [laws_body.l0, if_neg (by omega)]; rfl, by omega⟩
  | n + 1, hn => by
    obtain ⟨r, ⟨K, hK⟩, hr⟩ := body_l0 ha hf sk ln mx m hl q hq n (by omega)
    obtain ⟨K1, hK1⟩ := ha m[n]
    obtain ⟨K2, hK2⟩ := hf m[n]
    dsimp only at hK hK1 hK2
    have hw : wrap64 (((n + 1 : Nat) : Int) - 1) = (n : Int) := by rw [wrM (by omega) (by omega)]; omega
    have hrd := rdOf_nat ByteArray.empty m n (by omega)
    cases c1 : hasB la m[n] with
    | true =>
      refine ⟨r, ev1 (max K K1) fun k hk => ?_, hr⟩
      rw [laws_body.l0, if_pos (by omega), hw, if_pos (by omega), if_pos (by omega), hrd, hK1 k (by omega), c1]
      simp only [Option.bind_some]
      rw [if_pos trivial]; exact hK k (by omega)
    | false =>
      cases c2 : hasB lf m[n] with
      | true =>
        refine ⟨r, ev1 (max K (max K1 K2)) fun k hk => ?_, hr⟩
        rw [laws_body.l0, if_pos (by omega), hw, if_pos (by omega), if_pos (by omega), hrd, hK1 k (by omega), c1, hK2 k (by omega), c2]
        simp only [Option.bind_some]
        rw [if_neg (by decide), if_pos trivial]; exact hK k (by omega)
      | false =>
        refine ⟨((n + 1 : Nat) : Int), ev1 (max K1 K2) fun k hk => ?_, ?_⟩
        · rw [laws_body.l0, if_pos (by omega), hw, if_pos (by omega), if_pos (by omega), hrd, hK1 k (by omega), c1, hK2 k (by omega), c2]
          simp only [Option.bind_some]
          rw [if_neg (by decide), if_neg (by decide)]
        · by_cases g : q ≤ n
          · have := hq n (by omega) g
            rw [c1, c2] at this; cases this
          · omega
theorem body_val {a f : ByteArray} {la lf : List ByteArray} (ha : ∀ c, Ev (fun k => laws_has.f k a c) (hasB la c)) (hf : ∀ c, Ev (fun k => laws_has.f k f c) (hasB lf c)) (sk ln : Bool) (mx : Int) (m : List ByteArray) (hp : ∀ c ∈ m, Piece c) (hl : m.length ≤ 2147483647) (q : Nat) (hq : ∀ (j : Nat) (hj : j < m.length), q ≤ j → (hasB la m[j] || hasB lf m[j]) = true) :
    ∃ r : Int, Ev (fun k => laws_body.f k (catB m) a f sk ln mx) r ∧ r ≤ q := by
  obtain ⟨r, ⟨K, hK⟩, hr⟩ := body_l0 ha hf sk ln mx m hl q hq m.length (Nat.le_refl _)
  obtain ⟨K2, hK2⟩ := signs_catB m hp hl
  dsimp only at hK hK2
  refine ⟨r, ⟨max K K2, fun k hk => ?_⟩, hr⟩
  dsimp only
  rw [laws_body.f, hK2 k (by omega)]
  exact hK k (by omega)
end Go.Proofs.YtpjnebmcbeblkaaDoor.Sn
