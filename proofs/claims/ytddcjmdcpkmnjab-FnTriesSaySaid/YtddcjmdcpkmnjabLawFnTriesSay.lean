/- The law pub-wortgut/laws.FnTriesSay holds for every input, by its walk and its plain law. -/
import Derived.Test.YtddcjmdcpkmnjabRows
import Derived.Test.YtddcjmdcpkmnjabP3
import Derived.Test.YtddcjmdcpkmnjabPureFnTriesSay
import Derived.Test.YtddcjmdcpkmnjabXOpen
import Derived.WalkKit
import Derived.ProofKit
import Derived.OpenShut
import Derived.ShutString
import Derived.ChangeOld
import Derived.Below
import Derived.SizedLaws
namespace Go.Proofs.Ytddcjmdcpkmnjab.fnTriesSay
open Go.ChangeShapes Go.WideShapes Go.ChangeAt Go.RowKit Go.Proofs.Ytddcjmdcpkmnjab.X Go.Proofs.YtddcjmdcpkmnjabW.PrintWords Go.Proofs.Ytddcjmdcpkmnjab.P
open Go.ChangeMaps (open_string shut_string)
set_option linter.unusedVariables false
theorem own : ownKnob Try.prog.godebug = none := by kernel_rfl
theorem laidOut : laidOutB Try.prog = true := by kernel_rfl
set_option maxRecDepth 100000 in
theorem lifted (os : Os) (started : os.Started) (H : Type) (enc : TypeId × Value → H) :
    ReturnsInHanded {} Try.checked os 3 .any (Rows.fnTriesSaySpec.pre6 enc Try.prog Try.f3 Rows.fnTriesSayRow.domain false) (Rows.fnTriesSaySpec.post enc Try.prog Try.f3 false true false false) := by
  refine returnsInHanded_of_change_sized (C := Try.checked) own started (by kernel_rfl) Try.func3
    (ChangeSpec.witness6 (enc := enc) (C := Try.checked) false ⟨#[], #[.slice none 0 0, .slice none 0 0, .string ByteArray.empty], []⟩ 8 (by kernel_rfl) (by kernel_rfl) (by kernel_rfl) (by kernel_rfl)) ?_
  intro W base args ds gs before hval0 hW hcnd hsz0 _
  have hval : ∀ (j : Nat) t v, Try.f3.params[j]? = some t → args[j]? = some v → Value.okWide Try.prog W .any base t v := hval0
  have hW' := hW
  obtain ⟨p, q, hA0, hV, rfl, hfz, hnd⟩ := hW
  have hA : DataW.TrodAll enc Try.prog W 0 (fun _ => true) true Try.f3.params.toList args.toList ds p := hA0
  rw [Try.params3] at hA hval
  obtain ⟨v0, vs0, d0, ds0, p0, q0, hargs, rfl, rfl, h0, r0⟩ := trodAll_cons hA
  obtain ⟨v1, vs1, d1, ds1, p1, q1, rfl, rfl, rfl, h1, r1⟩ := trodAll_cons r0
  obtain ⟨v2, vs2, d2, ds2, p2, q2, rfl, rfl, rfl, h2, r2⟩ := trodAll_cons r1
  obtain ⟨rfl, rfl, rfl⟩ := trodAll_nil r2
  obtain rfl : args = #[v0, v1, v2] := by cases args; simp_all
  obtain ⟨rfl, rfl⟩ := trodVars_none hV
  obtain ⟨a0, len0, cap0, rfl⟩ := okWide_slice Try.underlying22 (hval 0 22 v0 rfl rfl)
  have k0 := h0
  have lt0 : ∀ x ∈ p0, x.block < W.heap.size := by obtain ⟨m, hm⟩ := k0; exact DataW.trod_lt m _ _ _ hm
  obtain ⟨x0, ⟨A0, c0, e0, hl0, hC0⟩, g0⟩ := (show ∃ x, (Kd.slice 9 Kd.string).K W x [.slice a0 len0 cap0] ∧ (x.length ≤ 9223372036854775807 ∧ ∀ y0 ∈ x, y0.size ≤ 9223372036854775807) from by obtain ⟨fuel, hf⟩ := h0; exact (opens_slice Try.underlying22 (by kernel_rfl) (opens_string Try.underlying9)) enc W 0 _ true fuel _ _ (by simpa [Value.cells] using hf))
  obtain ⟨rfl, rfl, rfl⟩ : a0 = A0 ∧ len0 = x0.length ∧ cap0 = c0 := by simpa using e0
  obtain ⟨a1, len1, cap1, rfl⟩ := okWide_slice Try.underlying23 (hval 1 23 v1 rfl rfl)
  have k1 := h1
  have lt1 : ∀ x ∈ p1, x.block < W.heap.size := by obtain ⟨m, hm⟩ := k1; exact DataW.trod_lt m _ _ _ hm
  obtain ⟨x1, ⟨A1, c1, e1, hl1, hC1⟩, g1⟩ := (show ∃ x, (Kd.slice 3 (Kd.int .i64)).K W x [.slice a1 len1 cap1] ∧ (x.length ≤ 9223372036854775807 ∧ ∀ y0 ∈ x, (Lit.int .i64 y0).wf = true) from by obtain ⟨fuel, hf⟩ := h1; exact (opens_slice Try.underlying23 (by kernel_rfl) (opens_int Try.underlying3)) enc W 0 _ true fuel _ _ (by simpa [Value.cells] using hf))
  obtain ⟨rfl, rfl, rfl⟩ : a1 = A1 ∧ len1 = x1.length ∧ cap1 = c1 := by simpa using e1
  obtain ⟨x2, rfl, rfl, rfl, g2⟩ := open_string Try.underlying9 (hval 2 9 v2 rfl rfl) h2
  clear hA0 hval0 hsz0
  obtain ⟨k, hk⟩ := Pure.FnTriesSay x0 x1 x2 g0 g1 g2
  refine (laws_FnTriesSay.calls k a0 cap0 x0 a1 cap1 x1 x2 true W hC0 hl0 hC1 hl1 hk).mono fun e W' ⟨he, bel0⟩ => ?_
  have bel : Below W.heap.size W W' := bel0
  subst he
  exact ⟨_, rfl, _, _, _, [], _, [], hW', trodAll_mk1 (shut_bool Try.underlying4 _), (trodAll_cons_mk (Below.trod laidOut (by kernel_rfl) (of_decide_eq_true (by kernel_rfl)) k0 bel lt0) (trodAll_cons_mk (Below.trod laidOut (by kernel_rfl) (of_decide_eq_true (by kernel_rfl)) k1 bel lt1) (trodAll_cons_mk (shut_string Try.underlying9 g2) trodAll_mk0))), rfl, bel.frame _, fun h => by cases h⟩
theorem over : Rows.fnTriesSayRow.holds Try.pinned (OpenSpec.ofChange Rows.fnTriesSaySpec) :=
  OpenClaim.holds_of_wide 3 Try.f3 rfl rfl rfl rfl rfl rfl rfl ⟨rfl, rfl, rfl, rfl, rfl⟩ rfl rfl rfl rfl rfl (by kernel_rfl) Try.func3 (by kernel_rfl)
    (of_decide_eq_true (by kernel_rfl)) (by unfold Func.isWrapper; first | (rw [if_pos (by decide +kernel)]; kernel_rfl) | (rw [if_neg (by decide +kernel)]; exact ⟨rfl, rfl⟩))
    (fun os started H enc _ => lifted os started H enc)
theorem proved : Rows.FnTriesSaySaid := over
end Go.Proofs.Ytddcjmdcpkmnjab.fnTriesSay
namespace Go.Proofs.Ytddcjmdcpkmnjab
/-- The row, under a short name, for the claim. -/
theorem fnTriesSay_holds : Rows.FnTriesSaySaid := fnTriesSay.proved
end Go.Proofs.Ytddcjmdcpkmnjab
