/- The law pub-wortgut/laws.FnPlaces holds for every input, by its walk and its plain law. -/
import Derived.Test.YthecfligfhpccaaRows
import Derived.Test.YthecfligfhpccaaP5
import Derived.Test.YthecfligfhpccaaPureFnPlaces
import Derived.Test.YthecfligfhpccaaXOpen
import Derived.WalkKit
import Derived.ProofKit
import Derived.OpenShut
import Derived.ShutString
import Derived.ChangeOld
import Derived.Below
import Derived.SizedLaws
namespace Go.Proofs.Ythecfligfhpccaa.fnPlaces
open Go.ChangeShapes Go.WideShapes Go.ChangeAt Go.RowKit Go.Proofs.Ythecfligfhpccaa.X Go.Proofs.YthecfligfhpccaaW.PrintWords Go.Proofs.Ythecfligfhpccaa.P
open Go.ChangeMaps (open_string shut_string)
set_option linter.unusedVariables false
theorem own : ownKnob Try.prog.godebug = none := by kernel_rfl
theorem laidOut : laidOutB Try.prog = true := by kernel_rfl
set_option maxRecDepth 100000 in
theorem lifted (os : Os) (started : os.Started) (H : Type) (enc : TypeId × Value → H) :
    ReturnsInHanded {} Try.checked os 5 .any (Rows.fnPlacesSpec.pre6 enc Try.prog Try.f5 Rows.fnPlacesRow.domain false) (Rows.fnPlacesSpec.post enc Try.prog Try.f5 false true false false) := by
  refine returnsInHanded_of_change_sized (C := Try.checked) own started (by kernel_rfl) Try.func5
    (ChangeSpec.witness6 (enc := enc) (C := Try.checked) false ⟨#[], #[.string ByteArray.empty, .slice none 0 0], []⟩ 8 (by kernel_rfl) (by kernel_rfl) (by kernel_rfl) (by kernel_rfl)) ?_
  intro W base args ds gs before hval0 hW hcnd hsz0 _
  have hval : ∀ (j : Nat) t v, Try.f5.params[j]? = some t → args[j]? = some v → Value.okWide Try.prog W .any base t v := hval0
  have hW' := hW
  obtain ⟨p, q, hA0, hV, rfl, hfz, hnd⟩ := hW
  have hA : DataW.TrodAll enc Try.prog W 0 (fun _ => true) true Try.f5.params.toList args.toList ds p := hA0
  rw [Try.params5] at hA hval
  obtain ⟨v0, vs0, d0, ds0, p0, q0, hargs, rfl, rfl, h0, r0⟩ := trodAll_cons hA
  obtain ⟨v1, vs1, d1, ds1, p1, q1, rfl, rfl, rfl, h1, r1⟩ := trodAll_cons r0
  obtain ⟨rfl, rfl, rfl⟩ := trodAll_nil r1
  obtain rfl : args = #[v0, v1] := by cases args; simp_all
  obtain ⟨rfl, rfl⟩ := trodVars_none hV
  obtain ⟨x0, rfl, rfl, rfl, g0⟩ := open_string Try.underlying9 (hval 0 9 v0 rfl rfl) h0
  obtain ⟨a1, len1, cap1, rfl⟩ := okWide_slice Try.underlying26 (hval 1 26 v1 rfl rfl)
  have k1 := h1
  have lt1 : ∀ x ∈ p1, x.block < W.heap.size := by obtain ⟨m, hm⟩ := k1; exact DataW.trod_lt m _ _ _ hm
  obtain ⟨x1, ⟨A1, c1, e1, hl1, hC1⟩, g1⟩ := (show ∃ x, (Kd.slice 9 Kd.string).K W x [.slice a1 len1 cap1] ∧ (x.length ≤ 9223372036854775807 ∧ ∀ y0 ∈ x, y0.size ≤ 9223372036854775807) from by obtain ⟨fuel, hf⟩ := h1; exact (opens_slice Try.underlying26 (by kernel_rfl) (opens_string Try.underlying9)) enc W 0 _ true fuel _ _ (by simpa [Value.cells] using hf))
  obtain ⟨rfl, rfl, rfl⟩ : a1 = A1 ∧ len1 = x1.length ∧ cap1 = c1 := by simpa using e1
  clear hA0 hval0 hsz0
  obtain ⟨k, hk⟩ := Pure.FnPlaces x0 x1 g0 g1
  refine (laws_FnPlaces.calls k x0 a1 cap1 x1 true W hC1 hl1 hk).mono fun e W' ⟨he, bel0⟩ => ?_
  have bel : Below W.heap.size W W' := bel0
  subst he
  exact ⟨_, rfl, _, _, _, [], _, [], hW', trodAll_mk1 (shut_bool Try.underlying4 _), (trodAll_cons_mk (shut_string Try.underlying9 g0) (trodAll_cons_mk (Below.trod laidOut (by kernel_rfl) (of_decide_eq_true (by kernel_rfl)) k1 bel lt1) trodAll_mk0)), rfl, bel.frame _, fun h => by cases h⟩
theorem over : Rows.fnPlacesRow.holds Try.pinned (OpenSpec.ofChange Rows.fnPlacesSpec) :=
  OpenClaim.holds_of_wide 5 Try.f5 rfl rfl rfl rfl rfl rfl rfl ⟨rfl, rfl, rfl, rfl, rfl⟩ rfl rfl rfl rfl rfl (by kernel_rfl) Try.func5 (by kernel_rfl)
    (of_decide_eq_true (by kernel_rfl)) (by unfold Func.isWrapper; first | (rw [if_pos (by decide +kernel)]; kernel_rfl) | (rw [if_neg (by decide +kernel)]; exact ⟨rfl, rfl⟩))
    (fun os started H enc _ => lifted os started H enc)
theorem proved : Rows.FnPlacesSaid := over
end Go.Proofs.Ythecfligfhpccaa.fnPlaces
namespace Go.Proofs.Ythecfligfhpccaa
/-- The row, under a short name, for the claim. -/
theorem fnPlaces_holds : Rows.FnPlacesSaid := fnPlaces.proved
end Go.Proofs.Ythecfligfhpccaa
