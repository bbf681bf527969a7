/- The law pub-wortgut/laws.FnPartsSay holds for every input, by its walk and its plain law. -/
import Derived.Test.YthecfligfhpccaaDoorRows
import Derived.Test.YthecfligfhpccaaDoorLaidB
import Derived.Test.YthecfligfhpccaaDoorTie
import Derived.Test.YthecfligfhpccaaDoorCards
import Derived.SevenTiedAt
import Derived.LaidOnce
import Derived.Test.YthecfligfhpccaaDoorP5
import Derived.Test.YthecfligfhpccaaDoorPureFnPartsSay
import Derived.Test.YthecfligfhpccaaDoorXOpen
import Derived.WalkKit
import Derived.ProofKit
import Derived.OpenShut
import Derived.ShutString
import Derived.ChangeOld
import Derived.Below
import Derived.SizedLaws
namespace Go.Proofs.YthecfligfhpccaaDoor.fnPartsSay
open Go.ChangeShapes Go.WideShapes Go.ChangeAt Go.RowKit Go.Proofs.YthecfligfhpccaaDoor.X Go.Proofs.YthecfligfhpccaaDoorW.PrintWords Go.Proofs.YthecfligfhpccaaDoor.P
open Go.ChangeMaps (open_string shut_string)
set_option linter.unusedVariables false
theorem own : ownKnob Tryd.prog.godebug = none := by kernel_rfl
theorem laidOut : laidOutB Tryd.prog = true := by kernel_rfl
set_option maxRecDepth 100000 in
theorem lifted (os : Os) (started : os.Started) (H : Type) (enc : TypeId × Value → H) :
    ReturnsInHanded {} Tryd.checked os 5 .any (fun w args => (Rows.fnPartsSaySpec.pre enc Tryd.prog Tryd.f5 [] false w args ∧ laidMetH Tryd.prog Go.Proofs.YthecfligfhpccaaDoor.X.laidAll w) ∧ sizedMet enc Tryd.prog Tryd.f5 (OpenSpec.ofChange Rows.fnPartsSaySpec) false w args) (Rows.fnPartsSaySpec.post enc Tryd.prog Tryd.f5 false true false false) := by
  refine returnsInHanded_of_change_and (C := Tryd.checked) (X := fun w _ => laidMetH Tryd.prog Go.Proofs.YthecfligfhpccaaDoor.X.laidAll w) (fun _ _ _ hh h => h.of_heap hh) own started (by kernel_rfl) Tryd.func5
    (ChangeSpec.witness_shaped (enc := enc) (C := Tryd.checked) (os := os) (X := fun w _ => laidMetH Tryd.prog Go.Proofs.YthecfligfhpccaaDoor.X.laidAll w) false (World.laidAll Tryd.prog os Go.Proofs.YthecfligfhpccaaDoor.X.laidAll) #[.string ByteArray.empty, .slice none 0 0, .bool false, .bool false, .bool false] 8 (World.laidAll_os _ _ _)
      (World.shaped_of_ZipB (by kernel_rfl) (by kernel_rfl)) (by kernel_rfl) (by kernel_rfl) (by kernel_rfl)
      (by rw [MakeChecks.laidMetH_plain _ _ _ (by kernel_rfl)]; exact Go.Proofs.YthecfligfhpccaaDoor.X.laid_world os _)) ?_
  intro W base args ds gs before hval0 hW hcnd hsz0 hL _
  have hval : ∀ (j : Nat) t v, Tryd.f5.params[j]? = some t → args[j]? = some v → Value.okWide Tryd.prog W .any base t v := hval0
  have hW' := hW
  obtain ⟨p, q, hA0, hV, rfl, hfz, hnd⟩ := hW
  have hA : DataW.TrodAll enc Tryd.prog W 0 (fun _ => true) true Tryd.f5.params.toList args.toList ds p := hA0
  rw [Tryd.params5] at hA hval
  obtain ⟨v0, vs0, d0, ds0, p0, q0, hargs, rfl, rfl, h0, r0⟩ := trodAll_cons hA
  obtain ⟨v1, vs1, d1, ds1, p1, q1, rfl, rfl, rfl, h1, r1⟩ := trodAll_cons r0
  obtain ⟨v2, vs2, d2, ds2, p2, q2, rfl, rfl, rfl, h2, r2⟩ := trodAll_cons r1
  obtain ⟨v3, vs3, d3, ds3, p3, q3, rfl, rfl, rfl, h3, r3⟩ := trodAll_cons r2
  obtain ⟨v4, vs4, d4, ds4, p4, q4, rfl, rfl, rfl, h4, r4⟩ := trodAll_cons r3
  obtain ⟨rfl, rfl, rfl⟩ := trodAll_nil r4
  obtain rfl : args = #[v0, v1, v2, v3, v4] := by cases args; simp_all
  obtain ⟨rfl, rfl⟩ := trodVars_none hV
  obtain ⟨x0, rfl, rfl, rfl, g0⟩ := open_string Tryd.underlying9 (hval 0 9 v0 rfl rfl) h0
  obtain ⟨a1, len1, cap1, rfl⟩ := okWide_slice Tryd.underlying22 (hval 1 22 v1 rfl rfl)
  have k1 := h1
  have lt1 : ∀ x ∈ p1, x.block < W.heap.size := by obtain ⟨m, hm⟩ := k1; exact DataW.trod_lt m _ _ _ hm
  obtain ⟨x1, ⟨A1, c1, e1, hl1, hC1⟩, g1⟩ := (show ∃ x, (Kd.slice 9 Kd.string).K W x [.slice a1 len1 cap1] ∧ (x.length ≤ 9223372036854775807 ∧ ∀ y0 ∈ x, y0.size ≤ 9223372036854775807) from by obtain ⟨fuel, hf⟩ := h1; exact (opens_slice Tryd.underlying22 (by kernel_rfl) (opens_string Tryd.underlying9)) enc W 0 _ true fuel _ _ (by simpa [Value.cells] using hf))
  obtain ⟨rfl, rfl, rfl⟩ : a1 = A1 ∧ len1 = x1.length ∧ cap1 = c1 := by simpa using e1
  obtain ⟨x2, rfl, rfl, rfl⟩ := open_bool Tryd.underlying4 (hval 2 4 v2 rfl rfl) h2
  obtain ⟨x3, rfl, rfl, rfl⟩ := open_bool Tryd.underlying4 (hval 3 4 v3 rfl rfl) h3
  obtain ⟨x4, rfl, rfl, rfl⟩ := open_bool Tryd.underlying4 (hval 4 4 v4 rfl rfl) h4
  clear hA0 hval0 hsz0
  rw [MakeChecks.laidMetH_plain _ _ _ (by kernel_rfl)] at hL
  have ht := Go.Proofs.YthecfligfhpccaaDoor.X.tabs_of hL
  obtain ⟨k, hk⟩ := Pure.FnPartsSay x0 x1 x2 x3 x4 g0 g1
  refine (laws_FnPartsSay.calls k x0 a1 cap1 x1 x2 x3 x4 true W ht hC1 hl1 hk).mono fun e W' ⟨he, bel0⟩ => ?_
  have bel : Below W.heap.size W W' := bel0
  subst he
  exact ⟨_, rfl, _, _, _, [], _, [], hW', trodAll_mk1 (shut_bool Tryd.underlying4 _), (trodAll_cons_mk (shut_string Tryd.underlying9 g0) (trodAll_cons_mk (Below.trod laidOut (by kernel_rfl) (of_decide_eq_true (by kernel_rfl)) k1 bel lt1) (trodAll_cons_mk (shut_bool Tryd.underlying4 _) (trodAll_cons_mk (shut_bool Tryd.underlying4 _) (trodAll_cons_mk (shut_bool Tryd.underlying4 _) trodAll_mk0))))), rfl, bel.frame _, fun h => by cases h⟩
theorem over : Rows.fnPartsSayRow.holds Tryd.pinned (OpenSpec.ofChange Rows.fnPartsSaySpec) :=
  OpenClaim.holds_of_wide 5 Tryd.f5 rfl rfl rfl rfl rfl rfl rfl ⟨rfl, rfl, rfl, rfl, rfl⟩ rfl rfl rfl rfl rfl (by kernel_rfl) Tryd.func5 (by kernel_rfl)
    (of_decide_eq_true (by kernel_rfl)) (by unfold Func.isWrapper; first | (rw [if_pos (by decide +kernel)]; kernel_rfl) | (rw [if_neg (by decide +kernel)]; exact ⟨rfl, rfl⟩))
    (fun os started H enc _ => lifted os started H enc)
theorem proved : Rows.FnPartsSayCardSaid :=
  Claim7.holds_tied_plain_at .later [] [.data, .data, .pinned, .pinned, .pinned] true (true, "7157493148f102a96a6b6bc447528c4fa5cfcbaaf71af8ac0310441884e71961") false over (fun _ h => by cases h) (by kernel_rfl) (fun _ h => by cases h) fnPartsSay_row_tie rfl ⟨rfl, rfl⟩ (by kernel_rfl) rfl
    (fun f fn hf hfn => by
      obtain rfl : f = 5 := Option.some.inj ((show Tryd.prog.funcNamed "pub-wortgut/laws.FnPartsSay" = some 5 by kernel_rfl).symm.trans hf) |>.symm
      obtain rfl : fn = Tryd.f5 := (Option.some.inj (Tryd.func5.symm.trans hfn)).symm
      exact ⟨by kernel_rfl, fun j t ht => by
        rw [Tryd.params5] at ht
        have hm : t ∈ [9, 22, 4, 4, 4] := by simpa using Array.mem_of_getElem? ht
        have hall : ([9, 22, 4, 4, 4].all fun u => !Tryd.prog.wantsStandIn u) = true := by kernel_rfl
        exact (show Tryd.prog.wantsStandIn t = false by simpa using List.all_eq_true.1 hall t hm)⟩)
    (by kernel_rfl)
end Go.Proofs.YthecfligfhpccaaDoor.fnPartsSay
namespace Go.Proofs.YthecfligfhpccaaDoor
/-- The row, under a short name, for the claim. -/
theorem fnPartsSay_holds : Rows.FnPartsSayCardSaid := fnPartsSay.proved
end Go.Proofs.YthecfligfhpccaaDoor
