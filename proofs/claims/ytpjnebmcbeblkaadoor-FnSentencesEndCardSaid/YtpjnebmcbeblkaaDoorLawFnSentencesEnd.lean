/- The law pub-wortgut/laws.FnSentencesEnd holds for every input, by its walk and its plain law. -/
import Derived.Test.YtpjnebmcbeblkaaDoorRows
import Derived.Test.YtpjnebmcbeblkaaDoorQSb
import Derived.Test.YtpjnebmcbeblkaaDoorTie
import Derived.Test.YtpjnebmcbeblkaaDoorCards
import Derived.SevenTiedAt
import Derived.LaidOnce
import Derived.Test.YtpjnebmcbeblkaaDoorP5
import Derived.Test.YtpjnebmcbeblkaaDoorPureFnSentencesEnd
import Derived.Test.YtpjnebmcbeblkaaDoorXOpen
import Derived.WalkKit
import Derived.ProofKit
import Derived.OpenShut
import Derived.ShutString
import Derived.ChangeOld
import Derived.Below
import Derived.SizedLaws
import Derived.Test.YtpjnebmcbeblkaaDoorXStructs
namespace Go.Proofs.YtpjnebmcbeblkaaDoor.fnSentencesEnd
open Go.ChangeShapes Go.WideShapes Go.ChangeAt Go.RowKit Go.Proofs.YtpjnebmcbeblkaaDoor.X Go.Proofs.YtpjnebmcbeblkaaDoorW.PrintWords Go.Proofs.YtpjnebmcbeblkaaDoor.P
open Go.ChangeMaps (open_string shut_string)
set_option linter.unusedVariables false
theorem own : ownKnob Tryd.prog.godebug = none := by kernel_rfl
theorem laidOut : laidOutB Tryd.prog = true := by kernel_rfl
set_option maxRecDepth 100000 in
theorem lifted (os : Os) (started : os.Started) (H : Type) (enc : TypeId × Value → H) :
    ReturnsInHanded {} Tryd.checked os 5 .any (fun w args => (Rows.fnSentencesEndSpec.pre enc Tryd.prog Tryd.f5 [] false w args ∧ laidMetH Tryd.prog Go.Proofs.YtpjnebmcbeblkaaDoor.X2.laidAll w) ∧ sizedMet enc Tryd.prog Tryd.f5 (OpenSpec.ofChange Rows.fnSentencesEndSpec) false w args) (Rows.fnSentencesEndSpec.post enc Tryd.prog Tryd.f5 false true false false) := by
  refine returnsInHanded_of_change_and (C := Tryd.checked) (X := fun w _ => laidMetH Tryd.prog Go.Proofs.YtpjnebmcbeblkaaDoor.X2.laidAll w) (fun _ _ _ hh h => h.of_heap hh) own started (by kernel_rfl) Tryd.func5
    (ChangeSpec.witness_shaped (enc := enc) (C := Tryd.checked) (os := os) (X := fun w _ => laidMetH Tryd.prog Go.Proofs.YtpjnebmcbeblkaaDoor.X2.laidAll w) false (World.laidAll Tryd.prog os Go.Proofs.YtpjnebmcbeblkaaDoor.X2.laidAll) #[.string ByteArray.empty, .agg #[.string ByteArray.empty, .string ByteArray.empty, .bool false, .bool false, .int .i64 0]] 8 (World.laidAll_os _ _ _)
      (World.shaped_of_ZipB (by kernel_rfl) (by kernel_rfl)) (by kernel_rfl) (by kernel_rfl) (by kernel_rfl)
      (by rw [MakeChecks.laidMetH_plain _ _ _ (by kernel_rfl)]; exact Go.Proofs.YtpjnebmcbeblkaaDoor.X2.laid_world os _)) ?_
  intro W base args ds gs before hval0 hW hcnd hsz0 hL _
  have hval : ∀ (j : Nat) t v, Tryd.f5.params[j]? = some t → args[j]? = some v → Value.okWide Tryd.prog W .any base t v := hval0
  have hW' := hW
  obtain ⟨p, q, hA0, hV, rfl, hfz, hnd⟩ := hW
  have hA : DataW.TrodAll enc Tryd.prog W 0 (fun _ => true) true Tryd.f5.params.toList args.toList ds p := hA0
  rw [Tryd.params5] at hA hval
  obtain ⟨v0, vs0, d0, ds0, p0, q0, hargs, rfl, rfl, h0, r0⟩ := trodAll_cons hA
  obtain ⟨v1, vs1, d1, ds1, p1, q1, rfl, rfl, rfl, h1, r1⟩ := trodAll_cons r0
  obtain ⟨rfl, rfl, rfl⟩ := trodAll_nil r1
  obtain rfl : args = #[v0, v1] := by cases args; simp_all
  obtain ⟨rfl, rfl⟩ := trodVars_none hV
  obtain ⟨x0, rfl, rfl, rfl, g0⟩ := open_string Tryd.underlying9 (hval 0 9 v0 rfl rfl) h0
  have k1 := h1
  have lt1 : ∀ x ∈ p1, x.block < W.heap.size := by obtain ⟨m, hm⟩ := k1; exact DataW.trod_lt m _ _ _ hm
  obtain ⟨x1, ha1, g1⟩ := X.open_agg_T23 (hval 1 23 v1 rfl rfl) h1
  subst ha1
  clear hA0 hval0 hsz0
  rw [MakeChecks.laidMetH_plain _ _ _ (by kernel_rfl)] at hL
  have ht := Go.Proofs.YtpjnebmcbeblkaaDoor.X2.tabs_of hL
  obtain ⟨k, hk⟩ := Pure.FnSentencesEnd x0 x1 g0 g1
  refine (laws_FnSentencesEnd.calls k x0 x1.f0 x1.f1 x1.f2 x1.f3 x1.f4 true W ht  hk).mono fun e W' ⟨he, bel0⟩ => ?_
  have bel : Below W.heap.size W W' := bel0
  subst he
  exact ⟨_, rfl, _, _, _, [], _, [], hW', trodAll_mk1 (shut_bool Tryd.underlying4 _), (trodAll_cons_mk (shut_string Tryd.underlying9 g0) (trodAll_cons_mk (Below.trod laidOut (by kernel_rfl) (of_decide_eq_true (by kernel_rfl)) k1 bel lt1) trodAll_mk0)), rfl, bel.frame _, fun h => by cases h⟩
theorem over : Rows.fnSentencesEndRow.holds Tryd.pinned (OpenSpec.ofChange Rows.fnSentencesEndSpec) :=
  OpenClaim.holds_of_wide 5 Tryd.f5 rfl rfl rfl rfl rfl rfl rfl ⟨rfl, rfl, rfl, rfl, rfl⟩ rfl rfl rfl rfl rfl (by kernel_rfl) Tryd.func5 (by kernel_rfl)
    (of_decide_eq_true (by kernel_rfl)) (by unfold Func.isWrapper; first | (rw [if_pos (by decide +kernel)]; kernel_rfl) | (rw [if_neg (by decide +kernel)]; exact ⟨rfl, rfl⟩))
    (fun os started H enc _ => lifted os started H enc)
theorem proved : Rows.FnSentencesEndCardSaid :=
  Claim7.holds_tied_plain_at .later [] [.data, .sentinel, .sentinel, .listed, .sentinel, .sentinel, .sentinel, .sentinel, .sentinel, .pinned] true (true, "71196e2d22d7c6587d6a13a40ba7bf22b50d18c0ec4455a82085068d2e6b2c77") true over (fun _ h => by cases h) (by kernel_rfl) (fun _ h => by cases h) fnSentencesEnd_row_tie rfl ⟨rfl, rfl⟩ (by kernel_rfl) rfl
    (fun f fn hf hfn => by
      obtain rfl : f = 5 := Option.some.inj ((show Tryd.prog.funcNamed "pub-wortgut/laws.FnSentencesEnd" = some 5 by kernel_rfl).symm.trans hf) |>.symm
      obtain rfl : fn = Tryd.f5 := (Option.some.inj (Tryd.func5.symm.trans hfn)).symm
      exact ⟨by kernel_rfl, fun j t ht => by
        rw [Tryd.params5] at ht
        have hm : t ∈ [9, 23] := by simpa using Array.mem_of_getElem? ht
        have hall : ([9, 23].all fun u => !Tryd.prog.wantsStandIn u) = true := by kernel_rfl
        exact (show Tryd.prog.wantsStandIn t = false by simpa using List.all_eq_true.1 hall t hm)⟩)
    (by kernel_rfl)
end Go.Proofs.YtpjnebmcbeblkaaDoor.fnSentencesEnd
namespace Go.Proofs.YtpjnebmcbeblkaaDoor
/-- The row, under a short name, for the claim. -/
theorem fnSentencesEnd_holds : Rows.FnSentencesEndCardSaid := fnSentencesEnd.proved
end Go.Proofs.YtpjnebmcbeblkaaDoor
