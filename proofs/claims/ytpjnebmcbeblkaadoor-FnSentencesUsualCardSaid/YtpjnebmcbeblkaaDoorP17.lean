-- PRINTED by print.py (a twelfth state) out of the translation. Not trusted: Lean checks it.
import Derived.Test.YtpjnebmcbeblkaaDoorP0
import Derived.Test.YtpjnebmcbeblkaaDoorP11
namespace Go.Proofs.YtpjnebmcbeblkaaDoor.P
open Go.RowKit Go.Proofs.YtpjnebmcbeblkaaDoorW.PrintWords Go.Proofs.YtpjnebmcbeblkaaDoorW.PrintLast Go.Proofs.YtpjnebmcbeblkaaDoorW.PrintMore
attribute [local go_sem] max2_int min2_int max_two min_two max_three min_three max_four min_four   -- for this text's walks alone
set_option linter.unusedVariables false
set_option linter.unusedSimpArgs false

/-! ### laws_count: function 17 -/
def laws_count.f (k : Nat) (a0 : ByteArray) : Option (Int) := (laws_signs.f k a0).bind fun bt177 => (some (bt177.1.length : Int))
theorem laws_count.mono : ∀ a0 k, LeO (laws_count.f k a0) (laws_count.f (k + 1) a0) := by
  intro a0 k
  unfold laws_count.f
  repeat' first
      | (with_reducible exact laws_signs.mono _ _)
      | (with_reducible exact LeO.refl _)
      | (with_reducible exact LeO.none _)
      | (with_reducible refine LeO.ite ?_ ?_)
      | (with_reducible refine LeO.bind ?_ (fun _ => ?_))
      | exact laws_signs.mono _ _
      | exact LeO.none _
      | refine LeO.ite ?_ ?_
      | refine LeO.bind ?_ (fun _ => ?_)
set_option maxHeartbeats 8000000 in
set_option maxRecDepth 100000 in
theorem laws_count.calls (k : Nat) (a0 : ByteArray) (r : Int) (w : World) (h : laws_count.f k a0 = some r) :
    Calls Tryd.prog 17 #[.string a0] w fun e w' => e = .returned (.int .i64 r) ∧ Below w.heap.size w w' := by
  have HB := Aside0.mk (Below.refl w.heap.size w)
  have H : ((laws_signs.f k a0).bind fun bt177 => (some (bt177.1.length : Int))) = some r := h
  clear h
  replace H := Option.bind_eq_some_iff.mp H
  obtain ⟨⟨t177, t178⟩, A20, H⟩ := H
  replace H : (some (t177.length : Int)) = some r := H
  have A2 := Aside0.mk A20
  clear A20
  obtain rfl := Option.some.inj H
  go_enter Tryd.func17, Tryd.ntmps17
  go_wp2_with (first | ((with_reducible refine gate_callee (f := 11) rfl ?_); refine goesL_ (some 7) rfl rfl Tryd.func11 (by kernel_rfl) rfl #[.string a0] rfl (by (try simp only [List.map_toArray, List.map_cons, List.map_nil]); first | done | rfl | (simp only [List.length_drop, List.length_take]; rfl)) ?_; (with_reducible refine (laws_signs.calls k a0 t177 t178 _ A2.out).mono ?_); rintro e w3 ⟨v179, rfl, ho0, hb⟩; refine ⟨_, rfl, ?_⟩; have n0_ := Aside0.mk (Kd.R_lower ho0 (below_size (by repeat (first | (with_reducible first | exact HB.out | apply below_alloc | apply pw_below_drewN | apply below_drew1) | exact HB.out)))); have n1_ := Aside0.mk (below_step (by repeat (first | (with_reducible first | exact HB.out | apply below_alloc | apply pw_below_drewN | apply below_drew1) | exact HB.out)) hb); clear HB; have HO180 := n0_; have HB := n1_; clear n0_ n1_; (try clear hb); (try clear hb2); (try clear hk); (try clear hi); (try clear ho0); obtain ⟨Ao4, co4, eo4⟩ := Kd.R_slice HO180.out; subst eo4))
  go_ret
  exact ⟨by first | rfl | (simp [errW_none, errW_some] <;> rfl) | (simp [*, errW_none, errW_some] <;> rfl), by repeat (first | (with_reducible first | exact HB.out | apply below_alloc | apply pw_below_drewN | apply below_drew1) | exact HB.out)⟩

end Go.Proofs.YtpjnebmcbeblkaaDoor.P
