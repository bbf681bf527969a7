-- PRINTED by print.py (a twelfth state) out of the translation. Not trusted: Lean checks it.
import Derived.Test.YtddcjmdcpkmnjabP0
import Derived.Test.YtddcjmdcpkmnjabP13
namespace Go.Proofs.Ytddcjmdcpkmnjab.P
open Go.RowKit Go.Proofs.YtddcjmdcpkmnjabW.PrintWords Go.Proofs.YtddcjmdcpkmnjabW.PrintLast
set_option linter.unusedVariables false
set_option linter.unusedSimpArgs false

/-! ### spec_TrieLongest: function 16 -/
def spec_TrieLongest.f (k : Nat) (l0 : List ByteArray) (l1 : List Int) (a2 : ByteArray) : Option (Int × Bool) := (spec_TriePrefixes.f k l0 l1 a2).bind fun bt302 => (if (bt302.1.length : Int) = 0 then (some (0, false)) else (if 0 ≤ (wrap64 ((bt302.1.length : Int) - 1)) then (if (wrap64 ((bt302.1.length : Int) - 1)) < (bt302.1.length : Int) then (some (rd bt302.1 (wrap64 ((bt302.1.length : Int) - 1)), true)) else (none)) else (none)))
theorem spec_TrieLongest.mono : ∀ a0 a1 a2 k, LeO (spec_TrieLongest.f k a0 a1 a2) (spec_TrieLongest.f (k + 1) a0 a1 a2) := by
  intro a0 a1 a2 k
  unfold spec_TrieLongest.f
  repeat' first
      | (with_reducible exact spec_TriePrefixes.mono _ _ _ _)
      | (with_reducible exact LeO.refl _)
      | (with_reducible exact LeO.none _)
      | (with_reducible refine LeO.ite ?_ ?_)
      | (with_reducible refine LeO.bind ?_ (fun _ => ?_))
      | exact spec_TriePrefixes.mono _ _ _ _
      | exact LeO.none _
      | refine LeO.ite ?_ ?_
      | refine LeO.bind ?_ (fun _ => ?_)
set_option maxHeartbeats 8000000 in
set_option maxRecDepth 100000 in
theorem spec_TrieLongest.calls (k : Nat) (A0 : Option Addr) (c0 : Nat) (l0 : List ByteArray) (A1 : Option Addr) (c1 : Nat) (l1 : List Int) (a2 : ByteArray) (r1 : Int) (r2 : Bool) (w : World) (hr0 : Kd.C Kd.string w A0 l0.length l0) (hc0 : l0.length ≤ c0) (hr1 : Kd.C (Kd.int .i64) w A1 l1.length l1) (hc1 : l1.length ≤ c1) (h : spec_TrieLongest.f k l0 l1 a2 = some (r1, r2)) :
    Calls Try.prog 16 #[.slice A0 l0.length c0, .slice A1 l1.length c1, .string a2] w fun e w' => e = .returned (.tuple #[.int .i64 r1, .bool r2]) ∧ Below w.heap.size w w' := by
  have HR0 := Aside0.mk hr0
  have HC0 := Aside0.mk hc0
  clear hr0 hc0
  have HR1 := Aside0.mk hr1
  have HC1 := Aside0.mk hc1
  clear hr1 hc1
  have HB := Aside0.mk (Below.refl w.heap.size w)
  have H : ((spec_TriePrefixes.f k l0 l1 a2).bind fun bt302 => (if (bt302.1.length : Int) = 0 then (some (0, false)) else (if 0 ≤ (wrap64 ((bt302.1.length : Int) - 1)) then (if (wrap64 ((bt302.1.length : Int) - 1)) < (bt302.1.length : Int) then (some (rd bt302.1 (wrap64 ((bt302.1.length : Int) - 1)), true)) else (none)) else (none)))) = some (r1, r2) := h
  clear h
  replace H := Option.bind_eq_some_iff.mp H
  obtain ⟨⟨t302, t303⟩, A40, H⟩ := H
  replace H : (if (t302.length : Int) = 0 then (some (0, false)) else (if 0 ≤ (wrap64 ((t302.length : Int) - 1)) then (if (wrap64 ((t302.length : Int) - 1)) < (t302.length : Int) then (some (rd t302 (wrap64 ((t302.length : Int) - 1)), true)) else (none)) else (none))) = some (r1, r2) := H
  have A4 := Aside0.mk A40
  clear A40
  by_cases c5 : (t302.length : Int) = 0
  · rw [if_pos c5] at H
    have c5b0 : ((t302.length : Int) == 0) = true := beq_iff_eq.mpr c5
    have c5b1 : ((t302.length : Int) != 0) = false := bne_eq_false_iff_eq.mpr c5
    clear c5
    simp only [Option.some.injEq, Prod.mk.injEq] at H
    obtain ⟨rfl, rfl⟩ := H
    go_enter Try.func16, Try.ntmps16
    go_wp2_with (first | ((with_reducible refine gate_callee (f := 13) rfl ?_); refine goesL_ (some 14) rfl rfl Try.func13 (by kernel_rfl) rfl #[.slice A0 l0.length c0, .slice A1 l1.length c1, .string a2] rfl (by (try simp only [List.map_toArray, List.map_cons, List.map_nil]); first | done | rfl | (simp only [List.length_drop, List.length_take]; rfl)) ?_; (with_reducible refine (spec_TriePrefixes.calls k _ _ l0 _ _ l1 a2 t302 t303 _ ?side1 ?side2 ?side3 ?side4 A4.out).mono ?_); (case side1 => repeat (first | exact HR0.out | (with_reducible refine Kd.C_alloc ?_ _) | (with_reducible refine Kd.C_drewN ?_ _) | (with_reducible refine Kd.C_drew ?_))); (case side2 => exact HC0.out); (case side3 => repeat (first | exact HR1.out | (with_reducible refine Kd.C_alloc ?_ _) | (with_reducible refine Kd.C_drewN ?_ _) | (with_reducible refine Kd.C_drew ?_))); (case side4 => exact HC1.out); rintro e w6 ⟨v304, v306, rfl, ho0, ho1, hb⟩; refine ⟨_, rfl, ?_⟩; have n0_ := Aside0.mk (Kd.R_lower ho0 (below_size (by repeat (first | (with_reducible first | exact HB.out | apply below_alloc | apply pw_below_drewN | apply below_drew1) | exact HB.out)))); have n1_ := Aside0.mk (Kd.R_lower ho1 (below_size (by repeat (first | (with_reducible first | exact HB.out | apply below_alloc | apply pw_below_drewN | apply below_drew1) | exact HB.out)))); have n2_ := Aside0.mk (below_step (by repeat (first | (with_reducible first | exact HB.out | apply below_alloc | apply pw_below_drewN | apply below_drew1) | exact HB.out)) hb); clear HB; have HO305 := n0_; have HO307 := n1_; have HB := n2_; clear n0_ n1_ n2_; (try clear hb); (try clear hb2); (try clear hk); (try clear hi); (try clear ho0); (try clear ho1); obtain ⟨Ao7, co7, eo7⟩ := Kd.R_slice HO305.out; subst eo7))
    go_ret2
    exact ⟨by first | rfl | (simp [errW_none, errW_some] <;> rfl) | (simp [*, errW_none, errW_some] <;> rfl), by repeat (first | (with_reducible first | exact HB.out | apply below_alloc | apply pw_below_drewN | apply below_drew1) | exact HB.out)⟩
  · rw [if_neg c5] at H
    have c5b0 : ((t302.length : Int) == 0) = false := beq_eq_false_iff_ne.mpr c5
    have c5b1 : ((t302.length : Int) != 0) = true := bne_iff_ne.mpr c5
    have c5b2 : ¬ (t302 = []) := fun h_ => c5 (by rw [h_]; rfl)
    obtain ⟨ji8, hji8⟩ : ∃ j_ : Int, (wrap64 ((t302.length : Int) - 1)) = j_ := ⟨_, rfl⟩
    replace H : (if 0 ≤ (ji8) then (if (ji8) < (t302.length : Int) then (some (rd t302 (ji8), true)) else (none)) else (none)) = some (r1, r2) := by first | (rw [hji8] at H; exact H) | (simp only [hji8] at H ⊢; exact H)
    (try rw [hji8] at A4)
    have hji8w : (IntKind.i64.wrap ((t302.length : Int) - 1)) = ji8 := (i64_w _).trans hji8
    by_cases c9 : 0 ≤ (ji8)
    · rw [if_pos c9] at H
      have c9b0 : decide (0 ≤ (ji8)) = true := decide_eq_true c9
      clear c9
      by_cases c10 : (ji8) < (t302.length : Int)
      · rw [if_pos c10] at H
        have c10b0 : decide ((ji8) < (t302.length : Int)) = true := decide_eq_true c10
        clear c10
        simp only [Option.some.injEq, Prod.mk.injEq] at H
        obtain ⟨rfl, rfl⟩ := H
        go_enter Try.func16, Try.ntmps16
        go_wp2_with (first | ((with_reducible refine gate_callee (f := 13) rfl ?_); refine goesL_ (some 14) rfl rfl Try.func13 (by kernel_rfl) rfl #[.slice A0 l0.length c0, .slice A1 l1.length c1, .string a2] rfl (by (try simp only [List.map_toArray, List.map_cons, List.map_nil]); first | done | rfl | (simp only [List.length_drop, List.length_take]; rfl)) ?_; (with_reducible refine (spec_TriePrefixes.calls k _ _ l0 _ _ l1 a2 t302 t303 _ ?side1 ?side2 ?side3 ?side4 A4.out).mono ?_); (case side1 => repeat (first | exact HR0.out | (with_reducible refine Kd.C_alloc ?_ _) | (with_reducible refine Kd.C_drewN ?_ _) | (with_reducible refine Kd.C_drew ?_))); (case side2 => exact HC0.out); (case side3 => repeat (first | exact HR1.out | (with_reducible refine Kd.C_alloc ?_ _) | (with_reducible refine Kd.C_drewN ?_ _) | (with_reducible refine Kd.C_drew ?_))); (case side4 => exact HC1.out); rintro e w11 ⟨v304, v306, rfl, ho0, ho1, hb⟩; refine ⟨_, rfl, ?_⟩; have n0_ := Aside0.mk (Kd.R_lower ho0 (below_size (by repeat (first | (with_reducible first | exact HB.out | apply below_alloc | apply pw_below_drewN | apply below_drew1) | exact HB.out)))); have n1_ := Aside0.mk (Kd.R_lower ho1 (below_size (by repeat (first | (with_reducible first | exact HB.out | apply below_alloc | apply pw_below_drewN | apply below_drew1) | exact HB.out)))); have n2_ := Aside0.mk (below_step (by repeat (first | (with_reducible first | exact HB.out | apply below_alloc | apply pw_below_drewN | apply below_drew1) | exact HB.out)) hb); clear HB; have HO305 := n0_; have HO307 := n1_; have HB := n2_; clear n0_ n1_ n2_; (try clear hb); (try clear hb2); (try clear hk); (try clear hi); (try clear ho0); (try clear ho1); obtain ⟨Ao12, co12, eo12⟩ := Kd.R_slice HO305.out; subst eo12; have p308 : 0 ≤ ((ji8) : Int) := of_decide_eq_true (by first | (with_reducible assumption) | assumption); have q308 : (ji8) < (t302.length : Int) := of_decide_eq_true (by first | (with_reducible assumption) | assumption); obtain ⟨ad308, e308, hx308_0⟩ := Kd.at_int (Kd.R_reads' HO305.out).2.2 (ji8) p308 q308; cases e308; replace p308 := eq_true p308; replace q308 := eq_true q308))
        go_ret2
        exact ⟨by first | rfl | (simp [errW_none, errW_some] <;> rfl) | (simp only [← hji8]; first | rfl | (simp [errW_none, errW_some] <;> rfl)) | (simp [*, errW_none, errW_some] <;> rfl), by repeat (first | (with_reducible first | exact HB.out | apply below_alloc | apply pw_below_drewN | apply below_drew1) | exact HB.out)⟩
      · rw [if_neg c10] at H
        exact absurd H (by simp)
    · rw [if_neg c9] at H
      exact absurd H (by simp)

end Go.Proofs.Ytddcjmdcpkmnjab.P
