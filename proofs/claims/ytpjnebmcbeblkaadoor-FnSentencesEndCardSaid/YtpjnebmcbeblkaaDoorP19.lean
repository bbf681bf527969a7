-- PRINTED by print.py (a twelfth state) out of the translation. Not trusted: Lean checks it.
import Derived.Test.YtpjnebmcbeblkaaDoorP0
import Derived.Test.YtpjnebmcbeblkaaDoorP15
import Derived.Test.YtpjnebmcbeblkaaDoorQSd
import Derived.Test.YtpjnebmcbeblkaaDoorQSb
namespace Go.Proofs.YtpjnebmcbeblkaaDoor.P
open Go.RowKit Go.Proofs.YtpjnebmcbeblkaaDoorW.PrintWords Go.Proofs.YtpjnebmcbeblkaaDoorW.PrintLast Go.Proofs.YtpjnebmcbeblkaaDoorW.PrintMore
attribute [local go_sem] max2_int min2_int max_two min_two max_three min_three max_four min_four   -- for this text's walks alone
set_option linter.unusedVariables false
set_option linter.unusedSimpArgs false

/-! ### laws_splits: function 19 -/
def laws_splits.f (k : Nat)  : Option (Bool) := (impl_Sentences.f (⟨#[97, 46, 98]⟩ : ByteArray) (⟨#[46]⟩ : ByteArray) (⟨#[]⟩ : ByteArray) false false 10 ([] : List Int)).bind fun bt206 => (if bt206.2 = true then ((laws_sameTexts.f k bt206.1 (([(⟨#[97, 46]⟩ : ByteArray), (⟨#[98]⟩ : ByteArray)] : List ByteArray))).bind fun t213 => (some t213)) else (some false))
theorem laws_splits.mono : ∀ k, LeO (laws_splits.f k ) (laws_splits.f (k + 1) ) := by
  intro  k
  unfold laws_splits.f
  repeat' first
      | (with_reducible exact laws_sameTexts.mono _ _ _)
      | (with_reducible exact LeO.refl _)
      | (with_reducible exact LeO.none _)
      | (with_reducible refine LeO.ite ?_ ?_)
      | (with_reducible refine LeO.bind ?_ (fun _ => ?_))
      | exact laws_sameTexts.mono _ _ _
      | exact LeO.none _
      | refine LeO.ite ?_ ?_
      | refine LeO.bind ?_ (fun _ => ?_)
set_option maxHeartbeats 8000000 in
set_option maxRecDepth 100000 in
theorem laws_splits.calls (k : Nat)  (r : Bool) (w : World) (ht_ : Go.Proofs.YtpjnebmcbeblkaaDoor.X2.Tabs w) (h : laws_splits.f k  = some r) :
    Calls Tryd.prog 19 #[] w fun e w' => e = .returned (.bool r) ∧ Below w.heap.size w w' := by
  have HT_ : Aside0 (∀ W_, Below w.heap.size w W_ → Go.Proofs.YtpjnebmcbeblkaaDoor.X2.Tabs W_) := ⟨fun W_ h_ => ht_.below h_⟩
  clear ht_
  have hu23 := Tryd.underlying23
  have HB := Aside0.mk (Below.refl w.heap.size w)
  have H : ((impl_Sentences.f (⟨#[97, 46, 98]⟩ : ByteArray) (⟨#[46]⟩ : ByteArray) (⟨#[]⟩ : ByteArray) false false 10 ([] : List Int)).bind fun bt206 => (if bt206.2 = true then ((laws_sameTexts.f k bt206.1 (([(⟨#[97, 46]⟩ : ByteArray), (⟨#[98]⟩ : ByteArray)] : List ByteArray))).bind fun t213 => (some t213)) else (some false))) = some r := h
  clear h
  replace H := Option.bind_eq_some_iff.mp H
  obtain ⟨⟨t206, t209⟩, A10, H⟩ := H
  replace H : (if t209 = true then ((laws_sameTexts.f k t206 (([(⟨#[97, 46]⟩ : ByteArray), (⟨#[98]⟩ : ByteArray)] : List ByteArray))).bind fun t213 => (some t213)) else (some false)) = some r := H
  have A1 := Aside0.mk A10
  clear A10
  by_cases c2 : t209 = true
  · subst c2
    have H1 : ((laws_sameTexts.f k t206 (([(⟨#[97, 46]⟩ : ByteArray), (⟨#[98]⟩ : ByteArray)] : List ByteArray))).bind fun t213 => (some t213)) = some r := by rw [if_pos rfl] at H; exact H
    clear H
    have H := H1
    clear H1
    obtain ⟨y210, hy210⟩ : ∃ y_ : List ByteArray, y_ = (([(⟨#[97, 46]⟩ : ByteArray), (⟨#[98]⟩ : ByteArray)] : List ByteArray)) := ⟨_, rfl⟩
    replace H : ((laws_sameTexts.f k t206 y210).bind fun t213 => (some t213)) = some r := by first | (rw [hy210]; with_reducible exact H) | (have H2_ := (Option.bind_some _ _).symm.trans H; rw [hy210]; with_reducible exact H2_) | (have H2_ := (Option.bind_some _ _).symm.trans H; with_reducible exact H2_) | with_reducible exact H | (rw [hy210]; exact H) | exact H
    have Ny210 := Aside0.mk hy210
    clear hy210
    replace H := Option.bind_eq_some_iff.mp H
    obtain ⟨t213, A30, H⟩ := H
    replace H : (some t213) = some r := H
    have A3 := Aside0.mk A30
    clear A30
    obtain rfl := Option.some.inj H
    go_enter Tryd.func19, Tryd.ntmps19
    go_wp2_with (first | ((with_reducible refine gate_callee (f := 20) rfl ?_); refine goesL_ (some 5) rfl rfl Tryd.func20 (by kernel_rfl) rfl #[.string (⟨#[97, 46, 98]⟩ : ByteArray), .agg #[.string (⟨#[46]⟩ : ByteArray), .string (⟨#[]⟩ : ByteArray), .bool false, .bool false, .int .i64 10], .slice none 0 0] rfl (by (try simp only [List.map_toArray, List.map_cons, List.map_nil]); first | done | rfl | (simp only [List.length_drop, List.length_take]; rfl)) ?_; (refine (impl_Sentences.calls (⟨#[97, 46, 98]⟩ : ByteArray) (⟨#[46]⟩ : ByteArray) (⟨#[]⟩ : ByteArray) false false 10 none 0 ([] : List Int) t206 true _ ?side1 ?side2 (HT_.out _ (by repeat (first | (with_reducible first | exact HB.out | apply below_alloc | apply pw_below_drewN | apply below_drew1) | exact HB.out))) A1.out).mono ?_); (case side1 => exact Kd.C_nil _ _); (case side2 => exact Nat.le_refl _); rintro e w4 ⟨v207, rfl, ho0, hb⟩; refine ⟨_, rfl, ?_⟩; have n0_ := Aside0.mk (Kd.R_lower ho0 (below_size (by repeat (first | (with_reducible first | exact HB.out | apply below_alloc | apply pw_below_drewN | apply below_drew1) | exact HB.out)))); have n1_ := Aside0.mk (below_step (by repeat (first | (with_reducible first | exact HB.out | apply below_alloc | apply pw_below_drewN | apply below_drew1) | exact HB.out)) hb); clear HB; have HO208 := n0_; have HB := n1_; clear n0_ n1_; (try clear hb); (try clear hb2); (try clear hk); (try clear hi); (try clear ho0)) | ((with_reducible refine gate_dst (N := 11) rfl ?_); (try (refine gate_guard (by rfl) ?_; dsimp only)); refine Kd.R_lit Kd.string _ 9 ?hg (N := 11) ?hd (xs := ([(⟨#[97, 46]⟩ : ByteArray), (⟨#[98]⟩ : ByteArray)] : List ByteArray)) (inner := [.string (⟨#[97, 46]⟩ : ByteArray), .string (⟨#[98]⟩ : ByteArray)]) (ok := fun _ => True) (okp := fun _ => True) ?hr ?hp (fun _ hk => hk) trivial (Below.refl _ _) (Nat.le_refl _) (by simp) ?_; (case hd => rfl); (case hg => rfl); (case hr => first | (go_simp; done) | (go_simp; rfl)); (case hp => exact (Reps.one (show Kd.M Kd.string _ _ _ (⟨#[97, 46]⟩ : ByteArray) [.string (⟨#[97, 46]⟩ : ByteArray)] from rfl) (Reps.one (show Kd.M Kd.string _ _ _ (⟨#[98]⟩ : ByteArray) [.string (⟨#[98]⟩ : ByteArray)] from rfl) (Reps.none _ _)))); intro v211 w5 ho6 hb hg_ hnew_; clear hg_ hnew_; (first | rw [← Ny210.out] at ho6 | (simp only [Int.reduceToNat] at ho6; rw [← Ny210.out] at ho6)); have n0_ := Aside0.mk (Kd.R_elder' (by (with_reducible repeat (first | apply Kd.R_alloc | apply Kd.R_drewN | apply Kd.R_drew)); exact HO208.out) (by first | exact Kd.N_base ho6 | exact Kd.S_base ho6 | exact Kd.R_base ho6) hb); have n1_ := Aside0.mk (Kd.R_lower (Kd.R_new' ho6 (Kd.R_lt (by (with_reducible repeat (first | apply Kd.R_alloc | apply Kd.R_drewN | apply Kd.R_drew)); exact HO208.out))) (below_size (by repeat (first | (with_reducible first | exact HB.out | apply below_alloc | apply pw_below_drewN | apply below_drew1) | exact HB.out)))); have n2_ := Aside0.mk (below_step (by repeat (first | (with_reducible first | exact HB.out | apply below_alloc | apply pw_below_drewN | apply below_drew1) | exact HB.out)) hb); clear HO208; clear HB; have HO208 := n0_; have HO212 := n1_; have HB := n2_; clear n0_ n1_ n2_; clear hb ho6; obtain ⟨Ao7, co7, eo7⟩ := Kd.R_slice HO208.out; subst eo7; obtain ⟨Ao8, co8, eo8⟩ := Kd.R_slice HO212.out; subst eo8) | (go_at_call 15; (with_reducible refine (laws_sameTexts.calls k _ _ t206 _ _ y210 t213 _ ?side1 ?side2 ?side3 ?side4 A3.out).mono ?_); (case side1 => repeat (first | exact (Kd.R_reads' HO208.out).2.2 | (with_reducible refine Kd.C_alloc ?_ _) | (with_reducible refine Kd.C_drewN ?_ _) | (with_reducible refine Kd.C_drew ?_))); (case side2 => exact (Kd.R_reads' HO208.out).2.1); (case side3 => repeat (first | exact (Kd.R_reads' HO212.out).2.2 | (with_reducible refine Kd.C_alloc ?_ _) | (with_reducible refine Kd.C_drewN ?_ _) | (with_reducible refine Kd.C_drew ?_))); (case side4 => exact (Kd.R_reads' HO212.out).2.1); rintro e w' ⟨rfl, ⟨nd, rfl⟩⟩))
    go_ret
    exact ⟨by first | rfl | (simp [errW_none, errW_some] <;> rfl) | (simp [*, errW_none, errW_some] <;> rfl), by repeat (first | (with_reducible first | exact HB.out | apply below_alloc | apply pw_below_drewN | apply below_drew1) | exact HB.out)⟩
  · replace c2 := Bool.eq_false_iff.mpr c2
    subst c2
    have H1 : (some false) = some r := by rw [if_neg (show ¬ (false = true) by decide)] at H; exact H
    clear H
    have H := H1
    clear H1
    obtain rfl := Option.some.inj H
    go_enter Tryd.func19, Tryd.ntmps19
    go_wp2_with (first | ((with_reducible refine gate_callee (f := 20) rfl ?_); refine goesL_ (some 5) rfl rfl Tryd.func20 (by kernel_rfl) rfl #[.string (⟨#[97, 46, 98]⟩ : ByteArray), .agg #[.string (⟨#[46]⟩ : ByteArray), .string (⟨#[]⟩ : ByteArray), .bool false, .bool false, .int .i64 10], .slice none 0 0] rfl (by (try simp only [List.map_toArray, List.map_cons, List.map_nil]); first | done | rfl | (simp only [List.length_drop, List.length_take]; rfl)) ?_; (refine (impl_Sentences.calls (⟨#[97, 46, 98]⟩ : ByteArray) (⟨#[46]⟩ : ByteArray) (⟨#[]⟩ : ByteArray) false false 10 none 0 ([] : List Int) t206 false _ ?side1 ?side2 (HT_.out _ (by repeat (first | (with_reducible first | exact HB.out | apply below_alloc | apply pw_below_drewN | apply below_drew1) | exact HB.out))) A1.out).mono ?_); (case side1 => exact Kd.C_nil _ _); (case side2 => exact Nat.le_refl _); rintro e w9 ⟨v207, rfl, ho0, hb⟩; refine ⟨_, rfl, ?_⟩; have n0_ := Aside0.mk (Kd.R_lower ho0 (below_size (by repeat (first | (with_reducible first | exact HB.out | apply below_alloc | apply pw_below_drewN | apply below_drew1) | exact HB.out)))); have n1_ := Aside0.mk (below_step (by repeat (first | (with_reducible first | exact HB.out | apply below_alloc | apply pw_below_drewN | apply below_drew1) | exact HB.out)) hb); clear HB; have HO208 := n0_; have HB := n1_; clear n0_ n1_; (try clear hb); (try clear hb2); (try clear hk); (try clear hi); (try clear ho0)))
    go_ret
    exact ⟨by first | rfl | (simp [errW_none, errW_some] <;> rfl) | (simp [*, errW_none, errW_some] <;> rfl), by repeat (first | (with_reducible first | exact HB.out | apply below_alloc | apply pw_below_drewN | apply below_drew1) | exact HB.out)⟩

end Go.Proofs.YtpjnebmcbeblkaaDoor.P
