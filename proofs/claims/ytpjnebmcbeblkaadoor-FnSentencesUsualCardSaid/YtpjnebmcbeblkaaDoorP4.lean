-- PRINTED by print.py (a twelfth state) out of the translation. Not trusted: Lean checks it.
import Derived.Test.YtpjnebmcbeblkaaDoorP0
import Derived.Test.YtpjnebmcbeblkaaDoorP11
import Derived.Test.YtpjnebmcbeblkaaDoorP15
import Derived.Test.YtpjnebmcbeblkaaDoorP16
import Derived.Test.YtpjnebmcbeblkaaDoorP17
import Derived.Test.YtpjnebmcbeblkaaDoorP18
import Derived.Test.YtpjnebmcbeblkaaDoorQSd
import Derived.Test.YtpjnebmcbeblkaaDoorGtB
import Derived.Test.YtpjnebmcbeblkaaDoorQSb
namespace Go.Proofs.YtpjnebmcbeblkaaDoor.P
open Go.RowKit Go.Proofs.YtpjnebmcbeblkaaDoorW.PrintWords Go.Proofs.YtpjnebmcbeblkaaDoorW.PrintLast Go.Proofs.YtpjnebmcbeblkaaDoorW.PrintMore
attribute [local go_sem] max2_int min2_int max_two min_two max_three min_three max_four min_four   -- for this text's walks alone
set_option linter.unusedVariables false
set_option linter.unusedSimpArgs false

/-! ### laws_FnSentencesUsual: function 4 -/
mutual
def laws_FnSentencesUsual.j0 : Nat → ByteArray → Bool → Option (Bool)
  | 0, _, _ => none
  | k + 1, x0, x27 => if x27 = true then (some false) else ((laws_clean.f k 400 (([x0] : List ByteArray))).bind fun t193 => (if t193 = true then ((laws_count.f k x0).bind fun t194 => (laws_FnSentencesUsual.j1 k x0 (decide (t194 > 100)))) else (laws_FnSentencesUsual.j1 k x0 true)))
def laws_FnSentencesUsual.j1 : Nat → ByteArray → Bool → Option (Bool)
  | 0, _, _ => none
  | k + 1, x0, x36 => if x36 = true then (some true) else ((laws_signs.f k x0).bind fun bt195 => (laws_FnSentencesUsual.l0 k x0 bt195.1 (bt195.1.length : Int) 0))
def laws_FnSentencesUsual.l0 : Nat → ByteArray → List ByteArray → Int → Int → Option (Bool)
  | 0, _, _, _, _ => none
  | k + 1, x0, x42, x43, x44 => if x44 < x43 then (if 0 ≤ x44 then (if x44 < (x42.length : Int) then (if 0 < ((rdOf ByteArray.empty x42 x44).size : Int) then (if (bt (rdOf ByteArray.empty x42 x44) 0) ≤ 32 then (some true) else (if (rdOf ByteArray.empty x42 x44).toList = ([227, 128, 128] : List UInt8) then (some true) else (if (rdOf ByteArray.empty x42 x44).toList = ([194, 133] : List UInt8) then (some true) else (if (rdOf ByteArray.empty x42 x44).toList = ([194, 160] : List UInt8) then (some true) else (if ((rdOf ByteArray.empty x42 x44).size : Int) = 3 then (if ((Op.bytesLess ((rdOf ByteArray.empty x42 x44).toList) ([226, 128, 128] : List UInt8)) = true) then (if (rdOf ByteArray.empty x42 x44).toList = ([225, 154, 128] : List UInt8) then (some true) else (laws_FnSentencesUsual.l0 k x0 x42 x43 (wrap64 (x44 + 1)))) else (if ((Op.bytesLess ([226, 129, 159] : List UInt8) ((rdOf ByteArray.empty x42 x44).toList)) = true) then (if (rdOf ByteArray.empty x42 x44).toList = ([225, 154, 128] : List UInt8) then (some true) else (laws_FnSentencesUsual.l0 k x0 x42 x43 (wrap64 (x44 + 1)))) else (some true))) else (if (rdOf ByteArray.empty x42 x44).toList = ([225, 154, 128] : List UInt8) then (some true) else (laws_FnSentencesUsual.l0 k x0 x42 x43 (wrap64 (x44 + 1))))))))) else (none)) else (none)) else (none)) else ((impl_SentencesUsual.f x0).bind fun bt200 => (laws_FnSentencesUsual.l1 k x0 bt200.1 bt200.2 bt200.1 (bt200.1.length : Int) 0))
def laws_FnSentencesUsual.l1 : Nat → ByteArray → List ByteArray → Bool → List ByteArray → Int → Int → Option (Bool)
  | 0, _, _, _, _, _, _ => none
  | k + 1, x0, x9, x10, x86, x87, x88 => if x88 < x87 then (if 0 ≤ x88 then (if x88 < (x86.length : Int) then (if (rdOf ByteArray.empty x86 x88).toList = ([] : List UInt8) then (some false) else (laws_FnSentencesUsual.l1 k x0 x9 x10 x86 x87 (wrap64 (x88 + 1)))) else (none)) else (none)) else (if x10 = true then ((laws_joined.f k x9).bind fun t205 => (some (t205.toList == x0.toList))) else (some false))
end
def laws_FnSentencesUsual.f (k : Nat) (a0 : ByteArray) : Option (Bool) := if (a0.size : Int) > 2147483647 then (some true) else ((impl_SentencesUsual.f (⟨#[97, 227, 128, 130, 98]⟩ : ByteArray)).bind fun bt182 => (if bt182.2 = true then ((laws_sameTexts.f k bt182.1 (([(⟨#[97, 227, 128, 130]⟩ : ByteArray), (⟨#[98]⟩ : ByteArray)] : List ByteArray))).bind fun t189 => (laws_FnSentencesUsual.j0 k a0 (!t189))) else (laws_FnSentencesUsual.j0 k a0 true)))
theorem laws_FnSentencesUsual.mono_l : ∀ k, (∀ y0 y1, LeO (laws_FnSentencesUsual.j0 k y0 y1) (laws_FnSentencesUsual.j0 (k + 1) y0 y1)) ∧ (∀ y0 y1, LeO (laws_FnSentencesUsual.j1 k y0 y1) (laws_FnSentencesUsual.j1 (k + 1) y0 y1)) ∧ (∀ y0 y1 y2 y3, LeO (laws_FnSentencesUsual.l0 k y0 y1 y2 y3) (laws_FnSentencesUsual.l0 (k + 1) y0 y1 y2 y3)) ∧ (∀ y0 y1 y2 y3 y4 y5, LeO (laws_FnSentencesUsual.l1 k y0 y1 y2 y3 y4 y5) (laws_FnSentencesUsual.l1 (k + 1) y0 y1 y2 y3 y4 y5))
  | 0 => ⟨fun _ _ r h => by simp [laws_FnSentencesUsual.j0] at h, fun _ _ r h => by simp [laws_FnSentencesUsual.j1] at h, fun _ _ _ _ r h => by simp [laws_FnSentencesUsual.l0] at h, fun _ _ _ _ _ _ r h => by simp [laws_FnSentencesUsual.l1] at h⟩
  | k + 1 => by
    obtain ⟨ih0, ih1, ih2, ih3⟩ := laws_FnSentencesUsual.mono_l k
    refine ⟨?_, ?_, ?_, ?_⟩
    · intro y0 y1
      unfold laws_FnSentencesUsual.j0
      repeat' first
      | (with_reducible exact ih0 _ _)
      | (with_reducible exact ih1 _ _)
      | (with_reducible exact ih2 _ _ _ _)
      | (with_reducible exact ih3 _ _ _ _ _ _)
      | (with_reducible exact laws_clean.mono _ _ _)
      | (with_reducible exact laws_count.mono _ _)
      | (with_reducible exact laws_joined.mono _ _)
      | (with_reducible exact laws_sameTexts.mono _ _ _)
      | (with_reducible exact laws_signs.mono _ _)
      | (with_reducible exact LeO.refl _)
      | (with_reducible exact LeO.none _)
      | (with_reducible refine LeO.ite ?_ ?_)
      | (with_reducible refine LeO.bind ?_ (fun _ => ?_))
      | exact ih0 _ _
      | exact ih1 _ _
      | exact ih2 _ _ _ _
      | exact ih3 _ _ _ _ _ _
      | exact laws_clean.mono _ _ _
      | exact laws_count.mono _ _
      | exact laws_joined.mono _ _
      | exact laws_sameTexts.mono _ _ _
      | exact laws_signs.mono _ _
      | exact LeO.none _
      | refine LeO.ite ?_ ?_
      | refine LeO.bind ?_ (fun _ => ?_)
    · intro y0 y1
      unfold laws_FnSentencesUsual.j1
      repeat' first
      | (with_reducible exact ih0 _ _)
      | (with_reducible exact ih1 _ _)
      | (with_reducible exact ih2 _ _ _ _)
      | (with_reducible exact ih3 _ _ _ _ _ _)
      | (with_reducible exact laws_clean.mono _ _ _)
      | (with_reducible exact laws_count.mono _ _)
      | (with_reducible exact laws_joined.mono _ _)
      | (with_reducible exact laws_sameTexts.mono _ _ _)
      | (with_reducible exact laws_signs.mono _ _)
      | (with_reducible exact LeO.refl _)
      | (with_reducible exact LeO.none _)
      | (with_reducible refine LeO.ite ?_ ?_)
      | (with_reducible refine LeO.bind ?_ (fun _ => ?_))
      | exact ih0 _ _
      | exact ih1 _ _
      | exact ih2 _ _ _ _
      | exact ih3 _ _ _ _ _ _
      | exact laws_clean.mono _ _ _
      | exact laws_count.mono _ _
      | exact laws_joined.mono _ _
      | exact laws_sameTexts.mono _ _ _
      | exact laws_signs.mono _ _
      | exact LeO.none _
      | refine LeO.ite ?_ ?_
      | refine LeO.bind ?_ (fun _ => ?_)
    · intro y0 y1 y2 y3
      unfold laws_FnSentencesUsual.l0
      repeat' first
      | (with_reducible exact ih0 _ _)
      | (with_reducible exact ih1 _ _)
      | (with_reducible exact ih2 _ _ _ _)
      | (with_reducible exact ih3 _ _ _ _ _ _)
      | (with_reducible exact laws_clean.mono _ _ _)
      | (with_reducible exact laws_count.mono _ _)
      | (with_reducible exact laws_joined.mono _ _)
      | (with_reducible exact laws_sameTexts.mono _ _ _)
      | (with_reducible exact laws_signs.mono _ _)
      | (with_reducible exact LeO.refl _)
      | (with_reducible exact LeO.none _)
      | (with_reducible refine LeO.ite ?_ ?_)
      | (with_reducible refine LeO.bind ?_ (fun _ => ?_))
      | exact ih0 _ _
      | exact ih1 _ _
      | exact ih2 _ _ _ _
      | exact ih3 _ _ _ _ _ _
      | exact laws_clean.mono _ _ _
      | exact laws_count.mono _ _
      | exact laws_joined.mono _ _
      | exact laws_sameTexts.mono _ _ _
      | exact laws_signs.mono _ _
      | exact LeO.none _
      | refine LeO.ite ?_ ?_
      | refine LeO.bind ?_ (fun _ => ?_)
    · intro y0 y1 y2 y3 y4 y5
      unfold laws_FnSentencesUsual.l1
      repeat' first
      | (with_reducible exact ih0 _ _)
      | (with_reducible exact ih1 _ _)
      | (with_reducible exact ih2 _ _ _ _)
      | (with_reducible exact ih3 _ _ _ _ _ _)
      | (with_reducible exact laws_clean.mono _ _ _)
      | (with_reducible exact laws_count.mono _ _)
      | (with_reducible exact laws_joined.mono _ _)
      | (with_reducible exact laws_sameTexts.mono _ _ _)
      | (with_reducible exact laws_signs.mono _ _)
      | (with_reducible exact LeO.refl _)
      | (with_reducible exact LeO.none _)
      | (with_reducible refine LeO.ite ?_ ?_)
      | (with_reducible refine LeO.bind ?_ (fun _ => ?_))
      | exact ih0 _ _
      | exact ih1 _ _
      | exact ih2 _ _ _ _
      | exact ih3 _ _ _ _ _ _
      | exact laws_clean.mono _ _ _
      | exact laws_count.mono _ _
      | exact laws_joined.mono _ _
      | exact laws_sameTexts.mono _ _ _
      | exact laws_signs.mono _ _
      | exact LeO.none _
      | refine LeO.ite ?_ ?_
      | refine LeO.bind ?_ (fun _ => ?_)
theorem laws_FnSentencesUsual.mono : ∀ a0 k, LeO (laws_FnSentencesUsual.f k a0) (laws_FnSentencesUsual.f (k + 1) a0) := by
  intro a0 k
  obtain ⟨ih0, ih1, ih2, ih3⟩ := laws_FnSentencesUsual.mono_l k
  unfold laws_FnSentencesUsual.f
  repeat' first
      | (with_reducible exact ih0 _ _)
      | (with_reducible exact ih1 _ _)
      | (with_reducible exact ih2 _ _ _ _)
      | (with_reducible exact ih3 _ _ _ _ _ _)
      | (with_reducible exact laws_clean.mono _ _ _)
      | (with_reducible exact laws_count.mono _ _)
      | (with_reducible exact laws_joined.mono _ _)
      | (with_reducible exact laws_sameTexts.mono _ _ _)
      | (with_reducible exact laws_signs.mono _ _)
      | (with_reducible exact LeO.refl _)
      | (with_reducible exact LeO.none _)
      | (with_reducible refine LeO.ite ?_ ?_)
      | (with_reducible refine LeO.bind ?_ (fun _ => ?_))
      | exact ih0 _ _
      | exact ih1 _ _
      | exact ih2 _ _ _ _
      | exact ih3 _ _ _ _ _ _
      | exact laws_clean.mono _ _ _
      | exact laws_count.mono _ _
      | exact laws_joined.mono _ _
      | exact laws_sameTexts.mono _ _ _
      | exact laws_signs.mono _ _
      | exact LeO.none _
      | refine LeO.ite ?_ ?_
      | refine LeO.bind ?_ (fun _ => ?_)
set_option maxHeartbeats 8000000 in
set_option maxRecDepth 100000 in
theorem laws_FnSentencesUsual.calls (k : Nat) (a0 : ByteArray) (r : Bool) (w : World) (ht_ : Go.Proofs.YtpjnebmcbeblkaaDoor.X2.Tabs w) (h : laws_FnSentencesUsual.f k a0 = some r) :
    Calls Tryd.prog 4 #[.string a0] w fun e w' => e = .returned (.bool r) ∧ Below w.heap.size w w' := by
  have HT_ : Aside0 (∀ W_, Below w.heap.size w W_ → Go.Proofs.YtpjnebmcbeblkaaDoor.X2.Tabs W_) := ⟨fun W_ h_ => ht_.below h_⟩
  clear ht_
  have HB := Aside0.mk (Below.refl w.heap.size w)
  have H : (if (a0.size : Int) > 2147483647 then (some true) else ((impl_SentencesUsual.f (⟨#[97, 227, 128, 130, 98]⟩ : ByteArray)).bind fun bt182 => (if bt182.2 = true then ((laws_sameTexts.f k bt182.1 (([(⟨#[97, 227, 128, 130]⟩ : ByteArray), (⟨#[98]⟩ : ByteArray)] : List ByteArray))).bind fun t189 => (laws_FnSentencesUsual.j0 k a0 (!t189))) else (laws_FnSentencesUsual.j0 k a0 true)))) = some r := h
  clear h
  by_cases c2 : (a0.size : Int) > 2147483647
  · rw [if_pos c2] at H
    have c2b0 : decide (2147483647 < (a0.size : Int)) = true := decide_eq_true c2
    have c2b1 : decide (2147483647 < a0.size) = true := decide_eq_true (by omega)
    clear c2
    obtain rfl := Option.some.inj H
    go_enter Tryd.func4, Tryd.ntmps4
    go_wp2
    go_ret
    exact ⟨by first | rfl | (simp [errW_none, errW_some] <;> rfl) | (simp [*, errW_none, errW_some] <;> rfl), by repeat (first | (with_reducible first | exact HB.out | apply below_alloc | apply pw_below_drewN | apply below_drew1) | exact HB.out)⟩
  · rw [if_neg c2] at H
    have c2b0 : decide (2147483647 < (a0.size : Int)) = false := decide_eq_false c2
    have c2b1 : decide (2147483647 < a0.size) = false := decide_eq_false (by omega)
    clear c2
    replace H := Option.bind_eq_some_iff.mp H
    obtain ⟨⟨t182, t183⟩, A30, H⟩ := H
    replace H : (if t183 = true then ((laws_sameTexts.f k t182 (([(⟨#[97, 227, 128, 130]⟩ : ByteArray), (⟨#[98]⟩ : ByteArray)] : List ByteArray))).bind fun t189 => (laws_FnSentencesUsual.j0 k a0 (!t189))) else (laws_FnSentencesUsual.j0 k a0 true)) = some r := H
    have A3 := Aside0.mk A30
    clear A30
    have HC4 := Aside0.mk H
    clear H
    go_enter Tryd.func4, Tryd.ntmps4
    go_upto_region 4 with (first | ((with_reducible refine gate_callee (f := 14) rfl ?_); refine goesL_ (some 17) rfl rfl Tryd.func14 (by kernel_rfl) rfl #[.string (⟨#[97, 227, 128, 130, 98]⟩ : ByteArray)] rfl (by (try simp only [List.map_toArray, List.map_cons, List.map_nil]); first | done | rfl | (simp only [List.length_drop, List.length_take]; rfl)) ?_; (with_reducible refine (impl_SentencesUsual.calls (⟨#[97, 227, 128, 130, 98]⟩ : ByteArray) t182 t183 _ (HT_.out _ (by repeat (first | (with_reducible first | exact HB.out | apply below_alloc | apply pw_below_drewN | apply below_drew1) | exact HB.out))) A3.out).mono ?_); rintro e w5 ⟨v184, rfl, ho0, hb⟩; refine ⟨_, rfl, ?_⟩; have n0_ := Aside0.mk (Kd.R_lower ho0 (below_size (by repeat (first | (with_reducible first | exact HB.out | apply below_alloc | apply pw_below_drewN | apply below_drew1) | exact HB.out)))); have n1_ := Aside0.mk (below_step (by repeat (first | (with_reducible first | exact HB.out | apply below_alloc | apply pw_below_drewN | apply below_drew1) | exact HB.out)) hb); clear HB; have HO185 := n0_; have HB := n1_; clear n0_ n1_; (try clear hb); (try clear hb2); (try clear hk); (try clear hi); (try clear ho0)))
    (try simp only [Act.put, List.setIfInBounds_toArray, List.set_cons_zero, List.set_cons_succ])
    go_cut [27] (fun v27 wc => ∃ (kq : Nat) (x27_3 : Bool), v27 = .bool x27_3 ∧ Aside0 (laws_FnSentencesUsual.j0 kq a0 x27_3 = some r) ∧ Aside0 (kq ≤ k) ∧ Aside0 (Below w.heap.size w wc))
    case first =>
      have H := HC4.out
      clear HC4
      by_cases c6 : t183 = true
      · subst c6
        have H1 : ((laws_sameTexts.f k t182 (([(⟨#[97, 227, 128, 130]⟩ : ByteArray), (⟨#[98]⟩ : ByteArray)] : List ByteArray))).bind fun t189 => (laws_FnSentencesUsual.j0 k a0 (!t189))) = some r := by rw [if_pos rfl] at H; exact H
        clear H
        have H := H1
        clear H1
        obtain ⟨y186, hy186⟩ : ∃ y_ : List ByteArray, y_ = (([(⟨#[97, 227, 128, 130]⟩ : ByteArray), (⟨#[98]⟩ : ByteArray)] : List ByteArray)) := ⟨_, rfl⟩
        replace H : ((laws_sameTexts.f k t182 y186).bind fun t189 => (laws_FnSentencesUsual.j0 k a0 (!t189))) = some r := by first | (rw [hy186]; with_reducible exact H) | (have H2_ := (Option.bind_some _ _).symm.trans H; rw [hy186]; with_reducible exact H2_) | (have H2_ := (Option.bind_some _ _).symm.trans H; with_reducible exact H2_) | with_reducible exact H | (rw [hy186]; exact H) | exact H
        have Ny186 := Aside0.mk hy186
        clear hy186
        replace H := Option.bind_eq_some_iff.mp H
        obtain ⟨t189, A70, H⟩ := H
        replace H : (laws_FnSentencesUsual.j0 k a0 (!t189)) = some r := H
        have A7 := Aside0.mk A70
        clear A70
        have H' := Aside0.mk H
        clear H
        go_wp2_with (first | ((with_reducible refine gate_dst (N := 24) rfl ?_); (try (refine gate_guard (by rfl) ?_; dsimp only)); refine Kd.R_lit Kd.string _ 9 ?hg (N := 24) ?hd (xs := ([(⟨#[97, 227, 128, 130]⟩ : ByteArray), (⟨#[98]⟩ : ByteArray)] : List ByteArray)) (inner := [.string (⟨#[97, 227, 128, 130]⟩ : ByteArray), .string (⟨#[98]⟩ : ByteArray)]) (ok := fun _ => True) (okp := fun _ => True) ?hr ?hp (fun _ hk => hk) trivial (Below.refl _ _) (Nat.le_refl _) (by simp) ?_; (case hd => rfl); (case hg => rfl); (case hr => first | (go_simp; done) | (go_simp; rfl)); (case hp => exact (Reps.one (show Kd.M Kd.string _ _ _ (⟨#[97, 227, 128, 130]⟩ : ByteArray) [.string (⟨#[97, 227, 128, 130]⟩ : ByteArray)] from rfl) (Reps.one (show Kd.M Kd.string _ _ _ (⟨#[98]⟩ : ByteArray) [.string (⟨#[98]⟩ : ByteArray)] from rfl) (Reps.none _ _)))); intro v187 w8 ho9 hb hg_ hnew_; clear hg_ hnew_; (first | rw [← Ny186.out] at ho9 | (simp only [Int.reduceToNat] at ho9; rw [← Ny186.out] at ho9)); have n0_ := Aside0.mk (Kd.R_elder' (by (with_reducible repeat (first | apply Kd.R_alloc | apply Kd.R_drewN | apply Kd.R_drew)); exact HO185.out) (by first | exact Kd.N_base ho9 | exact Kd.S_base ho9 | exact Kd.R_base ho9) hb); have n1_ := Aside0.mk (Kd.R_lower (Kd.R_new' ho9 (Kd.R_lt (by (with_reducible repeat (first | apply Kd.R_alloc | apply Kd.R_drewN | apply Kd.R_drew)); exact HO185.out))) (below_size (by repeat (first | (with_reducible first | exact HB.out | apply below_alloc | apply pw_below_drewN | apply below_drew1) | exact HB.out)))); have n2_ := Aside0.mk (below_step (by repeat (first | (with_reducible first | exact HB.out | apply below_alloc | apply pw_below_drewN | apply below_drew1) | exact HB.out)) hb); clear HO185; clear HB; have HO185 := n0_; have HO188 := n1_; have HB := n2_; clear n0_ n1_ n2_; clear hb ho9; obtain ⟨Ao10, co10, eo10⟩ := Kd.R_slice HO185.out; subst eo10; obtain ⟨Ao11, co11, eo11⟩ := Kd.R_slice HO188.out; subst eo11) | (go_at_call 15; (with_reducible refine (laws_sameTexts.calls k _ _ t182 _ _ y186 t189 _ ?side1 ?side2 ?side3 ?side4 A7.out).mono ?_); (case side1 => repeat (first | exact (Kd.R_reads' HO185.out).2.2 | (with_reducible refine Kd.C_alloc ?_ _) | (with_reducible refine Kd.C_drewN ?_ _) | (with_reducible refine Kd.C_drew ?_))); (case side2 => exact (Kd.R_reads' HO185.out).2.1); (case side3 => repeat (first | exact (Kd.R_reads' HO188.out).2.2 | (with_reducible refine Kd.C_alloc ?_ _) | (with_reducible refine Kd.C_drewN ?_ _) | (with_reducible refine Kd.C_drew ?_))); (case side4 => exact (Kd.R_reads' HO188.out).2.1); rintro e w' ⟨rfl, ⟨nd, rfl⟩⟩))
        go_meet
        case rel => exact ⟨_, (!t189), (by first | rfl | (simp; done) | (simp [*]; done)), H', ⟨by first | omega | exact Nat.le_refl _⟩, ⟨by repeat (first | (with_reducible first | exact HB.out | apply below_alloc | apply pw_below_drewN | apply below_drew1) | exact HB.out)⟩⟩
      · replace c6 := Bool.eq_false_iff.mpr c6
        subst c6
        have H1 : (laws_FnSentencesUsual.j0 k a0 true) = some r := by rw [if_neg (show ¬ (false = true) by decide)] at H; exact H
        clear H
        have H := H1
        clear H1
        have H' := Aside0.mk H
        clear H
        go_wp2
        go_meet
        case rel => exact ⟨_, (true), (by first | rfl | (simp; done) | (simp [*]; done)), H', ⟨by first | omega | exact Nat.le_refl _⟩, ⟨by repeat (first | (with_reducible first | exact HB.out | apply below_alloc | apply pw_below_drewN | apply below_drew1) | exact HB.out)⟩⟩
    case rest =>
      clear HC4
      try clear c1
      try clear c2
      try clear c2b0
      try clear c2b1
      try clear p2
      try clear c4
      try clear c6
      obtain ⟨kq, x27_3, rfl, HA, HJ3, HB⟩ := hcut
      cases kq with
      | zero => exact absurd HA.out (by simp [laws_FnSentencesUsual.j0])
      | succ kj3 =>
        have H := HA.out
        clear HA
        simp only [laws_FnSentencesUsual.j0] at H
        by_cases c12 : x27_3 = true
        · subst c12
          have H1 : (some false) = some r := by rw [if_pos rfl] at H; exact H
          clear H
          have H := H1
          clear H1
          obtain rfl := Option.some.inj H
          go_wp2
          go_ret
          exact ⟨by first | rfl | (simp [errW_none, errW_some] <;> rfl) | (simp [*, errW_none, errW_some] <;> rfl), by repeat (first | (with_reducible first | exact HB.out | apply below_alloc | apply pw_below_drewN | apply below_drew1) | exact HB.out)⟩
        · replace c12 := Bool.eq_false_iff.mpr c12
          subst c12
          have H1 : ((laws_clean.f kj3 400 (([a0] : List ByteArray))).bind fun t193 => (if t193 = true then ((laws_count.f kj3 a0).bind fun t194 => (laws_FnSentencesUsual.j1 kj3 a0 (decide (t194 > 100)))) else (laws_FnSentencesUsual.j1 kj3 a0 true))) = some r := by rw [if_neg (show ¬ (false = true) by decide)] at H; exact H
          clear H
          have H := H1
          clear H1
          have HC13 := Aside0.mk H
          clear H
          go_upto_region 6 with (fail)
          go_cut [36] (fun v36 wc => ∃ (kq : Nat) (x36_12 : Bool), v36 = .bool x36_12 ∧ Aside0 (laws_FnSentencesUsual.j1 kq a0 x36_12 = some r) ∧ Aside0 (kq ≤ kj3) ∧ Aside0 (Below w.heap.size w wc))
          case first =>
            have H := HC13.out
            clear HC13
            obtain ⟨y190, hy190⟩ : ∃ y_ : List ByteArray, y_ = (([a0] : List ByteArray)) := ⟨_, rfl⟩
            replace H : ((laws_clean.f kj3 400 y190).bind fun t193 => (if t193 = true then ((laws_count.f kj3 a0).bind fun t194 => (laws_FnSentencesUsual.j1 kj3 a0 (decide (t194 > 100)))) else (laws_FnSentencesUsual.j1 kj3 a0 true))) = some r := by first | (rw [hy190]; with_reducible exact H) | (have H2_ := (Option.bind_some _ _).symm.trans H; rw [hy190]; with_reducible exact H2_) | (have H2_ := (Option.bind_some _ _).symm.trans H; with_reducible exact H2_) | with_reducible exact H | (rw [hy190]; exact H) | exact H
            have Ny190 := Aside0.mk hy190
            clear hy190
            replace H := Option.bind_eq_some_iff.mp H
            obtain ⟨t193, A140, H⟩ := H
            replace H : (if t193 = true then ((laws_count.f kj3 a0).bind fun t194 => (laws_FnSentencesUsual.j1 kj3 a0 (decide (t194 > 100)))) else (laws_FnSentencesUsual.j1 kj3 a0 true)) = some r := H
            have A14 := Aside0.mk A140
            clear A140
            by_cases c15 : t193 = true
            · subst c15
              have H1 : ((laws_count.f kj3 a0).bind fun t194 => (laws_FnSentencesUsual.j1 kj3 a0 (decide (t194 > 100)))) = some r := by rw [if_pos rfl] at H; exact H
              clear H
              have H := H1
              clear H1
              replace H := Option.bind_eq_some_iff.mp H
              obtain ⟨t194, A160, H⟩ := H
              replace H : (laws_FnSentencesUsual.j1 kj3 a0 (decide (t194 > 100))) = some r := H
              have A16 := Aside0.mk A160
              clear A160
              have H' := Aside0.mk H
              clear H
              go_wp2_with (first | ((with_reducible refine gate_dst (N := 29) rfl ?_); (try (refine gate_guard (by rfl) ?_; dsimp only)); refine Kd.R_lit Kd.string _ 9 ?hg (N := 29) ?hd (xs := ([a0] : List ByteArray)) (inner := [.string a0]) (ok := fun _ => True) (okp := fun _ => True) ?hr ?hp (fun _ hk => hk) trivial (Below.refl _ _) (Nat.le_refl _) (by simp) ?_; (case hd => rfl); (case hg => rfl); (case hr => first | (go_simp; done) | (go_simp; rfl)); (case hp => exact (Reps.one (show Kd.M Kd.string _ _ _ a0 [.string a0] from rfl) (Reps.none _ _))); intro v191 w17 ho18 hb hg_ hnew_; clear hg_ hnew_; (first | rw [← Ny190.out] at ho18 | (simp only [Int.reduceToNat] at ho18; rw [← Ny190.out] at ho18)); have n0_ := Aside0.mk (Kd.R_lower ho18 (below_size (by repeat (first | (with_reducible first | exact HB.out | apply below_alloc | apply pw_below_drewN | apply below_drew1) | exact HB.out)))); have n1_ := Aside0.mk (below_step (by repeat (first | (with_reducible first | exact HB.out | apply below_alloc | apply pw_below_drewN | apply below_drew1) | exact HB.out)) hb); clear HB; have HO192 := n0_; have HB := n1_; clear n0_ n1_; clear hb ho18; obtain ⟨Ao19, co19, eo19⟩ := Kd.R_slice HO192.out; subst eo19) | ((with_reducible refine gate_callee (f := 16) rfl ?_); refine goesL_ (some 30) rfl rfl Tryd.func16 (by kernel_rfl) rfl #[.int .i64 400, .slice Ao19 y190.length co19] rfl (by (try simp only [List.map_toArray, List.map_cons, List.map_nil]); first | done | rfl | (simp only [List.length_drop, List.length_take]; rfl)) ?_; (with_reducible refine (laws_clean.calls kj3 400 _ _ y190 true _ ?side1 ?side2 A14.out).mono ?_); (case side1 => repeat (first | exact (Kd.R_reads' HO192.out).2.2 | (with_reducible refine Kd.C_alloc ?_ _) | (with_reducible refine Kd.C_drewN ?_ _) | (with_reducible refine Kd.C_drew ?_))); (case side2 => exact (Kd.R_reads' HO192.out).2.1); rintro e w20 ⟨rfl, hb⟩; refine ⟨_, rfl, ?_⟩; have n0_ := Aside0.mk (Kd.R_below (by (with_reducible repeat (first | apply Kd.R_alloc | apply Kd.R_drewN | apply Kd.R_drew)); exact HO192.out) hb); have n1_ := Aside0.mk (below_step (by repeat (first | (with_reducible first | exact HB.out | apply below_alloc | apply pw_below_drewN | apply below_drew1) | exact HB.out)) hb); clear HO192; clear HB; have HO192 := n0_; have HB := n1_; clear n0_ n1_; (try clear hb); (try clear hb2); (try clear hk); (try clear hi)) | (go_at_call 17; (with_reducible refine (laws_count.calls kj3 a0 t194 _ A16.out).mono ?_); rintro e w21 ⟨rfl, hb⟩; have n0_ := Aside0.mk (Kd.R_below (by (with_reducible repeat (first | apply Kd.R_alloc | apply Kd.R_drewN | apply Kd.R_drew)); exact HO192.out) hb); have n1_ := Aside0.mk (below_step (by repeat (first | (with_reducible first | exact HB.out | apply below_alloc | apply pw_below_drewN | apply below_drew1) | exact HB.out)) hb); clear HO192; clear HB; have HO192 := n0_; have HB := n1_; clear n0_ n1_; (try clear hb); (try clear hb2); (try clear hk); (try clear hi)))
              go_meet
              case rel => exact ⟨_, (decide (t194 > 100)), (by first | rfl | (simp; done) | (simp [*]; done)), H', ⟨by have := HJ3.out; first | omega | exact Nat.le_refl _⟩, ⟨by repeat (first | (with_reducible first | exact HB.out | apply below_alloc | apply pw_below_drewN | apply below_drew1) | exact HB.out)⟩⟩
            · replace c15 := Bool.eq_false_iff.mpr c15
              subst c15
              have H1 : (laws_FnSentencesUsual.j1 kj3 a0 true) = some r := by rw [if_neg (show ¬ (false = true) by decide)] at H; exact H
              clear H
              have H := H1
              clear H1
              have H' := Aside0.mk H
              clear H
              go_wp2_with (first | ((with_reducible refine gate_dst (N := 29) rfl ?_); (try (refine gate_guard (by rfl) ?_; dsimp only)); refine Kd.R_lit Kd.string _ 9 ?hg (N := 29) ?hd (xs := ([a0] : List ByteArray)) (inner := [.string a0]) (ok := fun _ => True) (okp := fun _ => True) ?hr ?hp (fun _ hk => hk) trivial (Below.refl _ _) (Nat.le_refl _) (by simp) ?_; (case hd => rfl); (case hg => rfl); (case hr => first | (go_simp; done) | (go_simp; rfl)); (case hp => exact (Reps.one (show Kd.M Kd.string _ _ _ a0 [.string a0] from rfl) (Reps.none _ _))); intro v191 w22 ho23 hb hg_ hnew_; clear hg_ hnew_; (first | rw [← Ny190.out] at ho23 | (simp only [Int.reduceToNat] at ho23; rw [← Ny190.out] at ho23)); have n0_ := Aside0.mk (Kd.R_lower ho23 (below_size (by repeat (first | (with_reducible first | exact HB.out | apply below_alloc | apply pw_below_drewN | apply below_drew1) | exact HB.out)))); have n1_ := Aside0.mk (below_step (by repeat (first | (with_reducible first | exact HB.out | apply below_alloc | apply pw_below_drewN | apply below_drew1) | exact HB.out)) hb); clear HB; have HO192 := n0_; have HB := n1_; clear n0_ n1_; clear hb ho23; obtain ⟨Ao24, co24, eo24⟩ := Kd.R_slice HO192.out; subst eo24) | ((with_reducible refine gate_callee (f := 16) rfl ?_); refine goesL_ (some 30) rfl rfl Tryd.func16 (by kernel_rfl) rfl #[.int .i64 400, .slice Ao24 y190.length co24] rfl (by (try simp only [List.map_toArray, List.map_cons, List.map_nil]); first | done | rfl | (simp only [List.length_drop, List.length_take]; rfl)) ?_; (with_reducible refine (laws_clean.calls kj3 400 _ _ y190 false _ ?side1 ?side2 A14.out).mono ?_); (case side1 => repeat (first | exact (Kd.R_reads' HO192.out).2.2 | (with_reducible refine Kd.C_alloc ?_ _) | (with_reducible refine Kd.C_drewN ?_ _) | (with_reducible refine Kd.C_drew ?_))); (case side2 => exact (Kd.R_reads' HO192.out).2.1); rintro e w25 ⟨rfl, hb⟩; refine ⟨_, rfl, ?_⟩; have n0_ := Aside0.mk (Kd.R_below (by (with_reducible repeat (first | apply Kd.R_alloc | apply Kd.R_drewN | apply Kd.R_drew)); exact HO192.out) hb); have n1_ := Aside0.mk (below_step (by repeat (first | (with_reducible first | exact HB.out | apply below_alloc | apply pw_below_drewN | apply below_drew1) | exact HB.out)) hb); clear HO192; clear HB; have HO192 := n0_; have HB := n1_; clear n0_ n1_; (try clear hb); (try clear hb2); (try clear hk); (try clear hi)))
              go_meet
              case rel => exact ⟨_, (true), (by first | rfl | (simp; done) | (simp [*]; done)), H', ⟨by have := HJ3.out; first | omega | exact Nat.le_refl _⟩, ⟨by repeat (first | (with_reducible first | exact HB.out | apply below_alloc | apply pw_below_drewN | apply below_drew1) | exact HB.out)⟩⟩
          case rest =>
            clear HC13
            try clear c1
            try clear c2
            try clear c2b0
            try clear c2b1
            try clear p2
            try clear c4
            try clear c6
            try clear c12
            try clear c14
            try clear c15
            try clear c16
            try clear p2
            obtain ⟨kq, x36_12, rfl, HA, HJ12, HB⟩ := hcut
            cases kq with
            | zero => exact absurd HA.out (by simp [laws_FnSentencesUsual.j1])
            | succ kj12 =>
              have H := HA.out
              clear HA
              simp only [laws_FnSentencesUsual.j1] at H
              by_cases c26 : x36_12 = true
              · subst c26
                have H1 : (some true) = some r := by rw [if_pos rfl] at H; exact H
                clear H
                have H := H1
                clear H1
                obtain rfl := Option.some.inj H
                go_wp2
                go_ret
                exact ⟨by first | rfl | (simp [errW_none, errW_some] <;> rfl) | (simp [*, errW_none, errW_some] <;> rfl), by repeat (first | (with_reducible first | exact HB.out | apply below_alloc | apply pw_below_drewN | apply below_drew1) | exact HB.out)⟩
              · replace c26 := Bool.eq_false_iff.mpr c26
                subst c26
                have H1 : ((laws_signs.f kj12 a0).bind fun bt195 => (laws_FnSentencesUsual.l0 kj12 a0 bt195.1 (bt195.1.length : Int) 0)) = some r := by rw [if_neg (show ¬ (false = true) by decide)] at H; exact H
                clear H
                have H := H1
                clear H1
                replace H := Option.bind_eq_some_iff.mp H
                obtain ⟨⟨t195, t196⟩, A270, H⟩ := H
                replace H : (laws_FnSentencesUsual.l0 kj12 a0 t195 (t195.length : Int) 0) = some r := H
                have A27 := Aside0.mk A270
                clear A270
                have H' := Aside0.mk H
                clear H
                go_wp2_with (first | ((with_reducible refine gate_callee (f := 11) rfl ?_); refine goesL_ (some 39) rfl rfl Tryd.func11 (by kernel_rfl) rfl #[.string a0] rfl (by (try simp only [List.map_toArray, List.map_cons, List.map_nil]); first | done | rfl | (simp only [List.length_drop, List.length_take]; rfl)) ?_; (with_reducible refine (laws_signs.calls kj12 a0 t195 t196 _ A27.out).mono ?_); rintro e w28 ⟨v197, rfl, ho0, hb⟩; refine ⟨_, rfl, ?_⟩; have n0_ := Aside0.mk (Kd.R_lower ho0 (below_size (by repeat (first | (with_reducible first | exact HB.out | apply below_alloc | apply pw_below_drewN | apply below_drew1) | exact HB.out)))); have n1_ := Aside0.mk (below_step (by repeat (first | (with_reducible first | exact HB.out | apply below_alloc | apply pw_below_drewN | apply below_drew1) | exact HB.out)) hb); clear HB; have HO198 := n0_; have HB := n1_; clear n0_ n1_; (try clear hb); (try clear hb2); (try clear hk); (try clear hi); (try clear ho0); obtain ⟨Ao29, co29, eo29⟩ := Kd.R_slice HO198.out; subst eo29))
                go_loopg [44] kj12 (fun kq v44 w' => ∃ (x44_3 : Int), v44 = .int .i64 x44_3 ∧ Aside0 (laws_FnSentencesUsual.l0 kq a0 t195 (t195.length : Int) x44_3 = some r) ∧ Aside0 (kq ≤ kj12) ∧ Aside0 (Kd.R Kd.string 9 w' w.heap.size (fun _ => True) (.slice Ao29 t195.length co29) t195) ∧ Aside0 (Below w.heap.size w w'))
                case atStart => exact ⟨(0), (by first | rfl | (simp; done) | (simp [*]; done)), H', ⟨Nat.le_refl _⟩, ⟨by (with_reducible repeat (first | apply Kd.R_alloc | apply Kd.R_drewN | apply Kd.R_drew)); exact HO198.out⟩, ⟨by repeat (first | (with_reducible first | exact HB.out | apply below_alloc | apply pw_below_drewN | apply below_drew1) | exact HB.out)⟩⟩
                case round =>
                  clear H'
                  try clear c1
                  try clear c2
                  try clear c2b0
                  try clear c2b1
                  try clear p2
                  try clear c4
                  try clear c6
                  try clear c11
                  try clear c12
                  try clear c14
                  try clear c15
                  try clear c16
                  try clear c26
                  try clear p2
                  obtain ⟨x44_3, rfl, HA, HK3, HO_42, HB⟩ := hrel
                  cases gk with
                  | zero => exact absurd HA.out (by simp [laws_FnSentencesUsual.l0])
                  | succ k3 =>
                    have H := HA.out
                    clear HA
                    simp only [laws_FnSentencesUsual.l0] at H
                    by_cases c30 : x44_3 < (t195.length : Int)
                    · rw [if_pos c30] at H
                      have c30b0 : decide (x44_3 < (t195.length : Int)) = true := decide_eq_true c30
                      clear c30
                      by_cases c31 : 0 ≤ x44_3
                      · rw [if_pos c31] at H
                        have c31b0 : decide (0 ≤ x44_3) = true := decide_eq_true c31
                        clear c31
                        by_cases c32 : x44_3 < (t195.length : Int)
                        · rw [if_pos c32] at H
                          have c32b0 : decide (x44_3 < (t195.length : Int)) = true := decide_eq_true c32
                          clear c32
                          by_cases c33 : 0 < ((rdOf ByteArray.empty t195 x44_3).size : Int)
                          · rw [if_pos c33] at H
                            have c33b0 : decide (0 < ((rdOf ByteArray.empty t195 x44_3).size : Int)) = true := decide_eq_true c33
                            have c33b1 : decide (0 < (rdOf ByteArray.empty t195 x44_3).size) = true := decide_eq_true (by omega)
                            clear c33
                            by_cases c35 : (bt (rdOf ByteArray.empty t195 x44_3) 0) ≤ 32
                            · rw [if_pos c35] at H
                              have c35b0 : decide ((bt (rdOf ByteArray.empty t195 x44_3) 0) ≤ 32) = true := decide_eq_true c35
                              clear c35
                              obtain rfl := Option.some.inj H
                              have p199 : 0 ≤ (x44_3 : Int) := of_decide_eq_true (by first | (with_reducible assumption) | assumption)
                              have q199 : x44_3 < (t195.length : Int) := of_decide_eq_true (by first | (with_reducible assumption) | assumption)
                              obtain ⟨ad199, e199, hx199_0⟩ := Kd.at_string (Kd.R_reads' HO_42.out).2.2 x44_3 p199 q199
                              cases e199
                              replace p199 := eq_true p199
                              replace q199 := eq_true q199
                              have p34 : 0 ≤ (0 : Int) := (by omega)
                              have q34 : 0 < (rdOf ByteArray.empty t195 x44_3).size := (by have : (0 : Int) < ((rdOf ByteArray.empty t195 x44_3).size : Int) := of_decide_eq_true (by first | (with_reducible assumption) | assumption); omega)
                              have hx34 : ∀ h : 0 < (rdOf ByteArray.empty t195 x44_3).size, (((rdOf ByteArray.empty t195 x44_3)[0]'h).toNat : Int) = bt (rdOf ByteArray.empty t195 x44_3) 0 := bt_at (rdOf ByteArray.empty t195 x44_3) 0
                              clear p34
                              have qi34 : (0 < ((rdOf ByteArray.empty t195 x44_3).size : Int)) = True := eq_true (of_decide_eq_true (by first | (with_reducible assumption) | assumption))
                              replace q34 := eq_true q34
                              go_wp2
                              go_ret
                              exact ⟨by first | rfl | (simp [errW_none, errW_some] <;> rfl) | (simp [*, errW_none, errW_some] <;> rfl), by repeat (first | (with_reducible first | exact HB.out | apply below_alloc | apply pw_below_drewN | apply below_drew1) | exact HB.out)⟩
                            · rw [if_neg c35] at H
                              have c35b0 : decide ((bt (rdOf ByteArray.empty t195 x44_3) 0) ≤ 32) = false := decide_eq_false c35
                              clear c35
                              by_cases c36 : (rdOf ByteArray.empty t195 x44_3).toList = ([227, 128, 128] : List UInt8)
                              · rw [if_pos c36] at H
                                have c36b0 : ((rdOf ByteArray.empty t195 x44_3).toList == ([227, 128, 128] : List UInt8)) = true := beq_iff_eq.mpr c36
                                have c36b1 : ((rdOf ByteArray.empty t195 x44_3).toList != ([227, 128, 128] : List UInt8)) = false := bne_eq_false_iff_eq.mpr c36
                                clear c36
                                obtain rfl := Option.some.inj H
                                have p199 : 0 ≤ (x44_3 : Int) := of_decide_eq_true (by first | (with_reducible assumption) | assumption)
                                have q199 : x44_3 < (t195.length : Int) := of_decide_eq_true (by first | (with_reducible assumption) | assumption)
                                obtain ⟨ad199, e199, hx199_0⟩ := Kd.at_string (Kd.R_reads' HO_42.out).2.2 x44_3 p199 q199
                                cases e199
                                replace p199 := eq_true p199
                                replace q199 := eq_true q199
                                have p34 : 0 ≤ (0 : Int) := (by omega)
                                have q34 : 0 < (rdOf ByteArray.empty t195 x44_3).size := (by have : (0 : Int) < ((rdOf ByteArray.empty t195 x44_3).size : Int) := of_decide_eq_true (by first | (with_reducible assumption) | assumption); omega)
                                have hx34 : ∀ h : 0 < (rdOf ByteArray.empty t195 x44_3).size, (((rdOf ByteArray.empty t195 x44_3)[0]'h).toNat : Int) = bt (rdOf ByteArray.empty t195 x44_3) 0 := bt_at (rdOf ByteArray.empty t195 x44_3) 0
                                clear p34
                                have qi34 : (0 < ((rdOf ByteArray.empty t195 x44_3).size : Int)) = True := eq_true (of_decide_eq_true (by first | (with_reducible assumption) | assumption))
                                replace q34 := eq_true q34
                                go_wp2
                                go_ret
                                exact ⟨by first | rfl | (simp [errW_none, errW_some] <;> rfl) | (simp [*, errW_none, errW_some] <;> rfl), by repeat (first | (with_reducible first | exact HB.out | apply below_alloc | apply pw_below_drewN | apply below_drew1) | exact HB.out)⟩
                              · rw [if_neg c36] at H
                                have c36b0 : ((rdOf ByteArray.empty t195 x44_3).toList == ([227, 128, 128] : List UInt8)) = false := beq_eq_false_iff_ne.mpr c36
                                have c36b1 : ((rdOf ByteArray.empty t195 x44_3).toList != ([227, 128, 128] : List UInt8)) = true := bne_iff_ne.mpr c36
                                by_cases c37 : (rdOf ByteArray.empty t195 x44_3).toList = ([194, 133] : List UInt8)
                                · rw [if_pos c37] at H
                                  have c37b0 : ((rdOf ByteArray.empty t195 x44_3).toList == ([194, 133] : List UInt8)) = true := beq_iff_eq.mpr c37
                                  have c37b1 : ((rdOf ByteArray.empty t195 x44_3).toList != ([194, 133] : List UInt8)) = false := bne_eq_false_iff_eq.mpr c37
                                  clear c37
                                  obtain rfl := Option.some.inj H
                                  have p199 : 0 ≤ (x44_3 : Int) := of_decide_eq_true (by first | (with_reducible assumption) | assumption)
                                  have q199 : x44_3 < (t195.length : Int) := of_decide_eq_true (by first | (with_reducible assumption) | assumption)
                                  obtain ⟨ad199, e199, hx199_0⟩ := Kd.at_string (Kd.R_reads' HO_42.out).2.2 x44_3 p199 q199
                                  cases e199
                                  replace p199 := eq_true p199
                                  replace q199 := eq_true q199
                                  have p34 : 0 ≤ (0 : Int) := (by omega)
                                  have q34 : 0 < (rdOf ByteArray.empty t195 x44_3).size := (by have : (0 : Int) < ((rdOf ByteArray.empty t195 x44_3).size : Int) := of_decide_eq_true (by first | (with_reducible assumption) | assumption); omega)
                                  have hx34 : ∀ h : 0 < (rdOf ByteArray.empty t195 x44_3).size, (((rdOf ByteArray.empty t195 x44_3)[0]'h).toNat : Int) = bt (rdOf ByteArray.empty t195 x44_3) 0 := bt_at (rdOf ByteArray.empty t195 x44_3) 0
                                  clear p34
                                  have qi34 : (0 < ((rdOf ByteArray.empty t195 x44_3).size : Int)) = True := eq_true (of_decide_eq_true (by first | (with_reducible assumption) | assumption))
                                  replace q34 := eq_true q34
                                  go_wp2
                                  go_ret
                                  exact ⟨by first | rfl | (simp [errW_none, errW_some] <;> rfl) | (simp [*, errW_none, errW_some] <;> rfl), by repeat (first | (with_reducible first | exact HB.out | apply below_alloc | apply pw_below_drewN | apply below_drew1) | exact HB.out)⟩
                                · rw [if_neg c37] at H
                                  have c37b0 : ((rdOf ByteArray.empty t195 x44_3).toList == ([194, 133] : List UInt8)) = false := beq_eq_false_iff_ne.mpr c37
                                  have c37b1 : ((rdOf ByteArray.empty t195 x44_3).toList != ([194, 133] : List UInt8)) = true := bne_iff_ne.mpr c37
                                  by_cases c38 : (rdOf ByteArray.empty t195 x44_3).toList = ([194, 160] : List UInt8)
                                  · rw [if_pos c38] at H
                                    have c38b0 : ((rdOf ByteArray.empty t195 x44_3).toList == ([194, 160] : List UInt8)) = true := beq_iff_eq.mpr c38
                                    have c38b1 : ((rdOf ByteArray.empty t195 x44_3).toList != ([194, 160] : List UInt8)) = false := bne_eq_false_iff_eq.mpr c38
                                    clear c38
                                    obtain rfl := Option.some.inj H
                                    have p199 : 0 ≤ (x44_3 : Int) := of_decide_eq_true (by first | (with_reducible assumption) | assumption)
                                    have q199 : x44_3 < (t195.length : Int) := of_decide_eq_true (by first | (with_reducible assumption) | assumption)
                                    obtain ⟨ad199, e199, hx199_0⟩ := Kd.at_string (Kd.R_reads' HO_42.out).2.2 x44_3 p199 q199
                                    cases e199
                                    replace p199 := eq_true p199
                                    replace q199 := eq_true q199
                                    have p34 : 0 ≤ (0 : Int) := (by omega)
                                    have q34 : 0 < (rdOf ByteArray.empty t195 x44_3).size := (by have : (0 : Int) < ((rdOf ByteArray.empty t195 x44_3).size : Int) := of_decide_eq_true (by first | (with_reducible assumption) | assumption); omega)
                                    have hx34 : ∀ h : 0 < (rdOf ByteArray.empty t195 x44_3).size, (((rdOf ByteArray.empty t195 x44_3)[0]'h).toNat : Int) = bt (rdOf ByteArray.empty t195 x44_3) 0 := bt_at (rdOf ByteArray.empty t195 x44_3) 0
                                    clear p34
                                    have qi34 : (0 < ((rdOf ByteArray.empty t195 x44_3).size : Int)) = True := eq_true (of_decide_eq_true (by first | (with_reducible assumption) | assumption))
                                    replace q34 := eq_true q34
                                    go_wp2
                                    go_ret
                                    exact ⟨by first | rfl | (simp [errW_none, errW_some] <;> rfl) | (simp [*, errW_none, errW_some] <;> rfl), by repeat (first | (with_reducible first | exact HB.out | apply below_alloc | apply pw_below_drewN | apply below_drew1) | exact HB.out)⟩
                                  · rw [if_neg c38] at H
                                    have c38b0 : ((rdOf ByteArray.empty t195 x44_3).toList == ([194, 160] : List UInt8)) = false := beq_eq_false_iff_ne.mpr c38
                                    have c38b1 : ((rdOf ByteArray.empty t195 x44_3).toList != ([194, 160] : List UInt8)) = true := bne_iff_ne.mpr c38
                                    by_cases c39 : ((rdOf ByteArray.empty t195 x44_3).size : Int) = 3
                                    · rw [if_pos c39] at H
                                      have c39b0 : (((rdOf ByteArray.empty t195 x44_3).size : Int) == 3) = true := beq_iff_eq.mpr c39
                                      have c39b1 : (((rdOf ByteArray.empty t195 x44_3).size : Int) != 3) = false := bne_eq_false_iff_eq.mpr c39
                                      clear c39
                                      have hgb : (Op.bytesLess (rdOf ByteArray.empty t195 x44_3).toList ([226, 129, 159] : List UInt8) || (rdOf ByteArray.empty t195 x44_3).toList == ([226, 129, 159] : List UInt8)) = !(Op.bytesLess ([226, 129, 159] : List UInt8) (rdOf ByteArray.empty t195 x44_3).toList) := Go.Proofs.YtpjnebmcbeblkaaDoor.Gn.leq_bytes _ _
                                      by_cases c40 : ((Op.bytesLess ((rdOf ByteArray.empty t195 x44_3).toList) ([226, 128, 128] : List UInt8)) = true)
                                      · rw [if_pos c40] at H
                                        have c40b0 : (Op.bytesLess ((rdOf ByteArray.empty t195 x44_3).toList) ([226, 128, 128] : List UInt8)) = true := c40
                                        clear c40
                                        by_cases c41 : (rdOf ByteArray.empty t195 x44_3).toList = ([225, 154, 128] : List UInt8)
                                        · rw [if_pos c41] at H
                                          have c41b0 : ((rdOf ByteArray.empty t195 x44_3).toList == ([225, 154, 128] : List UInt8)) = true := beq_iff_eq.mpr c41
                                          have c41b1 : ((rdOf ByteArray.empty t195 x44_3).toList != ([225, 154, 128] : List UInt8)) = false := bne_eq_false_iff_eq.mpr c41
                                          clear c41
                                          obtain rfl := Option.some.inj H
                                          have p199 : 0 ≤ (x44_3 : Int) := of_decide_eq_true (by first | (with_reducible assumption) | assumption)
                                          have q199 : x44_3 < (t195.length : Int) := of_decide_eq_true (by first | (with_reducible assumption) | assumption)
                                          obtain ⟨ad199, e199, hx199_0⟩ := Kd.at_string (Kd.R_reads' HO_42.out).2.2 x44_3 p199 q199
                                          cases e199
                                          replace p199 := eq_true p199
                                          replace q199 := eq_true q199
                                          have p34 : 0 ≤ (0 : Int) := (by omega)
                                          have q34 : 0 < (rdOf ByteArray.empty t195 x44_3).size := (by have : (0 : Int) < ((rdOf ByteArray.empty t195 x44_3).size : Int) := of_decide_eq_true (by first | (with_reducible assumption) | assumption); omega)
                                          have hx34 : ∀ h : 0 < (rdOf ByteArray.empty t195 x44_3).size, (((rdOf ByteArray.empty t195 x44_3)[0]'h).toNat : Int) = bt (rdOf ByteArray.empty t195 x44_3) 0 := bt_at (rdOf ByteArray.empty t195 x44_3) 0
                                          clear p34
                                          have qi34 : (0 < ((rdOf ByteArray.empty t195 x44_3).size : Int)) = True := eq_true (of_decide_eq_true (by first | (with_reducible assumption) | assumption))
                                          replace q34 := eq_true q34
                                          go_wp2
                                          go_ret
                                          exact ⟨by first | rfl | (simp [errW_none, errW_some] <;> rfl) | (simp [*, errW_none, errW_some] <;> rfl), by repeat (first | (with_reducible first | exact HB.out | apply below_alloc | apply pw_below_drewN | apply below_drew1) | exact HB.out)⟩
                                        · rw [if_neg c41] at H
                                          have c41b0 : ((rdOf ByteArray.empty t195 x44_3).toList == ([225, 154, 128] : List UInt8)) = false := beq_eq_false_iff_ne.mpr c41
                                          have c41b1 : ((rdOf ByteArray.empty t195 x44_3).toList != ([225, 154, 128] : List UInt8)) = true := bne_iff_ne.mpr c41
                                          have H' := Aside0.mk H
                                          clear H
                                          have p199 : 0 ≤ (x44_3 : Int) := of_decide_eq_true (by first | (with_reducible assumption) | assumption)
                                          have q199 : x44_3 < (t195.length : Int) := of_decide_eq_true (by first | (with_reducible assumption) | assumption)
                                          obtain ⟨ad199, e199, hx199_0⟩ := Kd.at_string (Kd.R_reads' HO_42.out).2.2 x44_3 p199 q199
                                          cases e199
                                          replace p199 := eq_true p199
                                          replace q199 := eq_true q199
                                          have p34 : 0 ≤ (0 : Int) := (by omega)
                                          have q34 : 0 < (rdOf ByteArray.empty t195 x44_3).size := (by have : (0 : Int) < ((rdOf ByteArray.empty t195 x44_3).size : Int) := of_decide_eq_true (by first | (with_reducible assumption) | assumption); omega)
                                          have hx34 : ∀ h : 0 < (rdOf ByteArray.empty t195 x44_3).size, (((rdOf ByteArray.empty t195 x44_3)[0]'h).toNat : Int) = bt (rdOf ByteArray.empty t195 x44_3) 0 := bt_at (rdOf ByteArray.empty t195 x44_3) 0
                                          clear p34
                                          have qi34 : (0 < ((rdOf ByteArray.empty t195 x44_3).size : Int)) = True := eq_true (of_decide_eq_true (by first | (with_reducible assumption) | assumption))
                                          replace q34 := eq_true q34
                                          go_wp2
                                          go_roundg k3
                                          case measure => have := HJ3.out; have := HJ12.out; have := HK3.out; omega
                                          case rel => exact ⟨(wrap64 (x44_3 + 1)), (by first | rfl | (simp; done) | (simp [*]; done)), H', ⟨by have := HJ3.out; have := HJ12.out; have := HK3.out; omega⟩, ⟨by (with_reducible repeat (first | apply Kd.R_alloc | apply Kd.R_drewN | apply Kd.R_drew)); exact HO_42.out⟩, ⟨by repeat (first | (with_reducible first | exact HB.out | apply below_alloc | apply pw_below_drewN | apply below_drew1) | exact HB.out)⟩⟩
                                      · rw [if_neg c40] at H
                                        have c40b0 : (Op.bytesLess ((rdOf ByteArray.empty t195 x44_3).toList) ([226, 128, 128] : List UInt8)) = false := by simpa using c40
                                        clear c40
                                        by_cases c42 : ((Op.bytesLess ([226, 129, 159] : List UInt8) ((rdOf ByteArray.empty t195 x44_3).toList)) = true)
                                        · rw [if_pos c42] at H
                                          have c42b0 : (Op.bytesLess ([226, 129, 159] : List UInt8) ((rdOf ByteArray.empty t195 x44_3).toList)) = true := c42
                                          clear c42
                                          by_cases c43 : (rdOf ByteArray.empty t195 x44_3).toList = ([225, 154, 128] : List UInt8)
                                          · rw [if_pos c43] at H
                                            have c43b0 : ((rdOf ByteArray.empty t195 x44_3).toList == ([225, 154, 128] : List UInt8)) = true := beq_iff_eq.mpr c43
                                            have c43b1 : ((rdOf ByteArray.empty t195 x44_3).toList != ([225, 154, 128] : List UInt8)) = false := bne_eq_false_iff_eq.mpr c43
                                            clear c43
                                            obtain rfl := Option.some.inj H
                                            have p199 : 0 ≤ (x44_3 : Int) := of_decide_eq_true (by first | (with_reducible assumption) | assumption)
                                            have q199 : x44_3 < (t195.length : Int) := of_decide_eq_true (by first | (with_reducible assumption) | assumption)
                                            obtain ⟨ad199, e199, hx199_0⟩ := Kd.at_string (Kd.R_reads' HO_42.out).2.2 x44_3 p199 q199
                                            cases e199
                                            replace p199 := eq_true p199
                                            replace q199 := eq_true q199
                                            have p34 : 0 ≤ (0 : Int) := (by omega)
                                            have q34 : 0 < (rdOf ByteArray.empty t195 x44_3).size := (by have : (0 : Int) < ((rdOf ByteArray.empty t195 x44_3).size : Int) := of_decide_eq_true (by first | (with_reducible assumption) | assumption); omega)
                                            have hx34 : ∀ h : 0 < (rdOf ByteArray.empty t195 x44_3).size, (((rdOf ByteArray.empty t195 x44_3)[0]'h).toNat : Int) = bt (rdOf ByteArray.empty t195 x44_3) 0 := bt_at (rdOf ByteArray.empty t195 x44_3) 0
                                            clear p34
                                            have qi34 : (0 < ((rdOf ByteArray.empty t195 x44_3).size : Int)) = True := eq_true (of_decide_eq_true (by first | (with_reducible assumption) | assumption))
                                            replace q34 := eq_true q34
                                            go_wp2
                                            go_ret
                                            exact ⟨by first | rfl | (simp [errW_none, errW_some] <;> rfl) | (simp [*, errW_none, errW_some] <;> rfl), by repeat (first | (with_reducible first | exact HB.out | apply below_alloc | apply pw_below_drewN | apply below_drew1) | exact HB.out)⟩
                                          · rw [if_neg c43] at H
                                            have c43b0 : ((rdOf ByteArray.empty t195 x44_3).toList == ([225, 154, 128] : List UInt8)) = false := beq_eq_false_iff_ne.mpr c43
                                            have c43b1 : ((rdOf ByteArray.empty t195 x44_3).toList != ([225, 154, 128] : List UInt8)) = true := bne_iff_ne.mpr c43
                                            have H' := Aside0.mk H
                                            clear H
                                            have p199 : 0 ≤ (x44_3 : Int) := of_decide_eq_true (by first | (with_reducible assumption) | assumption)
                                            have q199 : x44_3 < (t195.length : Int) := of_decide_eq_true (by first | (with_reducible assumption) | assumption)
                                            obtain ⟨ad199, e199, hx199_0⟩ := Kd.at_string (Kd.R_reads' HO_42.out).2.2 x44_3 p199 q199
                                            cases e199
                                            replace p199 := eq_true p199
                                            replace q199 := eq_true q199
                                            have p34 : 0 ≤ (0 : Int) := (by omega)
                                            have q34 : 0 < (rdOf ByteArray.empty t195 x44_3).size := (by have : (0 : Int) < ((rdOf ByteArray.empty t195 x44_3).size : Int) := of_decide_eq_true (by first | (with_reducible assumption) | assumption); omega)
                                            have hx34 : ∀ h : 0 < (rdOf ByteArray.empty t195 x44_3).size, (((rdOf ByteArray.empty t195 x44_3)[0]'h).toNat : Int) = bt (rdOf ByteArray.empty t195 x44_3) 0 := bt_at (rdOf ByteArray.empty t195 x44_3) 0
                                            clear p34
                                            have qi34 : (0 < ((rdOf ByteArray.empty t195 x44_3).size : Int)) = True := eq_true (of_decide_eq_true (by first | (with_reducible assumption) | assumption))
                                            replace q34 := eq_true q34
                                            go_wp2
                                            go_roundg k3
                                            case measure => have := HJ3.out; have := HJ12.out; have := HK3.out; omega
                                            case rel => exact ⟨(wrap64 (x44_3 + 1)), (by first | rfl | (simp; done) | (simp [*]; done)), H', ⟨by have := HJ3.out; have := HJ12.out; have := HK3.out; omega⟩, ⟨by (with_reducible repeat (first | apply Kd.R_alloc | apply Kd.R_drewN | apply Kd.R_drew)); exact HO_42.out⟩, ⟨by repeat (first | (with_reducible first | exact HB.out | apply below_alloc | apply pw_below_drewN | apply below_drew1) | exact HB.out)⟩⟩
                                        · rw [if_neg c42] at H
                                          have c42b0 : (Op.bytesLess ([226, 129, 159] : List UInt8) ((rdOf ByteArray.empty t195 x44_3).toList)) = false := by simpa using c42
                                          clear c42
                                          obtain rfl := Option.some.inj H
                                          have p199 : 0 ≤ (x44_3 : Int) := of_decide_eq_true (by first | (with_reducible assumption) | assumption)
                                          have q199 : x44_3 < (t195.length : Int) := of_decide_eq_true (by first | (with_reducible assumption) | assumption)
                                          obtain ⟨ad199, e199, hx199_0⟩ := Kd.at_string (Kd.R_reads' HO_42.out).2.2 x44_3 p199 q199
                                          cases e199
                                          replace p199 := eq_true p199
                                          replace q199 := eq_true q199
                                          have p34 : 0 ≤ (0 : Int) := (by omega)
                                          have q34 : 0 < (rdOf ByteArray.empty t195 x44_3).size := (by have : (0 : Int) < ((rdOf ByteArray.empty t195 x44_3).size : Int) := of_decide_eq_true (by first | (with_reducible assumption) | assumption); omega)
                                          have hx34 : ∀ h : 0 < (rdOf ByteArray.empty t195 x44_3).size, (((rdOf ByteArray.empty t195 x44_3)[0]'h).toNat : Int) = bt (rdOf ByteArray.empty t195 x44_3) 0 := bt_at (rdOf ByteArray.empty t195 x44_3) 0
                                          clear p34
                                          have qi34 : (0 < ((rdOf ByteArray.empty t195 x44_3).size : Int)) = True := eq_true (of_decide_eq_true (by first | (with_reducible assumption) | assumption))
                                          replace q34 := eq_true q34
                                          go_wp2
                                          go_ret
                                          exact ⟨by first | rfl | (simp [errW_none, errW_some] <;> rfl) | (simp [*, errW_none, errW_some] <;> rfl), by repeat (first | (with_reducible first | exact HB.out | apply below_alloc | apply pw_below_drewN | apply below_drew1) | exact HB.out)⟩
                                    · rw [if_neg c39] at H
                                      have c39b0 : (((rdOf ByteArray.empty t195 x44_3).size : Int) == 3) = false := beq_eq_false_iff_ne.mpr c39
                                      have c39b1 : (((rdOf ByteArray.empty t195 x44_3).size : Int) != 3) = true := bne_iff_ne.mpr c39
                                      by_cases c44 : (rdOf ByteArray.empty t195 x44_3).toList = ([225, 154, 128] : List UInt8)
                                      · rw [if_pos c44] at H
                                        have c44b0 : ((rdOf ByteArray.empty t195 x44_3).toList == ([225, 154, 128] : List UInt8)) = true := beq_iff_eq.mpr c44
                                        have c44b1 : ((rdOf ByteArray.empty t195 x44_3).toList != ([225, 154, 128] : List UInt8)) = false := bne_eq_false_iff_eq.mpr c44
                                        clear c44
                                        obtain rfl := Option.some.inj H
                                        have p199 : 0 ≤ (x44_3 : Int) := of_decide_eq_true (by first | (with_reducible assumption) | assumption)
                                        have q199 : x44_3 < (t195.length : Int) := of_decide_eq_true (by first | (with_reducible assumption) | assumption)
                                        obtain ⟨ad199, e199, hx199_0⟩ := Kd.at_string (Kd.R_reads' HO_42.out).2.2 x44_3 p199 q199
                                        cases e199
                                        replace p199 := eq_true p199
                                        replace q199 := eq_true q199
                                        have p34 : 0 ≤ (0 : Int) := (by omega)
                                        have q34 : 0 < (rdOf ByteArray.empty t195 x44_3).size := (by have : (0 : Int) < ((rdOf ByteArray.empty t195 x44_3).size : Int) := of_decide_eq_true (by first | (with_reducible assumption) | assumption); omega)
                                        have hx34 : ∀ h : 0 < (rdOf ByteArray.empty t195 x44_3).size, (((rdOf ByteArray.empty t195 x44_3)[0]'h).toNat : Int) = bt (rdOf ByteArray.empty t195 x44_3) 0 := bt_at (rdOf ByteArray.empty t195 x44_3) 0
                                        clear p34
                                        have qi34 : (0 < ((rdOf ByteArray.empty t195 x44_3).size : Int)) = True := eq_true (of_decide_eq_true (by first | (with_reducible assumption) | assumption))
                                        replace q34 := eq_true q34
                                        go_wp2
                                        go_ret
                                        exact ⟨by first | rfl | (simp [errW_none, errW_some] <;> rfl) | (simp [*, errW_none, errW_some] <;> rfl), by repeat (first | (with_reducible first | exact HB.out | apply below_alloc | apply pw_below_drewN | apply below_drew1) | exact HB.out)⟩
                                      · rw [if_neg c44] at H
                                        have c44b0 : ((rdOf ByteArray.empty t195 x44_3).toList == ([225, 154, 128] : List UInt8)) = false := beq_eq_false_iff_ne.mpr c44
                                        have c44b1 : ((rdOf ByteArray.empty t195 x44_3).toList != ([225, 154, 128] : List UInt8)) = true := bne_iff_ne.mpr c44
                                        have H' := Aside0.mk H
                                        clear H
                                        have p199 : 0 ≤ (x44_3 : Int) := of_decide_eq_true (by first | (with_reducible assumption) | assumption)
                                        have q199 : x44_3 < (t195.length : Int) := of_decide_eq_true (by first | (with_reducible assumption) | assumption)
                                        obtain ⟨ad199, e199, hx199_0⟩ := Kd.at_string (Kd.R_reads' HO_42.out).2.2 x44_3 p199 q199
                                        cases e199
                                        replace p199 := eq_true p199
                                        replace q199 := eq_true q199
                                        have p34 : 0 ≤ (0 : Int) := (by omega)
                                        have q34 : 0 < (rdOf ByteArray.empty t195 x44_3).size := (by have : (0 : Int) < ((rdOf ByteArray.empty t195 x44_3).size : Int) := of_decide_eq_true (by first | (with_reducible assumption) | assumption); omega)
                                        have hx34 : ∀ h : 0 < (rdOf ByteArray.empty t195 x44_3).size, (((rdOf ByteArray.empty t195 x44_3)[0]'h).toNat : Int) = bt (rdOf ByteArray.empty t195 x44_3) 0 := bt_at (rdOf ByteArray.empty t195 x44_3) 0
                                        clear p34
                                        have qi34 : (0 < ((rdOf ByteArray.empty t195 x44_3).size : Int)) = True := eq_true (of_decide_eq_true (by first | (with_reducible assumption) | assumption))
                                        replace q34 := eq_true q34
                                        go_wp2
                                        go_roundg k3
                                        case measure => have := HJ3.out; have := HJ12.out; have := HK3.out; omega
                                        case rel => exact ⟨(wrap64 (x44_3 + 1)), (by first | rfl | (simp; done) | (simp [*]; done)), H', ⟨by have := HJ3.out; have := HJ12.out; have := HK3.out; omega⟩, ⟨by (with_reducible repeat (first | apply Kd.R_alloc | apply Kd.R_drewN | apply Kd.R_drew)); exact HO_42.out⟩, ⟨by repeat (first | (with_reducible first | exact HB.out | apply below_alloc | apply pw_below_drewN | apply below_drew1) | exact HB.out)⟩⟩
                          · rw [if_neg c33] at H
                            exact absurd H (by simp)
                        · rw [if_neg c32] at H
                          exact absurd H (by simp)
                      · rw [if_neg c31] at H
                        exact absurd H (by simp)
                    · rw [if_neg c30] at H
                      have c30b0 : decide (x44_3 < (t195.length : Int)) = false := decide_eq_false c30
                      clear c30
                      replace H := Option.bind_eq_some_iff.mp H
                      obtain ⟨⟨t200, t201⟩, A450, H⟩ := H
                      replace H : (laws_FnSentencesUsual.l1 k3 a0 t200 t201 t200 (t200.length : Int) 0) = some r := H
                      have A45 := Aside0.mk A450
                      clear A450
                      have H' := Aside0.mk H
                      clear H
                      go_wp2_with (first | ((with_reducible refine gate_callee (f := 14) rfl ?_); refine goesL_ (some 83) rfl rfl Tryd.func14 (by kernel_rfl) rfl #[.string a0] rfl (by (try simp only [List.map_toArray, List.map_cons, List.map_nil]); first | done | rfl | (simp only [List.length_drop, List.length_take]; rfl)) ?_; (with_reducible refine (impl_SentencesUsual.calls a0 t200 t201 _ (HT_.out _ (by repeat (first | (with_reducible first | exact HB.out | apply below_alloc | apply pw_below_drewN | apply below_drew1) | exact HB.out))) A45.out).mono ?_); rintro e w46 ⟨v202, rfl, ho0, hb⟩; refine ⟨_, rfl, ?_⟩; have n0_ := Aside0.mk (Kd.R_elder' (by (with_reducible repeat (first | apply Kd.R_alloc | apply Kd.R_drewN | apply Kd.R_drew)); exact HO_42.out) (by first | exact Kd.N_base ho0 | exact Kd.S_base ho0 | exact Kd.R_base ho0) hb); have n1_ := Aside0.mk (Kd.R_lower (Kd.R_new' ho0 (Kd.R_lt (by (with_reducible repeat (first | apply Kd.R_alloc | apply Kd.R_drewN | apply Kd.R_drew)); exact HO_42.out))) (below_size (by repeat (first | (with_reducible first | exact HB.out | apply below_alloc | apply pw_below_drewN | apply below_drew1) | exact HB.out)))); have n2_ := Aside0.mk (below_step (by repeat (first | (with_reducible first | exact HB.out | apply below_alloc | apply pw_below_drewN | apply below_drew1) | exact HB.out)) hb); clear HO_42; clear HB; have HO_42 := n0_; have HO203 := n1_; have HB := n2_; clear n0_ n1_ n2_; (try clear hb); (try clear hb2); (try clear hk); (try clear hi); (try clear ho0); obtain ⟨Ao47, co47, eo47⟩ := Kd.R_slice HO203.out; subst eo47))
                      go_loopg [88] k3 (fun kq v88 w' => ∃ (x88_4 : Int), v88 = .int .i64 x88_4 ∧ Aside0 (laws_FnSentencesUsual.l1 kq a0 t200 t201 t200 (t200.length : Int) x88_4 = some r) ∧ Aside0 (kq ≤ k3) ∧ Aside0 (Kd.R Kd.string 9 w' w.heap.size (fun _ => True) (.slice Ao47 t200.length co47) t200) ∧ Aside0 (Kd.R Kd.string 9 w' w.heap.size (fun _ => True) (.slice Ao47 t200.length co47) t200) ∧ Aside0 (Below w.heap.size w w'))
                      case atStart => exact ⟨(0), (by first | rfl | (simp; done) | (simp [*]; done)), H', ⟨Nat.le_refl _⟩, ⟨by (with_reducible repeat (first | apply Kd.R_alloc | apply Kd.R_drewN | apply Kd.R_drew)); exact Kd.R_mono HO203.out (fun _ hk => trivial)⟩, ⟨by (with_reducible repeat (first | apply Kd.R_alloc | apply Kd.R_drewN | apply Kd.R_drew)); exact Kd.R_mono HO203.out (fun _ hk => trivial)⟩, ⟨by repeat (first | (with_reducible first | exact HB.out | apply below_alloc | apply pw_below_drewN | apply below_drew1) | exact HB.out)⟩⟩
                      case round =>
                        clear H'
                        try clear c1
                        try clear p1
                        try clear q1
                        try clear hx1
                        try clear c2
                        try clear c2b0
                        try clear c2b1
                        try clear p2
                        try clear c3
                        try clear p3
                        try clear q3
                        try clear hx3
                        try clear qi3
                        try clear c4
                        try clear c6
                        try clear p6
                        try clear c11
                        try clear c12
                        try clear c14
                        try clear c15
                        try clear c16
                        try clear p19
                        try clear q19
                        try clear hx19
                        try clear c26
                        try clear c30
                        try clear c30b0
                        try clear c31
                        try clear c31b0
                        try clear c32
                        try clear c32b0
                        try clear c33
                        try clear c33b0
                        try clear c33b1
                        try clear p34
                        try clear q34
                        try clear hx34
                        try clear qi34
                        try clear c35
                        try clear c35b0
                        try clear c36
                        try clear c36b0
                        try clear c36b1
                        try clear c37
                        try clear c37b0
                        try clear c37b1
                        try clear c38
                        try clear c38b0
                        try clear c38b1
                        try clear c39
                        try clear c39b0
                        try clear c39b1
                        try clear c40
                        try clear c40b0
                        try clear c41
                        try clear c41b0
                        try clear c41b1
                        try clear c42
                        try clear c42b0
                        try clear c43
                        try clear c43b0
                        try clear c43b1
                        try clear c44
                        try clear c44b0
                        try clear c44b1
                        try clear hx199_0
                        try clear p199
                        try clear p2
                        try clear p34
                        try clear q199
                        try clear q34
                        obtain ⟨x88_4, rfl, HA, HK4, HO_9, HO_86, HB⟩ := hrel
                        cases gk with
                        | zero => exact absurd HA.out (by simp [laws_FnSentencesUsual.l1])
                        | succ k4 =>
                          have H := HA.out
                          clear HA
                          simp only [laws_FnSentencesUsual.l1] at H
                          by_cases c48 : x88_4 < (t200.length : Int)
                          · rw [if_pos c48] at H
                            have c48b0 : decide (x88_4 < (t200.length : Int)) = true := decide_eq_true c48
                            clear c48
                            by_cases c49 : 0 ≤ x88_4
                            · rw [if_pos c49] at H
                              have c49b0 : decide (0 ≤ x88_4) = true := decide_eq_true c49
                              clear c49
                              by_cases c50 : x88_4 < (t200.length : Int)
                              · rw [if_pos c50] at H
                                have c50b0 : decide (x88_4 < (t200.length : Int)) = true := decide_eq_true c50
                                clear c50
                                by_cases c51 : (rdOf ByteArray.empty t200 x88_4).toList = ([] : List UInt8)
                                · rw [if_pos c51] at H
                                  have c51b0 : ((rdOf ByteArray.empty t200 x88_4).toList == ([] : List UInt8)) = true := beq_iff_eq.mpr c51
                                  have c51b1 : ((rdOf ByteArray.empty t200 x88_4).toList != ([] : List UInt8)) = false := bne_eq_false_iff_eq.mpr c51
                                  clear c51
                                  obtain rfl := Option.some.inj H
                                  have p204 : 0 ≤ (x88_4 : Int) := of_decide_eq_true (by first | (with_reducible assumption) | assumption)
                                  have q204 : x88_4 < (t200.length : Int) := of_decide_eq_true (by first | (with_reducible assumption) | assumption)
                                  obtain ⟨ad204, e204, hx204_0⟩ := Kd.at_string (Kd.R_reads' HO_86.out).2.2 x88_4 p204 q204
                                  cases e204
                                  replace p204 := eq_true p204
                                  replace q204 := eq_true q204
                                  go_wp2
                                  go_ret
                                  exact ⟨by first | rfl | (simp [errW_none, errW_some] <;> rfl) | (simp [*, errW_none, errW_some] <;> rfl), by repeat (first | (with_reducible first | exact HB.out | apply below_alloc | apply pw_below_drewN | apply below_drew1) | exact HB.out)⟩
                                · rw [if_neg c51] at H
                                  have c51b0 : ((rdOf ByteArray.empty t200 x88_4).toList == ([] : List UInt8)) = false := beq_eq_false_iff_ne.mpr c51
                                  have c51b1 : ((rdOf ByteArray.empty t200 x88_4).toList != ([] : List UInt8)) = true := bne_iff_ne.mpr c51
                                  have H' := Aside0.mk H
                                  clear H
                                  have p204 : 0 ≤ (x88_4 : Int) := of_decide_eq_true (by first | (with_reducible assumption) | assumption)
                                  have q204 : x88_4 < (t200.length : Int) := of_decide_eq_true (by first | (with_reducible assumption) | assumption)
                                  obtain ⟨ad204, e204, hx204_0⟩ := Kd.at_string (Kd.R_reads' HO_86.out).2.2 x88_4 p204 q204
                                  cases e204
                                  replace p204 := eq_true p204
                                  replace q204 := eq_true q204
                                  go_wp2
                                  go_roundg k4
                                  case measure => have := HJ3.out; have := HJ12.out; have := HK3.out; have := HK4.out; omega
                                  case rel => exact ⟨(wrap64 (x88_4 + 1)), (by first | rfl | (simp; done) | (simp [*]; done)), H', ⟨by have := HJ3.out; have := HJ12.out; have := HK3.out; have := HK4.out; omega⟩, ⟨by (with_reducible repeat (first | apply Kd.R_alloc | apply Kd.R_drewN | apply Kd.R_drew)); exact HO_9.out⟩, ⟨by (with_reducible repeat (first | apply Kd.R_alloc | apply Kd.R_drewN | apply Kd.R_drew)); exact HO_86.out⟩, ⟨by repeat (first | (with_reducible first | exact HB.out | apply below_alloc | apply pw_below_drewN | apply below_drew1) | exact HB.out)⟩⟩
                              · rw [if_neg c50] at H
                                exact absurd H (by simp)
                            · rw [if_neg c49] at H
                              exact absurd H (by simp)
                          · rw [if_neg c48] at H
                            have c48b0 : decide (x88_4 < (t200.length : Int)) = false := decide_eq_false c48
                            clear c48
                            by_cases c52 : t201 = true
                            · subst c52
                              have H1 : ((laws_joined.f k4 t200).bind fun t205 => (some (t205.toList == a0.toList))) = some r := by rw [if_pos rfl] at H; exact H
                              clear H
                              have H := H1
                              clear H1
                              replace H := Option.bind_eq_some_iff.mp H
                              obtain ⟨t205, A530, H⟩ := H
                              replace H : (some (t205.toList == a0.toList)) = some r := H
                              have A53 := Aside0.mk A530
                              clear A530
                              obtain rfl := Option.some.inj H
                              go_wp2_with (first | (go_at_call 18; (with_reducible refine (laws_joined.calls k4 _ _ t200 t205 _ ?side1 ?side2 A53.out).mono ?_); (case side1 => repeat (first | exact (Kd.R_reads' HO_9.out).2.2 | (with_reducible refine Kd.C_alloc ?_ _) | (with_reducible refine Kd.C_drewN ?_ _) | (with_reducible refine Kd.C_drew ?_))); (case side2 => exact (Kd.R_reads' HO_9.out).2.1); rintro e w' ⟨rfl, ⟨nd, rfl⟩⟩))
                              go_ret
                              exact ⟨by first | rfl | (simp [errW_none, errW_some] <;> rfl) | (simp [*, errW_none, errW_some] <;> rfl), by repeat (first | (with_reducible first | exact HB.out | apply below_alloc | apply pw_below_drewN | apply below_drew1) | exact HB.out)⟩
                            · replace c52 := Bool.eq_false_iff.mpr c52
                              subst c52
                              have H1 : (some false) = some r := by rw [if_neg (show ¬ (false = true) by decide)] at H; exact H
                              clear H
                              have H := H1
                              clear H1
                              obtain rfl := Option.some.inj H
                              go_wp2
                              go_ret
                              exact ⟨by first | rfl | (simp [errW_none, errW_some] <;> rfl) | (simp [*, errW_none, errW_some] <;> rfl), by repeat (first | (with_reducible first | exact HB.out | apply below_alloc | apply pw_below_drewN | apply below_drew1) | exact HB.out)⟩

/-- THE ONE PURE STATEMENT of laws_FnSentencesUsual: yours. -/
def laws_FnSentencesUsual.Pure : Prop := ∀ (a0 : ByteArray), a0.size ≤ 140737488351232 → ∃ k, laws_FnSentencesUsual.f k a0 = some true

end Go.Proofs.YtpjnebmcbeblkaaDoor.P
