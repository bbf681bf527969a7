-- PRINTED by print.py (a twelfth state) out of the translation. Not trusted: Lean checks it.
import Derived.Test.YthecfligfhpccaaDoorP0
import Derived.Test.YthecfligfhpccaaDoorP7
import Derived.Test.YthecfligfhpccaaDoorP9
import Derived.Test.YthecfligfhpccaaDoorELow
import Derived.Test.YthecfligfhpccaaDoorEPar
import Derived.Test.YthecfligfhpccaaDoorLaidB
namespace Go.Proofs.YthecfligfhpccaaDoor.P
open Go.RowKit Go.Proofs.YthecfligfhpccaaDoorW.PrintWords Go.Proofs.YthecfligfhpccaaDoorW.PrintLast Go.Proofs.YthecfligfhpccaaDoorW.PrintMore
attribute [local go_sem] max2_int min2_int max_two min_two max_three min_three max_four min_four   -- for this text's walks alone
set_option linter.unusedVariables false
set_option linter.unusedSimpArgs false

/-! ### laws_FnPartsJoin: function 4 -/
mutual
def laws_FnPartsJoin.j0 : Nat → ByteArray → Bool → Bool → Bool → Bool → Option (Bool)
  | 0, _, _, _, _, _ => none
  | k + 1, x0, x1, x2, x3, x25 => if x25 = true then (some false) else ((laws_clean.f k 300 (([x0] : List ByteArray))).bind fun t149 => (if t149 = true then ((impl_Parts.f x0 x1 x2 x3).bind fun t150 => (laws_FnPartsJoin.l0 k x0 t150 t150 (t150.length : Int) 0)) else (some true)))
def laws_FnPartsJoin.l0 : Nat → ByteArray → List ByteArray → List ByteArray → Int → Int → Option (Bool)
  | 0, _, _, _, _, _ => none
  | k + 1, x0, x10, x35, x36, x37 => if x37 < x36 then (if 0 ≤ x37 then (if x37 < (x35.length : Int) then (if (rdOf ByteArray.empty x35 x37).toList = ([] : List UInt8) then (some false) else (laws_FnPartsJoin.l0 k x0 x10 x35 x36 (wrap64 (x37 + 1)))) else (none)) else (none)) else ((laws_joined.f k x10).bind fun t154 => ((laws_lowered.f t154).bind fun t155 => ((laws_lowered.f x0).bind fun t156 => (some (t155.toList == t156.toList)))))
end
def laws_FnPartsJoin.f (k : Nat) (a0 : ByteArray) (a1 : Bool) (a2 : Bool) (a3 : Bool) : Option (Bool) := if (a0.size : Int) > 2147483647 then (some true) else ((impl_Parts.f (⟨#[65, 98, 32, 99]⟩ : ByteArray) false false false).bind fun t141 => (if (t141.length : Int) = 0 then (laws_FnPartsJoin.j0 k a0 a1 a2 a3 true) else ((laws_joined.f k t141).bind fun t144 => ((laws_lowered.f t144).bind fun t145 => (laws_FnPartsJoin.j0 k a0 a1 a2 a3 (t145.toList != ([97, 98, 32, 99] : List UInt8)))))))
theorem laws_FnPartsJoin.mono_l : ∀ k, (∀ y0 y1 y2 y3 y4, LeO (laws_FnPartsJoin.j0 k y0 y1 y2 y3 y4) (laws_FnPartsJoin.j0 (k + 1) y0 y1 y2 y3 y4)) ∧ (∀ y0 y1 y2 y3 y4, LeO (laws_FnPartsJoin.l0 k y0 y1 y2 y3 y4) (laws_FnPartsJoin.l0 (k + 1) y0 y1 y2 y3 y4))
  | 0 => ⟨fun _ _ _ _ _ r h => by simp [laws_FnPartsJoin.j0] at h, fun _ _ _ _ _ r h => by simp [laws_FnPartsJoin.l0] at h⟩
  | k + 1 => by
    obtain ⟨ih0, ih1⟩ := laws_FnPartsJoin.mono_l k
    refine ⟨?_, ?_⟩
    · intro y0 y1 y2 y3 y4
      unfold laws_FnPartsJoin.j0
      repeat' first
      | (with_reducible exact ih0 _ _ _ _ _)
      | (with_reducible exact ih1 _ _ _ _ _)
      | (with_reducible exact laws_clean.mono _ _ _)
      | (with_reducible exact laws_joined.mono _ _)
      | (with_reducible exact LeO.refl _)
      | (with_reducible exact LeO.none _)
      | (with_reducible refine LeO.ite ?_ ?_)
      | (with_reducible refine LeO.bind ?_ (fun _ => ?_))
      | exact ih0 _ _ _ _ _
      | exact ih1 _ _ _ _ _
      | exact laws_clean.mono _ _ _
      | exact laws_joined.mono _ _
      | exact LeO.none _
      | refine LeO.ite ?_ ?_
      | refine LeO.bind ?_ (fun _ => ?_)
    · intro y0 y1 y2 y3 y4
      unfold laws_FnPartsJoin.l0
      repeat' first
      | (with_reducible exact ih0 _ _ _ _ _)
      | (with_reducible exact ih1 _ _ _ _ _)
      | (with_reducible exact laws_clean.mono _ _ _)
      | (with_reducible exact laws_joined.mono _ _)
      | (with_reducible exact LeO.refl _)
      | (with_reducible exact LeO.none _)
      | (with_reducible refine LeO.ite ?_ ?_)
      | (with_reducible refine LeO.bind ?_ (fun _ => ?_))
      | exact ih0 _ _ _ _ _
      | exact ih1 _ _ _ _ _
      | exact laws_clean.mono _ _ _
      | exact laws_joined.mono _ _
      | exact LeO.none _
      | refine LeO.ite ?_ ?_
      | refine LeO.bind ?_ (fun _ => ?_)
theorem laws_FnPartsJoin.mono : ∀ a0 a1 a2 a3 k, LeO (laws_FnPartsJoin.f k a0 a1 a2 a3) (laws_FnPartsJoin.f (k + 1) a0 a1 a2 a3) := by
  intro a0 a1 a2 a3 k
  obtain ⟨ih0, ih1⟩ := laws_FnPartsJoin.mono_l k
  unfold laws_FnPartsJoin.f
  repeat' first
      | (with_reducible exact ih0 _ _ _ _ _)
      | (with_reducible exact ih1 _ _ _ _ _)
      | (with_reducible exact laws_clean.mono _ _ _)
      | (with_reducible exact laws_joined.mono _ _)
      | (with_reducible exact LeO.refl _)
      | (with_reducible exact LeO.none _)
      | (with_reducible refine LeO.ite ?_ ?_)
      | (with_reducible refine LeO.bind ?_ (fun _ => ?_))
      | exact ih0 _ _ _ _ _
      | exact ih1 _ _ _ _ _
      | exact laws_clean.mono _ _ _
      | exact laws_joined.mono _ _
      | exact LeO.none _
      | refine LeO.ite ?_ ?_
      | refine LeO.bind ?_ (fun _ => ?_)
set_option maxHeartbeats 8000000 in
set_option maxRecDepth 100000 in
theorem laws_FnPartsJoin.calls (k : Nat) (a0 : ByteArray) (a1 : Bool) (a2 : Bool) (a3 : Bool) (r : Bool) (w : World) (ht_ : Go.Proofs.YthecfligfhpccaaDoor.X.Tabs w) (h : laws_FnPartsJoin.f k a0 a1 a2 a3 = some r) :
    Calls Tryd.prog 4 #[.string a0, .bool a1, .bool a2, .bool a3] w fun e w' => e = .returned (.bool r) ∧ Below w.heap.size w w' := by
  have HT_ : Aside0 (∀ W_, Below w.heap.size w W_ → Go.Proofs.YthecfligfhpccaaDoor.X.Tabs W_) := ⟨fun W_ h_ => ht_.below h_⟩
  clear ht_
  have HB := Aside0.mk (Below.refl w.heap.size w)
  have H : (if (a0.size : Int) > 2147483647 then (some true) else ((impl_Parts.f (⟨#[65, 98, 32, 99]⟩ : ByteArray) false false false).bind fun t141 => (if (t141.length : Int) = 0 then (laws_FnPartsJoin.j0 k a0 a1 a2 a3 true) else ((laws_joined.f k t141).bind fun t144 => ((laws_lowered.f t144).bind fun t145 => (laws_FnPartsJoin.j0 k a0 a1 a2 a3 (t145.toList != ([97, 98, 32, 99] : List UInt8)))))))) = some r := h
  clear h
  by_cases c5 : (a0.size : Int) > 2147483647
  · rw [if_pos c5] at H
    have c5b0 : decide (2147483647 < (a0.size : Int)) = true := decide_eq_true c5
    have c5b1 : decide (2147483647 < a0.size) = true := decide_eq_true (by omega)
    clear c5
    obtain rfl := Option.some.inj H
    go_enter Tryd.func4, Tryd.ntmps4
    go_wp2
    go_ret
    exact ⟨by first | rfl | (simp [errW_none, errW_some] <;> rfl) | (simp [*, errW_none, errW_some] <;> rfl), by repeat (first | (with_reducible first | exact HB.out | apply below_alloc | apply pw_below_drewN | apply below_drew1) | exact HB.out)⟩
  · rw [if_neg c5] at H
    have c5b0 : decide (2147483647 < (a0.size : Int)) = false := decide_eq_false c5
    have c5b1 : decide (2147483647 < a0.size) = false := decide_eq_false (by omega)
    clear c5
    replace H := Option.bind_eq_some_iff.mp H
    obtain ⟨t141, A60, H⟩ := H
    replace H : (if (t141.length : Int) = 0 then (laws_FnPartsJoin.j0 k a0 a1 a2 a3 true) else ((laws_joined.f k t141).bind fun t144 => ((laws_lowered.f t144).bind fun t145 => (laws_FnPartsJoin.j0 k a0 a1 a2 a3 (t145.toList != ([97, 98, 32, 99] : List UInt8)))))) = some r := H
    have A6 := Aside0.mk A60
    clear A60
    have HC7 := Aside0.mk H
    clear H
    go_enter Tryd.func4, Tryd.ntmps4
    go_upto_region 4 with (first | ((with_reducible refine gate_callee (f := 6) rfl ?_); refine goesL_ (some 16) rfl rfl Tryd.func6 (by kernel_rfl) rfl #[.string (⟨#[65, 98, 32, 99]⟩ : ByteArray), .bool false, .bool false, .bool false] rfl (by (try simp only [List.map_toArray, List.map_cons, List.map_nil]); first | done | rfl | (simp only [List.length_drop, List.length_take]; rfl)) ?_; (with_reducible refine (impl_Parts.calls (⟨#[65, 98, 32, 99]⟩ : ByteArray) false false false t141 _ (HT_.out _ (by repeat (first | (with_reducible first | exact HB.out | apply below_alloc | apply pw_below_drewN | apply below_drew1) | exact HB.out))) A6.out).mono ?_); rintro e w8 ⟨v142, rfl, ho0, hb⟩; refine ⟨_, rfl, ?_⟩; have n0_ := Aside0.mk (Kd.R_lower ho0 (below_size (by repeat (first | (with_reducible first | exact HB.out | apply below_alloc | apply pw_below_drewN | apply below_drew1) | exact HB.out)))); have n1_ := Aside0.mk (below_step (by repeat (first | (with_reducible first | exact HB.out | apply below_alloc | apply pw_below_drewN | apply below_drew1) | exact HB.out)) hb); clear HB; have HO143 := n0_; have HB := n1_; clear n0_ n1_; (try clear hb); (try clear hb2); (try clear hk); (try clear hi); (try clear ho0)))
    (try simp only [Act.put, List.setIfInBounds_toArray, List.set_cons_zero, List.set_cons_succ])
    go_cut [25] (fun v25 wc => ∃ (kq : Nat) (x25_6 : Bool), v25 = .bool x25_6 ∧ Aside0 (laws_FnPartsJoin.j0 kq a0 a1 a2 a3 x25_6 = some r) ∧ Aside0 (kq ≤ k) ∧ Aside0 (Below w.heap.size w wc))
    case first =>
      have H := HC7.out
      clear HC7
      by_cases c9 : (t141.length : Int) = 0
      · rw [if_pos c9] at H
        have c9b0 : ((t141.length : Int) == 0) = true := beq_iff_eq.mpr c9
        have c9b1 : ((t141.length : Int) != 0) = false := bne_eq_false_iff_eq.mpr c9
        clear c9
        (first | rw [c9b0] | (simp only [i64_w, i32_w]; rw [c9b0]) | skip)
        have H' := Aside0.mk H
        clear H
        obtain ⟨Ao10, co10, eo10⟩ := Kd.R_slice HO143.out
        subst eo10
        go_wp2
        go_meet
        case rel => exact ⟨_, (true), (by first | rfl | (simp; done) | (simp [*]; done)), H', ⟨by first | omega | exact Nat.le_refl _⟩, ⟨by repeat (first | (with_reducible first | exact HB.out | apply below_alloc | apply pw_below_drewN | apply below_drew1) | exact HB.out)⟩⟩
      · rw [if_neg c9] at H
        have c9b0 : ((t141.length : Int) == 0) = false := beq_eq_false_iff_ne.mpr c9
        have c9b1 : ((t141.length : Int) != 0) = true := bne_iff_ne.mpr c9
        have c9b2 : ¬ (t141 = []) := fun h_ => c9 (by rw [h_]; rfl)
        (first | rw [c9b0] | (simp only [i64_w, i32_w]; rw [c9b0]) | skip)
        replace H := Option.bind_eq_some_iff.mp H
        obtain ⟨t144, A110, H⟩ := H
        replace H : ((laws_lowered.f t144).bind fun t145 => (laws_FnPartsJoin.j0 k a0 a1 a2 a3 (t145.toList != ([97, 98, 32, 99] : List UInt8)))) = some r := H
        have A11 := Aside0.mk A110
        clear A110
        replace H := Option.bind_eq_some_iff.mp H
        obtain ⟨t145, A120, H⟩ := H
        replace H : (laws_FnPartsJoin.j0 k a0 a1 a2 a3 (t145.toList != ([97, 98, 32, 99] : List UInt8))) = some r := H
        have A12 := Aside0.mk A120
        clear A120
        have H' := Aside0.mk H
        clear H
        obtain ⟨Ao13, co13, eo13⟩ := Kd.R_slice HO143.out
        subst eo13
        go_wp2_with (first | (go_at_call 9; (with_reducible refine (laws_joined.calls k _ _ t141 t144 _ ?side1 ?side2 A11.out).mono ?_); (case side1 => repeat (first | exact (Kd.R_reads' HO143.out).2.2 | (with_reducible refine Kd.C_alloc ?_ _) | (with_reducible refine Kd.C_drewN ?_ _) | (with_reducible refine Kd.C_drew ?_))); (case side2 => exact (Kd.R_reads' HO143.out).2.1); rintro e w' ⟨rfl, ⟨nd, rfl⟩⟩) | (go_at_call 8; (with_reducible refine (laws_lowered.calls t144 t145 _ A12.out).mono ?_); rintro e w14 ⟨rfl, hb⟩; have n0_ := Aside0.mk (Kd.R_below (by (with_reducible repeat (first | apply Kd.R_alloc | apply Kd.R_drewN | apply Kd.R_drew)); exact HO143.out) hb); have n1_ := Aside0.mk (below_step (by repeat (first | (with_reducible first | exact HB.out | apply below_alloc | apply pw_below_drewN | apply below_drew1) | exact HB.out)) hb); clear HO143; clear HB; have HO143 := n0_; have HB := n1_; clear n0_ n1_; (try clear hb); (try clear hb2); (try clear hk); (try clear hi)))
        go_meet
        case rel => exact ⟨_, ((t145.toList != ([97, 98, 32, 99] : List UInt8))), (by first | rfl | (simp; done) | (simp [*]; done)), H', ⟨by first | omega | exact Nat.le_refl _⟩, ⟨by repeat (first | (with_reducible first | exact HB.out | apply below_alloc | apply pw_below_drewN | apply below_drew1) | exact HB.out)⟩⟩
    case rest =>
      clear HC7
      try clear p2
      try clear c4
      try clear c5
      try clear c5b0
      try clear c5b1
      try clear c6
      try clear c9
      try clear c9b0
      try clear c9b1
      try clear c9b2
      obtain ⟨kq, x25_6, rfl, HA, HJ6, HB⟩ := hcut
      cases kq with
      | zero => exact absurd HA.out (by simp [laws_FnPartsJoin.j0])
      | succ kj6 =>
        have H := HA.out
        clear HA
        simp only [laws_FnPartsJoin.j0] at H
        by_cases c15 : x25_6 = true
        · subst c15
          have H1 : (some false) = some r := by rw [if_pos rfl] at H; exact H
          clear H
          have H := H1
          clear H1
          obtain rfl := Option.some.inj H
          go_wp2
          go_ret
          exact ⟨by first | rfl | (simp [errW_none, errW_some] <;> rfl) | (simp [*, errW_none, errW_some] <;> rfl), by repeat (first | (with_reducible first | exact HB.out | apply below_alloc | apply pw_below_drewN | apply below_drew1) | exact HB.out)⟩
        · replace c15 := Bool.eq_false_iff.mpr c15
          subst c15
          have H1 : ((laws_clean.f kj6 300 (([a0] : List ByteArray))).bind fun t149 => (if t149 = true then ((impl_Parts.f a0 a1 a2 a3).bind fun t150 => (laws_FnPartsJoin.l0 kj6 a0 t150 t150 (t150.length : Int) 0)) else (some true))) = some r := by rw [if_neg (show ¬ (false = true) by decide)] at H; exact H
          clear H
          have H := H1
          clear H1
          obtain ⟨y146, hy146⟩ : ∃ y_ : List ByteArray, y_ = (([a0] : List ByteArray)) := ⟨_, rfl⟩
          replace H : ((laws_clean.f kj6 300 y146).bind fun t149 => (if t149 = true then ((impl_Parts.f a0 a1 a2 a3).bind fun t150 => (laws_FnPartsJoin.l0 kj6 a0 t150 t150 (t150.length : Int) 0)) else (some true))) = some r := by first | (rw [hy146]; with_reducible exact H) | (have H2_ := (Option.bind_some _ _).symm.trans H; rw [hy146]; with_reducible exact H2_) | (have H2_ := (Option.bind_some _ _).symm.trans H; with_reducible exact H2_) | with_reducible exact H | (rw [hy146]; exact H) | exact H
          have Ny146 := Aside0.mk hy146
          clear hy146
          replace H := Option.bind_eq_some_iff.mp H
          obtain ⟨t149, A160, H⟩ := H
          replace H : (if t149 = true then ((impl_Parts.f a0 a1 a2 a3).bind fun t150 => (laws_FnPartsJoin.l0 kj6 a0 t150 t150 (t150.length : Int) 0)) else (some true)) = some r := H
          have A16 := Aside0.mk A160
          clear A160
          by_cases c17 : t149 = true
          · subst c17
            have H1 : ((impl_Parts.f a0 a1 a2 a3).bind fun t150 => (laws_FnPartsJoin.l0 kj6 a0 t150 t150 (t150.length : Int) 0)) = some r := by rw [if_pos rfl] at H; exact H
            clear H
            have H := H1
            clear H1
            replace H := Option.bind_eq_some_iff.mp H
            obtain ⟨t150, A180, H⟩ := H
            replace H : (laws_FnPartsJoin.l0 kj6 a0 t150 t150 (t150.length : Int) 0) = some r := H
            have A18 := Aside0.mk A180
            clear A180
            have H' := Aside0.mk H
            clear H
            go_wp2_with (first | ((with_reducible refine gate_dst (N := 27) rfl ?_); refine Kd.R_lit Kd.string _ 9 ?hg (N := 27) ?hd (xs := ([a0] : List ByteArray)) (inner := [.string a0]) (ok := fun _ => True) (okp := fun _ => True) ?hr ?hp (fun _ hk => hk) trivial (Below.refl _ _) (Nat.le_refl _) (by simp) ?_; (case hd => rfl); (case hg => rfl); (case hr => first | (go_simp; done) | (go_simp; rfl)); (case hp => exact (Reps.one (show Kd.M Kd.string _ _ _ a0 [.string a0] from rfl) (Reps.none _ _))); intro v147 w19 ho20 hb hg_ hnew_; clear hg_ hnew_; (first | rw [← Ny146.out] at ho20 | (simp only [Int.reduceToNat] at ho20; rw [← Ny146.out] at ho20)); have n0_ := Aside0.mk (Kd.R_lower ho20 (below_size (by repeat (first | (with_reducible first | exact HB.out | apply below_alloc | apply pw_below_drewN | apply below_drew1) | exact HB.out)))); have n1_ := Aside0.mk (below_step (by repeat (first | (with_reducible first | exact HB.out | apply below_alloc | apply pw_below_drewN | apply below_drew1) | exact HB.out)) hb); clear HB; have HO148 := n0_; have HB := n1_; clear n0_ n1_; clear hb ho20; obtain ⟨Ao21, co21, eo21⟩ := Kd.R_slice HO148.out; subst eo21) | ((with_reducible refine gate_callee (f := 7) rfl ?_); refine goesL_ (some 28) rfl rfl Tryd.func7 (by kernel_rfl) rfl #[.int .i64 300, .slice Ao21 y146.length co21] rfl (by (try simp only [List.map_toArray, List.map_cons, List.map_nil]); first | done | rfl | (simp only [List.length_drop, List.length_take]; rfl)) ?_; (with_reducible refine (laws_clean.calls kj6 300 _ _ y146 true _ ?side1 ?side2 A16.out).mono ?_); (case side1 => repeat (first | exact (Kd.R_reads' HO148.out).2.2 | (with_reducible refine Kd.C_alloc ?_ _) | (with_reducible refine Kd.C_drewN ?_ _) | (with_reducible refine Kd.C_drew ?_))); (case side2 => exact (Kd.R_reads' HO148.out).2.1); rintro e w22 ⟨rfl, hb⟩; refine ⟨_, rfl, ?_⟩; have n0_ := Aside0.mk (Kd.R_below (by (with_reducible repeat (first | apply Kd.R_alloc | apply Kd.R_drewN | apply Kd.R_drew)); exact HO148.out) hb); have n1_ := Aside0.mk (below_step (by repeat (first | (with_reducible first | exact HB.out | apply below_alloc | apply pw_below_drewN | apply below_drew1) | exact HB.out)) hb); clear HO148; clear HB; have HO148 := n0_; have HB := n1_; clear n0_ n1_; (try clear hb); (try clear hb2); (try clear hk); (try clear hi)) | ((with_reducible refine gate_callee (f := 6) rfl ?_); refine goesL_ (some 34) rfl rfl Tryd.func6 (by kernel_rfl) rfl #[.string a0, .bool a1, .bool a2, .bool a3] rfl (by (try simp only [List.map_toArray, List.map_cons, List.map_nil]); first | done | rfl | (simp only [List.length_drop, List.length_take]; rfl)) ?_; (with_reducible refine (impl_Parts.calls a0 a1 a2 a3 t150 _ (HT_.out _ (by repeat (first | (with_reducible first | exact HB.out | apply below_alloc | apply pw_below_drewN | apply below_drew1) | exact HB.out))) A18.out).mono ?_); rintro e w23 ⟨v151, rfl, ho0, hb⟩; refine ⟨_, rfl, ?_⟩; have n0_ := Aside0.mk (Kd.R_elder' (by (with_reducible repeat (first | apply Kd.R_alloc | apply Kd.R_drewN | apply Kd.R_drew)); exact HO148.out) (by first | exact Kd.N_base ho0 | exact Kd.S_base ho0 | exact Kd.R_base ho0) hb); have n1_ := Aside0.mk (Kd.R_lower (Kd.R_new' ho0 (Kd.R_lt (by (with_reducible repeat (first | apply Kd.R_alloc | apply Kd.R_drewN | apply Kd.R_drew)); exact HO148.out))) (below_size (by repeat (first | (with_reducible first | exact HB.out | apply below_alloc | apply pw_below_drewN | apply below_drew1) | exact HB.out)))); have n2_ := Aside0.mk (below_step (by repeat (first | (with_reducible first | exact HB.out | apply below_alloc | apply pw_below_drewN | apply below_drew1) | exact HB.out)) hb); clear HO148; clear HB; have HO148 := n0_; have HO152 := n1_; have HB := n2_; clear n0_ n1_ n2_; (try clear hb); (try clear hb2); (try clear hk); (try clear hi); (try clear ho0); obtain ⟨Ao24, co24, eo24⟩ := Kd.R_slice HO152.out; subst eo24))
            go_loopg [37] kj6 (fun kq v37 w' => ∃ (x37_2 : Int), v37 = .int .i64 x37_2 ∧ Aside0 (laws_FnPartsJoin.l0 kq a0 t150 t150 (t150.length : Int) x37_2 = some r) ∧ Aside0 (kq ≤ kj6) ∧ Aside0 (Kd.R Kd.string 9 w' w.heap.size (fun _ => True) (.slice Ao24 t150.length co24) t150) ∧ Aside0 (Kd.R Kd.string 9 w' w.heap.size (fun _ => True) (.slice Ao24 t150.length co24) t150) ∧ Aside0 (Below w.heap.size w w'))
            case atStart => exact ⟨(0), (by first | rfl | (simp; done) | (simp [*]; done)), H', ⟨Nat.le_refl _⟩, ⟨by (with_reducible repeat (first | apply Kd.R_alloc | apply Kd.R_drewN | apply Kd.R_drew)); exact Kd.R_mono HO152.out (fun _ hk => trivial)⟩, ⟨by (with_reducible repeat (first | apply Kd.R_alloc | apply Kd.R_drewN | apply Kd.R_drew)); exact Kd.R_mono HO152.out (fun _ hk => trivial)⟩, ⟨by repeat (first | (with_reducible first | exact HB.out | apply below_alloc | apply pw_below_drewN | apply below_drew1) | exact HB.out)⟩⟩
            case round =>
              clear H'
              try clear c1
              try clear p2
              try clear c4
              try clear c5
              try clear c5b0
              try clear c5b1
              try clear c6
              try clear c7
              try clear c9
              try clear c9b0
              try clear c9b1
              try clear c9b2
              try clear c15
              try clear c17
              try clear p2
              obtain ⟨x37_2, rfl, HA, HK2, HO_10, HO_35, HB⟩ := hrel
              cases gk with
              | zero => exact absurd HA.out (by simp [laws_FnPartsJoin.l0])
              | succ k2 =>
                have H := HA.out
                clear HA
                simp only [laws_FnPartsJoin.l0] at H
                by_cases c25 : x37_2 < (t150.length : Int)
                · rw [if_pos c25] at H
                  have c25b0 : decide (x37_2 < (t150.length : Int)) = true := decide_eq_true c25
                  clear c25
                  by_cases c26 : 0 ≤ x37_2
                  · rw [if_pos c26] at H
                    have c26b0 : decide (0 ≤ x37_2) = true := decide_eq_true c26
                    clear c26
                    by_cases c27 : x37_2 < (t150.length : Int)
                    · rw [if_pos c27] at H
                      have c27b0 : decide (x37_2 < (t150.length : Int)) = true := decide_eq_true c27
                      clear c27
                      by_cases c28 : (rdOf ByteArray.empty t150 x37_2).toList = ([] : List UInt8)
                      · rw [if_pos c28] at H
                        have c28b0 : ((rdOf ByteArray.empty t150 x37_2).toList == ([] : List UInt8)) = true := beq_iff_eq.mpr c28
                        have c28b1 : ((rdOf ByteArray.empty t150 x37_2).toList != ([] : List UInt8)) = false := bne_eq_false_iff_eq.mpr c28
                        clear c28
                        obtain rfl := Option.some.inj H
                        have p153 : 0 ≤ (x37_2 : Int) := of_decide_eq_true (by first | (with_reducible assumption) | assumption)
                        have q153 : x37_2 < (t150.length : Int) := of_decide_eq_true (by first | (with_reducible assumption) | assumption)
                        obtain ⟨ad153, e153, hx153_0⟩ := Kd.at_string (Kd.R_reads' HO_35.out).2.2 x37_2 p153 q153
                        cases e153
                        replace p153 := eq_true p153
                        replace q153 := eq_true q153
                        go_wp2
                        go_ret
                        exact ⟨by first | rfl | (simp [errW_none, errW_some] <;> rfl) | (simp [*, errW_none, errW_some] <;> rfl), by repeat (first | (with_reducible first | exact HB.out | apply below_alloc | apply pw_below_drewN | apply below_drew1) | exact HB.out)⟩
                      · rw [if_neg c28] at H
                        have c28b0 : ((rdOf ByteArray.empty t150 x37_2).toList == ([] : List UInt8)) = false := beq_eq_false_iff_ne.mpr c28
                        have c28b1 : ((rdOf ByteArray.empty t150 x37_2).toList != ([] : List UInt8)) = true := bne_iff_ne.mpr c28
                        have H' := Aside0.mk H
                        clear H
                        have p153 : 0 ≤ (x37_2 : Int) := of_decide_eq_true (by first | (with_reducible assumption) | assumption)
                        have q153 : x37_2 < (t150.length : Int) := of_decide_eq_true (by first | (with_reducible assumption) | assumption)
                        obtain ⟨ad153, e153, hx153_0⟩ := Kd.at_string (Kd.R_reads' HO_35.out).2.2 x37_2 p153 q153
                        cases e153
                        replace p153 := eq_true p153
                        replace q153 := eq_true q153
                        go_wp2
                        go_roundg k2
                        case measure => have := HJ6.out; have := HK2.out; omega
                        case rel => exact ⟨(wrap64 (x37_2 + 1)), (by first | rfl | (simp; done) | (simp [*]; done)), H', ⟨by have := HJ6.out; have := HK2.out; omega⟩, ⟨by (with_reducible repeat (first | apply Kd.R_alloc | apply Kd.R_drewN | apply Kd.R_drew)); exact HO_10.out⟩, ⟨by (with_reducible repeat (first | apply Kd.R_alloc | apply Kd.R_drewN | apply Kd.R_drew)); exact HO_35.out⟩, ⟨by repeat (first | (with_reducible first | exact HB.out | apply below_alloc | apply pw_below_drewN | apply below_drew1) | exact HB.out)⟩⟩
                    · rw [if_neg c27] at H
                      exact absurd H (by simp)
                  · rw [if_neg c26] at H
                    exact absurd H (by simp)
                · rw [if_neg c25] at H
                  have c25b0 : decide (x37_2 < (t150.length : Int)) = false := decide_eq_false c25
                  clear c25
                  replace H := Option.bind_eq_some_iff.mp H
                  obtain ⟨t154, A290, H⟩ := H
                  replace H : ((laws_lowered.f t154).bind fun t155 => ((laws_lowered.f a0).bind fun t156 => (some (t155.toList == t156.toList)))) = some r := H
                  have A29 := Aside0.mk A290
                  clear A290
                  replace H := Option.bind_eq_some_iff.mp H
                  obtain ⟨t155, A300, H⟩ := H
                  replace H : ((laws_lowered.f a0).bind fun t156 => (some (t155.toList == t156.toList))) = some r := H
                  have A30 := Aside0.mk A300
                  clear A300
                  replace H := Option.bind_eq_some_iff.mp H
                  obtain ⟨t156, A310, H⟩ := H
                  replace H : (some (t155.toList == t156.toList)) = some r := H
                  have A31 := Aside0.mk A310
                  clear A310
                  obtain rfl := Option.some.inj H
                  go_wp2_with (first | ((with_reducible refine gate_callee (f := 9) rfl ?_); refine goesL_ (some 45) rfl rfl Tryd.func9 (by kernel_rfl) rfl #[.slice Ao24 t150.length co24] rfl (by (try simp only [List.map_toArray, List.map_cons, List.map_nil]); first | done | rfl | (simp only [List.length_drop, List.length_take]; rfl)) ?_; (with_reducible refine (laws_joined.calls k2 _ _ t150 t154 _ ?side1 ?side2 A29.out).mono ?_); (case side1 => repeat (first | exact (Kd.R_reads' HO_10.out).2.2 | (with_reducible refine Kd.C_alloc ?_ _) | (with_reducible refine Kd.C_drewN ?_ _) | (with_reducible refine Kd.C_drew ?_))); (case side2 => exact (Kd.R_reads' HO_10.out).2.1); rintro e w' ⟨rfl, ⟨nd, rfl⟩⟩; refine ⟨_, rfl, ?_⟩) | ((with_reducible refine gate_callee (f := 8) rfl ?_); refine goesL_ (some 46) rfl rfl Tryd.func8 (by kernel_rfl) rfl #[.string t154] rfl (by (try simp only [List.map_toArray, List.map_cons, List.map_nil]); first | done | rfl | (simp only [List.length_drop, List.length_take]; rfl)) ?_; (with_reducible refine (laws_lowered.calls t154 t155 _ A30.out).mono ?_); rintro e w32 ⟨rfl, hb⟩; refine ⟨_, rfl, ?_⟩; have n0_ := Aside0.mk (Kd.R_below (by (with_reducible repeat (first | apply Kd.R_alloc | apply Kd.R_drewN | apply Kd.R_drew)); exact HO_10.out) hb); have n1_ := Aside0.mk (Kd.R_below (by (with_reducible repeat (first | apply Kd.R_alloc | apply Kd.R_drewN | apply Kd.R_drew)); exact HO_35.out) hb); have n2_ := Aside0.mk (below_step (by repeat (first | (with_reducible first | exact HB.out | apply below_alloc | apply pw_below_drewN | apply below_drew1) | exact HB.out)) hb); clear HO_10; clear HO_35; clear HB; have HO_10 := n0_; have HO_35 := n1_; have HB := n2_; clear n0_ n1_ n2_; (try clear hb); (try clear hb2); (try clear hk); (try clear hi)) | ((with_reducible refine gate_callee (f := 8) rfl ?_); refine goesL_ (some 48) rfl rfl Tryd.func8 (by kernel_rfl) rfl #[.string a0] rfl (by (try simp only [List.map_toArray, List.map_cons, List.map_nil]); first | done | rfl | (simp only [List.length_drop, List.length_take]; rfl)) ?_; (with_reducible refine (laws_lowered.calls a0 t156 _ A31.out).mono ?_); rintro e w33 ⟨rfl, hb⟩; refine ⟨_, rfl, ?_⟩; have n0_ := Aside0.mk (Kd.R_below (by (with_reducible repeat (first | apply Kd.R_alloc | apply Kd.R_drewN | apply Kd.R_drew)); exact HO_10.out) hb); have n1_ := Aside0.mk (Kd.R_below (by (with_reducible repeat (first | apply Kd.R_alloc | apply Kd.R_drewN | apply Kd.R_drew)); exact HO_35.out) hb); have n2_ := Aside0.mk (below_step (by repeat (first | (with_reducible first | exact HB.out | apply below_alloc | apply pw_below_drewN | apply below_drew1) | exact HB.out)) hb); clear HO_10; clear HO_35; clear HB; have HO_10 := n0_; have HO_35 := n1_; have HB := n2_; clear n0_ n1_ n2_; (try clear hb); (try clear hb2); (try clear hk); (try clear hi)))
                  go_ret
                  exact ⟨by first | rfl | (simp [errW_none, errW_some] <;> rfl) | (simp [*, errW_none, errW_some] <;> rfl), by repeat (first | (with_reducible first | exact HB.out | apply below_alloc | apply pw_below_drewN | apply below_drew1) | exact HB.out)⟩
          · replace c17 := Bool.eq_false_iff.mpr c17
            subst c17
            have H1 : (some true) = some r := by rw [if_neg (show ¬ (false = true) by decide)] at H; exact H
            clear H
            have H := H1
            clear H1
            obtain rfl := Option.some.inj H
            go_wp2_with (first | ((with_reducible refine gate_dst (N := 27) rfl ?_); refine Kd.R_lit Kd.string _ 9 ?hg (N := 27) ?hd (xs := ([a0] : List ByteArray)) (inner := [.string a0]) (ok := fun _ => True) (okp := fun _ => True) ?hr ?hp (fun _ hk => hk) trivial (Below.refl _ _) (Nat.le_refl _) (by simp) ?_; (case hd => rfl); (case hg => rfl); (case hr => first | (go_simp; done) | (go_simp; rfl)); (case hp => exact (Reps.one (show Kd.M Kd.string _ _ _ a0 [.string a0] from rfl) (Reps.none _ _))); intro v147 w34 ho35 hb hg_ hnew_; clear hg_ hnew_; (first | rw [← Ny146.out] at ho35 | (simp only [Int.reduceToNat] at ho35; rw [← Ny146.out] at ho35)); have n0_ := Aside0.mk (Kd.R_lower ho35 (below_size (by repeat (first | (with_reducible first | exact HB.out | apply below_alloc | apply pw_below_drewN | apply below_drew1) | exact HB.out)))); have n1_ := Aside0.mk (below_step (by repeat (first | (with_reducible first | exact HB.out | apply below_alloc | apply pw_below_drewN | apply below_drew1) | exact HB.out)) hb); clear HB; have HO148 := n0_; have HB := n1_; clear n0_ n1_; clear hb ho35; obtain ⟨Ao36, co36, eo36⟩ := Kd.R_slice HO148.out; subst eo36) | ((with_reducible refine gate_callee (f := 7) rfl ?_); refine goesL_ (some 28) rfl rfl Tryd.func7 (by kernel_rfl) rfl #[.int .i64 300, .slice Ao36 y146.length co36] rfl (by (try simp only [List.map_toArray, List.map_cons, List.map_nil]); first | done | rfl | (simp only [List.length_drop, List.length_take]; rfl)) ?_; (with_reducible refine (laws_clean.calls kj6 300 _ _ y146 false _ ?side1 ?side2 A16.out).mono ?_); (case side1 => repeat (first | exact (Kd.R_reads' HO148.out).2.2 | (with_reducible refine Kd.C_alloc ?_ _) | (with_reducible refine Kd.C_drewN ?_ _) | (with_reducible refine Kd.C_drew ?_))); (case side2 => exact (Kd.R_reads' HO148.out).2.1); rintro e w37 ⟨rfl, hb⟩; refine ⟨_, rfl, ?_⟩; have n0_ := Aside0.mk (Kd.R_below (by (with_reducible repeat (first | apply Kd.R_alloc | apply Kd.R_drewN | apply Kd.R_drew)); exact HO148.out) hb); have n1_ := Aside0.mk (below_step (by repeat (first | (with_reducible first | exact HB.out | apply below_alloc | apply pw_below_drewN | apply below_drew1) | exact HB.out)) hb); clear HO148; clear HB; have HO148 := n0_; have HB := n1_; clear n0_ n1_; (try clear hb); (try clear hb2); (try clear hk); (try clear hi)))
            go_ret
            exact ⟨by first | rfl | (simp [errW_none, errW_some] <;> rfl) | (simp [*, errW_none, errW_some] <;> rfl), by repeat (first | (with_reducible first | exact HB.out | apply below_alloc | apply pw_below_drewN | apply below_drew1) | exact HB.out)⟩

/-- THE ONE PURE STATEMENT of laws_FnPartsJoin: yours. -/
def laws_FnPartsJoin.Pure : Prop := ∀ (a0 : ByteArray) (a1 : Bool) (a2 : Bool) (a3 : Bool), a0.size ≤ 140737488351232 → ∃ k, laws_FnPartsJoin.f k a0 a1 a2 a3 = some true

end Go.Proofs.YthecfligfhpccaaDoor.P
